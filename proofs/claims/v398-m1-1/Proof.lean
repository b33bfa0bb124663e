import JvmDerived
import JvmDerived.Pilot.@@N@@Statement
import JvmDerived.Pilot.@@N@@Code
set_option linter.unusedVariables false
set_option linter.unusedSimpArgs false
namespace Jvm.Pilot.@@N@@
open Jvm Jvm.ClassFile Sem Op Lib Jvm.Free Jvm.Stand Jvm.LawKit Jvm.RoadKit Bundle Jvm.Pilot.@@N@@.Jvm.D
section Own
variable {p : Program} {l : Launch} {e : Env} {R : Room} {s : State} {m : MethodId} {args : Array Value} {below : List Frame} {meth : Method} {c : Code} {Z : State} {a0 : Array Value} {n0 : Nat} {Q : Option Value → Heap → Prop} {Kf : State → Outcome → Prop} {h : Heap} {k q : Nat} {own nm : String} {bytes : ByteArray} {maxL : Nat} {ret : Option FieldType} {pc pc' pc1 pc2 : Nat} {Ls Ls' : Array Slot} {rest : List Value}
/-- how a run of the body ends: it returns, nothing old is written, and Q holds of what is returned and of the heap -/
def own_K (below : List Frame) (R : Room) (s : State) (n0 : Nat) (Q : Option Value → Heap → Prop) (t : State) (o : Outcome) : Prop :=
  t.status = .running ∧ Ended t below o ∧ ∃ v L, o = .returned v ∧ (Fr n0 L ∧ Q v t.heap) ∧ FrameEnd s o t L R.cells R.slots
/-- from the frame g, with the heap h, k cells and q slots made so far: the run ends as own_K says -/
def own_Run (p : Program) (l : Launch) (e : Env) (R : Room) (s : State) (m : MethodId) (args : Array Value) (below : List Frame) (meth : Method) (c : Code) (n0 : Nat) (Kf : State → Outcome → Prop) (h : Heap) (k q : Nat) (g : JFrame) : Prop :=
  ∀ (T : State) (locs : List Loc), Stand p l e R s m args below meth c T locs k q → T.heap = h → Fr n0 locs → ∃ t o, Steps p.tables e below (T.setTop g) t ∧ Kf t o
/-- what stands fast through a body -/
def own_Ctx (p : Program) (s : State) (m : MethodId) (meth : Method) (c : Code) (Z : State) (own nm : String) (bytes : ByteArray) (maxL : Nat) (ret : Option FieldType) : Prop :=
  p.tables.exec = Jvm.exec ∧ Z.Warmed39 s.vm ∧ s.vm.findClass own = some m.cls ∧ c.code = bytes ∧ c.maxLocals = maxL ∧ meth.sig.returnType = ret ∧ meth.locks = false ∧ meth.name = nm
theorem own_Ctx.g_x (C : own_Ctx p s m meth c Z own nm bytes maxL ret) : p.tables.exec = Jvm.exec := C.1
theorem own_Ctx.g_z (C : own_Ctx p s m meth c Z own nm bytes maxL ret) : Z.Warmed39 s.vm := C.2.1
theorem own_Ctx.g_own (C : own_Ctx p s m meth c Z own nm bytes maxL ret) : s.vm.findClass own = some m.cls := C.2.2.1
theorem own_Ctx.g_by (C : own_Ctx p s m meth c Z own nm bytes maxL ret) : c.code = bytes := C.2.2.2.1
theorem own_Ctx.g_ml (C : own_Ctx p s m meth c Z own nm bytes maxL ret) : c.maxLocals = maxL := C.2.2.2.2.1
theorem own_Ctx.g_rt (C : own_Ctx p s m meth c Z own nm bytes maxL ret) : meth.sig.returnType = ret := C.2.2.2.2.2.1
theorem own_Ctx.g_lk (C : own_Ctx p s m meth c Z own nm bytes maxL ret) : meth.locks = false := C.2.2.2.2.2.2.1
theorem own_Ctx.g_nm (C : own_Ctx p s m meth c Z own nm bytes maxL ret) : meth.name = nm := C.2.2.2.2.2.2.2
/-- a method's contract: called with these arguments at the heap h, it returns as Q says -/
def own_Met (l : Launch) (Z : State) (n0 : Nat) (y : MethodName) (bytes : ByteArray) (maxL : Nat) (ret : Option FieldType) (rm : Room) (ws : List Jvm.Cond) (as' : Array Value) (h : Heap) (Q : Option Value → Heap → Prop) : Prop :=
  MetFree l y (head1 (Jvm.Cond.code y bytes maxL ret :: ws) rm) (fun a U => a = as' ∧ Z.Warmed39 U.vm ∧ U.heap = h) (fun _ _ _ _ _ => True) (fun _ U o U' => ∃ v L, o = .returned v ∧ (Fr n0 L ∧ Q v U'.heap) ∧ FrameEnd U o U' L rm.cells rm.slots)
theorem own_met {y : MethodName} {rm : Room} {ws : List Jvm.Cond} {as' : Array Value} (hn : plainName y.cls = true) (Ls : Array Slot) (hef : ∀ m : MethodId, entryFrame m as' maxL = mkF m 0 Ls [])
    (body : ∀ (p : Program) (e : Env) (s : State) (m : MethodId) (below : List Frame) (meth : Method) (c : Code), own_Ctx p s m meth c Z y.cls y.name bytes maxL ret → own_Run p l e rm s m as' below meth c n0 (own_K below rm s n0 Q) h 0 0 (mkF m 0 Ls [])) :
    own_Met l Z n0 y bytes maxL ret rm ws as' h Q := by
  refine MetFree.of_bodySF (plainFor_of_name hn) hisR ?_
  intro p e s m args below meth c s₁ Bd hml0 hP hK
  obtain ⟨rfl, hZ, hh⟩ := hP
  have C : own_Ctx p s m meth c Z y.cls y.name bytes maxL ret := ⟨Bd.exec, hZ, findClass_of_methodNamed Bd.named, Bd.bytes, hml0, Bd.returns, BodyLoose.notSynchronized Bd, (name_of_methodNamed Bd.named Bd.method).1⟩
  obtain ⟨t, o, h1, h2, h3, h4⟩ := body p e s m below meth c C s₁ [] (Stand.of_body Bd) (by rw [← hh, Bd.state]; rfl) (Fr.nil n0)
  exact ⟨t, o, castTop (hef m) h1, h2, h3, h4⟩
theorem own_st {g g' : JFrame} (h1 : ∀ (T : State) (locs : List Loc), Stand p l e R s m args below meth c T locs k q → T.heap = h → ∀ target, Steps p.tables e below (T.setTop g') target → Steps p.tables e below (T.setTop g) target) (r : own_Run p l e R s m args below meth c n0 Kf h k q g') : own_Run p l e R s m args below meth c n0 Kf h k q g := fun T locs X eT N => by
  obtain ⟨t, o, h2, h3⟩ := r T locs X eT N
  exact ⟨t, o, h1 T locs X eT t h2, h3⟩
theorem own_more {k' q' : Nat} {g : JFrame} (hk : k ≤ k') (hq : q ≤ q') (r : own_Run p l e R s m args below meth c n0 Kf h k' q' g) : own_Run p l e R s m args below meth c n0 Kf h k q g := fun T locs X eT N => r T locs (X.more hk hq) eT N
theorem own_iloadN (C : own_Ctx p s m meth c Z own nm bytes maxL ret) {i : Fin 4} {v : Int32} (hd : decode bytes pc = .ok (.iload_n i, 1)) (hp : pc + 1 = pc') (hl : Ls[i.val]? = some (.val (.int v))) (r : own_Run p l e R s m args below meth c n0 Kf h k q (mkF m pc' Ls (.int v :: rest))) : own_Run p l e R s m args below meth c n0 Kf h k q (mkF m pc Ls (rest)) :=
  own_st (fun T locs X eT t kk => by subst hp; exact Jvm.Free.XS.iloadN X.here C.g_x rfl (hb C.g_by hd) hl kk) r
theorem own_iload (C : own_Ctx p s m meth c Z own nm bytes maxL ret) {i : Nat} {v : Int32} (hd : decode bytes pc = .ok (.iload i, 2)) (hp : pc + 2 = pc') (hl : Ls[i]? = some (.val (.int v))) (r : own_Run p l e R s m args below meth c n0 Kf h k q (mkF m pc' Ls (.int v :: rest))) : own_Run p l e R s m args below meth c n0 Kf h k q (mkF m pc Ls (rest)) :=
  own_st (fun T locs X eT t kk => by subst hp; exact Jvm.Free.XS.iload X.here C.g_x rfl (hb C.g_by hd) hl kk) r
theorem own_lloadN (C : own_Ctx p s m meth c Z own nm bytes maxL ret) {i : Fin 4} {v : Int64} (hd : decode bytes pc = .ok (.lload_n i, 1)) (hp : pc + 1 = pc') (hl : Ls[i.val]? = some (.val (.long v))) (r : own_Run p l e R s m args below meth c n0 Kf h k q (mkF m pc' Ls (.long v :: rest))) : own_Run p l e R s m args below meth c n0 Kf h k q (mkF m pc Ls (rest)) :=
  own_st (fun T locs X eT t kk => by subst hp; exact Jvm.Free.XT.lloadN X.here C.g_x rfl (hb C.g_by hd) hl kk) r
theorem own_lload (C : own_Ctx p s m meth c Z own nm bytes maxL ret) {i : Nat} {v : Int64} (hd : decode bytes pc = .ok (.lload i, 2)) (hp : pc + 2 = pc') (hl : Ls[i]? = some (.val (.long v))) (r : own_Run p l e R s m args below meth c n0 Kf h k q (mkF m pc' Ls (.long v :: rest))) : own_Run p l e R s m args below meth c n0 Kf h k q (mkF m pc Ls (rest)) :=
  own_st (fun T locs X eT t kk => by subst hp; exact Jvm.Free.XT.lload X.here C.g_x rfl (hb C.g_by hd) hl kk) r
theorem own_aloadN (C : own_Ctx p s m meth c Z own nm bytes maxL ret) {i : Fin 4} {v : Value} (hd : decode bytes pc = .ok (.aload_n i, 1)) (hp : pc + 1 = pc') (hl : Ls[i.val]? = some (.val v)) (hv : v.isRef = true) (r : own_Run p l e R s m args below meth c n0 Kf h k q (mkF m pc' Ls (v :: rest))) : own_Run p l e R s m args below meth c n0 Kf h k q (mkF m pc Ls (rest)) :=
  own_st (fun T locs X eT t kk => by subst hp; exact Jvm.Free.XS.aloadN X.here C.g_x rfl (hb C.g_by hd) hl hv kk) r
theorem own_aload (C : own_Ctx p s m meth c Z own nm bytes maxL ret) {i : Nat} {v : Value} (hd : decode bytes pc = .ok (.aload i, 2)) (hp : pc + 2 = pc') (hl : Ls[i]? = some (.val v)) (hv : v.isRef = true) (r : own_Run p l e R s m args below meth c n0 Kf h k q (mkF m pc' Ls (v :: rest))) : own_Run p l e R s m args below meth c n0 Kf h k q (mkF m pc Ls (rest)) :=
  own_st (fun T locs X eT t kk => by subst hp; exact Jvm.Free.XS.aload X.here C.g_x rfl (hb C.g_by hd) hl hv kk) r
theorem own_istoreN (C : own_Ctx p s m meth c Z own nm bytes maxL ret) {i : Fin 4} {v : Int32} (hd : decode bytes pc = .ok (.istore_n i, 1)) (hp : pc + 1 = pc') (hl : storeLocals Ls i.val (.int v) = some Ls') (r : own_Run p l e R s m args below meth c n0 Kf h k q (mkF m pc' Ls' (rest))) : own_Run p l e R s m args below meth c n0 Kf h k q (mkF m pc Ls (.int v :: rest)) :=
  own_st (fun T locs X eT t kk => by subst hp; exact Jvm.Free.XS.istoreN X.here C.g_x rfl (hb C.g_by hd) rfl hl kk) r
theorem own_istore (C : own_Ctx p s m meth c Z own nm bytes maxL ret) {i : Nat} {v : Int32} (hd : decode bytes pc = .ok (.istore i, 2)) (hp : pc + 2 = pc') (hl : storeLocals Ls i (.int v) = some Ls') (r : own_Run p l e R s m args below meth c n0 Kf h k q (mkF m pc' Ls' (rest))) : own_Run p l e R s m args below meth c n0 Kf h k q (mkF m pc Ls (.int v :: rest)) :=
  own_st (fun T locs X eT t kk => by subst hp; exact Jvm.Free.XS.istore X.here C.g_x rfl (hb C.g_by hd) rfl hl kk) r
theorem own_lstoreN (C : own_Ctx p s m meth c Z own nm bytes maxL ret) {i : Fin 4} {v : Int64} (hd : decode bytes pc = .ok (.lstore_n i, 1)) (hp : pc + 1 = pc') (hl : storeLocals Ls i.val (.long v) = some Ls') (r : own_Run p l e R s m args below meth c n0 Kf h k q (mkF m pc' Ls' (rest))) : own_Run p l e R s m args below meth c n0 Kf h k q (mkF m pc Ls (.long v :: rest)) :=
  own_st (fun T locs X eT t kk => by subst hp; exact Jvm.Free.XT.lstoreN X.here C.g_x rfl (hb C.g_by hd) rfl hl kk) r
theorem own_lstore (C : own_Ctx p s m meth c Z own nm bytes maxL ret) {i : Nat} {v : Int64} (hd : decode bytes pc = .ok (.lstore i, 2)) (hp : pc + 2 = pc') (hl : storeLocals Ls i (.long v) = some Ls') (r : own_Run p l e R s m args below meth c n0 Kf h k q (mkF m pc' Ls' (rest))) : own_Run p l e R s m args below meth c n0 Kf h k q (mkF m pc Ls (.long v :: rest)) :=
  own_st (fun T locs X eT t kk => by subst hp; exact Jvm.Free.XT.lstore X.here C.g_x rfl (hb C.g_by hd) rfl hl kk) r
theorem own_astoreN (C : own_Ctx p s m meth c Z own nm bytes maxL ret) {i : Fin 4} {v : Value} (hd : decode bytes pc = .ok (.astore_n i, 1)) (hp : pc + 1 = pc') (hv : v.isRef = true) (hl : storeLocals Ls i.val v = some Ls') (r : own_Run p l e R s m args below meth c n0 Kf h k q (mkF m pc' Ls' (rest))) : own_Run p l e R s m args below meth c n0 Kf h k q (mkF m pc Ls (v :: rest)) :=
  own_st (fun T locs X eT t kk => by subst hp; exact Jvm.Free.XS.astoreN X.here C.g_x rfl (hb C.g_by hd) rfl hv hl kk) r
theorem own_astore (C : own_Ctx p s m meth c Z own nm bytes maxL ret) {i : Nat} {v : Value} (hd : decode bytes pc = .ok (.astore i, 2)) (hp : pc + 2 = pc') (hv : v.isRef = true) (hl : storeLocals Ls i v = some Ls') (r : own_Run p l e R s m args below meth c n0 Kf h k q (mkF m pc' Ls' (rest))) : own_Run p l e R s m args below meth c n0 Kf h k q (mkF m pc Ls (v :: rest)) :=
  own_st (fun T locs X eT t kk => by subst hp; exact Jvm.Free.XS.astore X.here C.g_x rfl (hb C.g_by hd) rfl hv hl kk) r
theorem own_iinc (C : own_Ctx p s m meth c Z own nm bytes maxL ret) {i : Nat} {cst : Int} {v w : Int32} (hd : decode bytes pc = .ok (.iinc i cst, 3)) (hp : pc + 3 = pc') (hv : Int32.ofInt cst = w) (hl : Ls[i]? = some (.val (.int v))) (hl' : storeLocals Ls i (.int (v + w)) = some Ls') (r : own_Run p l e R s m args below meth c n0 Kf h k q (mkF m pc' Ls' (rest))) : own_Run p l e R s m args below meth c n0 Kf h k q (mkF m pc Ls (rest)) :=
  own_st (fun T locs X eT t kk => by subst hp; exact Jvm.Free.XT.iincV X.here C.g_x rfl w (hb C.g_by hd) hv hl hl' kk) r
theorem own_iincV (C : own_Ctx p s m meth c Z own nm bytes maxL ret) {i : Nat} {cst : Int} {v w x : Int32} (hd : decode bytes pc = .ok (.iinc i cst, 3)) (hp : pc + 3 = pc') (hv : Int32.ofInt cst = w) (hs : v + w = x) (hl : Ls[i]? = some (.val (.int v))) (hl' : storeLocals Ls i (.int x) = some Ls') (r : own_Run p l e R s m args below meth c n0 Kf h k q (mkF m pc' Ls' (rest))) : own_Run p l e R s m args below meth c n0 Kf h k q (mkF m pc Ls (rest)) :=
  own_st (fun T locs X eT t kk => by subst hp; exact Jvm.Free.XT.iincV X.here C.g_x rfl w (hb C.g_by hd) hv hl (by rw [hs]; exact hl') kk) r
theorem own_iconst (C : own_Ctx p s m meth c Z own nm bytes maxL ret) {i : Int} {v : Int32} (hd : decode bytes pc = .ok (.iconst i, 1)) (hp : pc + 1 = pc') (hv : Int32.ofInt i = v) (r : own_Run p l e R s m args below meth c n0 Kf h k q (mkF m pc' Ls (.int v :: rest))) : own_Run p l e R s m args below meth c n0 Kf h k q (mkF m pc Ls (rest)) :=
  own_st (fun T locs X eT t kk => by subst hp; exact Jvm.Free.XT.iconstV X.here C.g_x rfl v (hb C.g_by hd) hv kk) r
theorem own_bipush (C : own_Ctx p s m meth c Z own nm bytes maxL ret) {i : Int} {v : Int32} (hd : decode bytes pc = .ok (.bipush i, 2)) (hp : pc + 2 = pc') (hv : (Int8.ofInt i).toInt32 = v) (r : own_Run p l e R s m args below meth c n0 Kf h k q (mkF m pc' Ls (.int v :: rest))) : own_Run p l e R s m args below meth c n0 Kf h k q (mkF m pc Ls (rest)) :=
  own_st (fun T locs X eT t kk => by subst hp; exact Jvm.Free.XT.bipushV X.here C.g_x rfl v (hb C.g_by hd) hv kk) r
theorem own_sipush (C : own_Ctx p s m meth c Z own nm bytes maxL ret) {i : Int} {v : Int32} (hd : decode bytes pc = .ok (.sipush i, 3)) (hp : pc + 3 = pc') (hv : (Int16.ofInt i).toInt32 = v) (r : own_Run p l e R s m args below meth c n0 Kf h k q (mkF m pc' Ls (.int v :: rest))) : own_Run p l e R s m args below meth c n0 Kf h k q (mkF m pc Ls (rest)) :=
  own_st (fun T locs X eT t kk => by subst hp; exact Jvm.Free.XT.sipushV X.here C.g_x rfl v (hb C.g_by hd) hv kk) r
theorem own_lconst (C : own_Ctx p s m meth c Z own nm bytes maxL ret) {i : Fin 2} {v : Int64} (hd : decode bytes pc = .ok (.lconst i, 1)) (hp : pc + 1 = pc') (hv : Int64.ofNat i = v) (r : own_Run p l e R s m args below meth c n0 Kf h k q (mkF m pc' Ls (.long v :: rest))) : own_Run p l e R s m args below meth c n0 Kf h k q (mkF m pc Ls (rest)) :=
  own_st (fun T locs X eT t kk => by subst hp; exact Jvm.Free.XT.lconstV X.here C.g_x rfl v (hb C.g_by hd) hv kk) r
theorem own_aconst (C : own_Ctx p s m meth c Z own nm bytes maxL ret)  (hd : decode bytes pc = .ok (.aconst_null, 1)) (hp : pc + 1 = pc')  (r : own_Run p l e R s m args below meth c n0 Kf h k q (mkF m pc' Ls (.null :: rest))) : own_Run p l e R s m args below meth c n0 Kf h k q (mkF m pc Ls (rest)) :=
  own_st (fun T locs X eT t kk => by subst hp; exact Jvm.Free.XS.aconstNull X.here C.g_x rfl (hb C.g_by hd) kk) r
theorem own_ldc (C : own_Ctx p s m meth c Z own nm bytes maxL ret) {i : Nat} {v : Int32} (hd : decode bytes pc = .ok (.ldc i, 2)) (hp : pc + 2 = pc') (hc : (Jvm.Cond.constant own i v).before a0 Z = true) (r : own_Run p l e R s m args below meth c n0 Kf h k q (mkF m pc' Ls (.int v :: rest))) : own_Run p l e R s m args below meth c n0 Kf h k q (mkF m pc Ls (rest)) :=
  own_st (fun T locs X eT t kk => by subst hp; exact X.ldcI C.g_x C.g_own (mvT C.g_z hc) rfl (hb C.g_by hd) kk) r
theorem own_ldc2 (C : own_Ctx p s m meth c Z own nm bytes maxL ret) {i : Nat} {v : Int64} (hd : decode bytes pc = .ok (.ldc2_w i, 3)) (hp : pc + 3 = pc') (hc : (Jvm.Cond.constantLong own i v).before a0 Z = true) (r : own_Run p l e R s m args below meth c n0 Kf h k q (mkF m pc' Ls (.long v :: rest))) : own_Run p l e R s m args below meth c n0 Kf h k q (mkF m pc Ls (rest)) :=
  own_st (fun T locs X eT t kk => by subst hp; exact X.ldc2J C.g_x C.g_own (mvT C.g_z hc) rfl (hb C.g_by hd) kk) r
theorem own_dup (C : own_Ctx p s m meth c Z own nm bytes maxL ret) {v : Value} (hd : decode bytes pc = .ok (.dup, 1)) (hp : pc + 1 = pc') (hc : v.category = 1) (r : own_Run p l e R s m args below meth c n0 Kf h k q (mkF m pc' Ls (v :: v :: rest))) : own_Run p l e R s m args below meth c n0 Kf h k q (mkF m pc Ls (v :: rest)) :=
  own_st (fun T locs X eT t kk => by subst hp; exact Jvm.Free.XS.dup X.here C.g_x rfl (hb C.g_by hd) rfl hc kk) r
theorem own_pop (C : own_Ctx p s m meth c Z own nm bytes maxL ret) {v : Value} (hd : decode bytes pc = .ok (.pop, 1)) (hp : pc + 1 = pc') (hc : v.category = 1) (r : own_Run p l e R s m args below meth c n0 Kf h k q (mkF m pc' Ls (rest))) : own_Run p l e R s m args below meth c n0 Kf h k q (mkF m pc Ls (v :: rest)) :=
  own_st (fun T locs X eT t kk => by subst hp; exact Jvm.Free.XT.pop X.here C.g_x rfl (hb C.g_by hd) rfl hc kk) r
theorem own_dupX1 (C : own_Ctx p s m meth c Z own nm bytes maxL ret) {v w : Value} (hd : decode bytes pc = .ok (.dup_x1, 1)) (hp : pc + 1 = pc') (hc : v.category = 1) (hc' : w.category = 1) (r : own_Run p l e R s m args below meth c n0 Kf h k q (mkF m pc' Ls (v :: w :: v :: rest))) : own_Run p l e R s m args below meth c n0 Kf h k q (mkF m pc Ls (v :: w :: rest)) :=
  own_st (fun T locs X eT t kk => by subst hp; exact Jvm.Free.XT.dupX1 X.here C.g_x rfl (hb C.g_by hd) rfl hc hc' kk) r
theorem own_dup2 (C : own_Ctx p s m meth c Z own nm bytes maxL ret) {v w : Value} (hd : decode bytes pc = .ok (.dup2, 1)) (hp : pc + 1 = pc') (hc : v.category = 1) (hc' : w.category = 1) (r : own_Run p l e R s m args below meth c n0 Kf h k q (mkF m pc' Ls (v :: w :: v :: w :: rest))) : own_Run p l e R s m args below meth c n0 Kf h k q (mkF m pc Ls (v :: w :: rest)) :=
  own_st (fun T locs X eT t kk => by subst hp; exact Jvm.Free.XT.dup2 X.here C.g_x rfl (hb C.g_by hd) rfl hc hc' kk) r
theorem own_iadd (C : own_Ctx p s m meth c Z own nm bytes maxL ret) {x y : Int32} (hd : decode bytes pc = .ok (.iadd, 1)) (hp : pc + 1 = pc')  (r : own_Run p l e R s m args below meth c n0 Kf h k q (mkF m pc' Ls (.int (x + y) :: rest))) : own_Run p l e R s m args below meth c n0 Kf h k q (mkF m pc Ls (.int y :: .int x :: rest)) :=
  own_st (fun T locs X eT t kk => by subst hp; exact Jvm.Free.XS.iadd X.here C.g_x rfl (hb C.g_by hd) rfl kk) r
theorem own_isub (C : own_Ctx p s m meth c Z own nm bytes maxL ret) {x y : Int32} (hd : decode bytes pc = .ok (.isub, 1)) (hp : pc + 1 = pc')  (r : own_Run p l e R s m args below meth c n0 Kf h k q (mkF m pc' Ls (.int (x - y) :: rest))) : own_Run p l e R s m args below meth c n0 Kf h k q (mkF m pc Ls (.int y :: .int x :: rest)) :=
  own_st (fun T locs X eT t kk => by subst hp; exact Jvm.Free.XS.isub X.here C.g_x rfl (hb C.g_by hd) rfl kk) r
theorem own_iand (C : own_Ctx p s m meth c Z own nm bytes maxL ret) {x y : Int32} (hd : decode bytes pc = .ok (.iand, 1)) (hp : pc + 1 = pc')  (r : own_Run p l e R s m args below meth c n0 Kf h k q (mkF m pc' Ls (.int (x &&& y) :: rest))) : own_Run p l e R s m args below meth c n0 Kf h k q (mkF m pc Ls (.int y :: .int x :: rest)) :=
  own_st (fun T locs X eT t kk => by subst hp; exact Jvm.Free.XS.iand X.here C.g_x rfl (hb C.g_by hd) rfl kk) r
theorem own_imul (C : own_Ctx p s m meth c Z own nm bytes maxL ret) {x y : Int32} (hd : decode bytes pc = .ok (.imul, 1)) (hp : pc + 1 = pc')  (r : own_Run p l e R s m args below meth c n0 Kf h k q (mkF m pc' Ls (.int (x * y) :: rest))) : own_Run p l e R s m args below meth c n0 Kf h k q (mkF m pc Ls (.int y :: .int x :: rest)) :=
  own_st (fun T locs X eT t kk => by subst hp; exact Jvm.Free.XS.imul X.here C.g_x rfl (hb C.g_by hd) rfl kk) r
theorem own_ior (C : own_Ctx p s m meth c Z own nm bytes maxL ret) {x y : Int32} (hd : decode bytes pc = .ok (.ior, 1)) (hp : pc + 1 = pc')  (r : own_Run p l e R s m args below meth c n0 Kf h k q (mkF m pc' Ls (.int (x ||| y) :: rest))) : own_Run p l e R s m args below meth c n0 Kf h k q (mkF m pc Ls (.int y :: .int x :: rest)) :=
  own_st (fun T locs X eT t kk => by subst hp; exact Jvm.Free.XT.ior X.here C.g_x rfl (hb C.g_by hd) rfl kk) r
theorem own_ixor (C : own_Ctx p s m meth c Z own nm bytes maxL ret) {x y : Int32} (hd : decode bytes pc = .ok (.ixor, 1)) (hp : pc + 1 = pc')  (r : own_Run p l e R s m args below meth c n0 Kf h k q (mkF m pc' Ls (.int (x ^^^ y) :: rest))) : own_Run p l e R s m args below meth c n0 Kf h k q (mkF m pc Ls (.int y :: .int x :: rest)) :=
  own_st (fun T locs X eT t kk => by subst hp; exact Jvm.Free.XT.ixor X.here C.g_x rfl (hb C.g_by hd) rfl kk) r
theorem own_ishl (C : own_Ctx p s m meth c Z own nm bytes maxL ret) {x y : Int32} (hd : decode bytes pc = .ok (.ishl, 1)) (hp : pc + 1 = pc')  (r : own_Run p l e R s m args below meth c n0 Kf h k q (mkF m pc' Ls (.int (x <<< (y &&& 31)) :: rest))) : own_Run p l e R s m args below meth c n0 Kf h k q (mkF m pc Ls (.int y :: .int x :: rest)) :=
  own_st (fun T locs X eT t kk => by subst hp; exact Jvm.Free.XT.ishl X.here C.g_x rfl (hb C.g_by hd) rfl kk) r
theorem own_ishr (C : own_Ctx p s m meth c Z own nm bytes maxL ret) {x y : Int32} (hd : decode bytes pc = .ok (.ishr, 1)) (hp : pc + 1 = pc')  (r : own_Run p l e R s m args below meth c n0 Kf h k q (mkF m pc' Ls (.int (x >>> (y &&& 31)) :: rest))) : own_Run p l e R s m args below meth c n0 Kf h k q (mkF m pc Ls (.int y :: .int x :: rest)) :=
  own_st (fun T locs X eT t kk => by subst hp; exact Jvm.Free.XT.ishr X.here C.g_x rfl (hb C.g_by hd) rfl kk) r
theorem own_iushr (C : own_Ctx p s m meth c Z own nm bytes maxL ret) {x y : Int32} (hd : decode bytes pc = .ok (.iushr, 1)) (hp : pc + 1 = pc')  (r : own_Run p l e R s m args below meth c n0 Kf h k q (mkF m pc' Ls (.int (Jvm.Free.XT.ushr x y) :: rest))) : own_Run p l e R s m args below meth c n0 Kf h k q (mkF m pc Ls (.int y :: .int x :: rest)) :=
  own_st (fun T locs X eT t kk => by subst hp; exact Jvm.Free.XT.iushr X.here C.g_x rfl (hb C.g_by hd) rfl kk) r
theorem own_irem (C : own_Ctx p s m meth c Z own nm bytes maxL ret) {x y : Int32} (hd : decode bytes pc = .ok (.irem, 1)) (hp : pc + 1 = pc') (hy : y ≠ 0) (r : own_Run p l e R s m args below meth c n0 Kf h k q (mkF m pc' Ls (.int (x % y) :: rest))) : own_Run p l e R s m args below meth c n0 Kf h k q (mkF m pc Ls (.int y :: .int x :: rest)) :=
  own_st (fun T locs X eT t kk => by subst hp; exact iremM X C.g_x rfl (hb C.g_by hd) rfl hy kk) r
theorem own_idivV (C : own_Ctx p s m meth c Z own nm bytes maxL ret) {x y v : Int32} (hd : decode bytes pc = .ok (.idiv, 1)) (hp : pc + 1 = pc') (hy : y ≠ 0) (hv : x / y = v) (r : own_Run p l e R s m args below meth c n0 Kf h k q (mkF m pc' Ls (.int v :: rest))) : own_Run p l e R s m args below meth c n0 Kf h k q (mkF m pc Ls (.int y :: .int x :: rest)) :=
  own_st (fun T locs X eT t kk => by subst hp; exact Jvm.Free.XS.idiv X.here C.g_x rfl (hb C.g_by hd) rfl hy (by rw [hv]; exact kk)) r
theorem own_ineg (C : own_Ctx p s m meth c Z own nm bytes maxL ret) {x : Int32} (hd : decode bytes pc = .ok (.ineg, 1)) (hp : pc + 1 = pc')  (r : own_Run p l e R s m args below meth c n0 Kf h k q (mkF m pc' Ls (.int (-x) :: rest))) : own_Run p l e R s m args below meth c n0 Kf h k q (mkF m pc Ls (.int x :: rest)) :=
  own_st (fun T locs X eT t kk => by subst hp; exact Jvm.Free.XS.ineg X.here C.g_x rfl (hb C.g_by hd) rfl kk) r
theorem own_ladd (C : own_Ctx p s m meth c Z own nm bytes maxL ret) {x y : Int64} (hd : decode bytes pc = .ok (.ladd, 1)) (hp : pc + 1 = pc')  (r : own_Run p l e R s m args below meth c n0 Kf h k q (mkF m pc' Ls (.long (x + y) :: rest))) : own_Run p l e R s m args below meth c n0 Kf h k q (mkF m pc Ls (.long y :: .long x :: rest)) :=
  own_st (fun T locs X eT t kk => by subst hp; exact Jvm.Free.XT.ladd X.here C.g_x rfl (hb C.g_by hd) rfl kk) r
theorem own_lsub (C : own_Ctx p s m meth c Z own nm bytes maxL ret) {x y : Int64} (hd : decode bytes pc = .ok (.lsub, 1)) (hp : pc + 1 = pc')  (r : own_Run p l e R s m args below meth c n0 Kf h k q (mkF m pc' Ls (.long (x - y) :: rest))) : own_Run p l e R s m args below meth c n0 Kf h k q (mkF m pc Ls (.long y :: .long x :: rest)) :=
  own_st (fun T locs X eT t kk => by subst hp; exact Jvm.Free.XT.lsub X.here C.g_x rfl (hb C.g_by hd) rfl kk) r
theorem own_land (C : own_Ctx p s m meth c Z own nm bytes maxL ret) {x y : Int64} (hd : decode bytes pc = .ok (.land, 1)) (hp : pc + 1 = pc')  (r : own_Run p l e R s m args below meth c n0 Kf h k q (mkF m pc' Ls (.long (x &&& y) :: rest))) : own_Run p l e R s m args below meth c n0 Kf h k q (mkF m pc Ls (.long y :: .long x :: rest)) :=
  own_st (fun T locs X eT t kk => by subst hp; exact Jvm.Free.XT.land X.here C.g_x rfl (hb C.g_by hd) rfl kk) r
theorem own_lor (C : own_Ctx p s m meth c Z own nm bytes maxL ret) {x y : Int64} (hd : decode bytes pc = .ok (.lor, 1)) (hp : pc + 1 = pc')  (r : own_Run p l e R s m args below meth c n0 Kf h k q (mkF m pc' Ls (.long (x ||| y) :: rest))) : own_Run p l e R s m args below meth c n0 Kf h k q (mkF m pc Ls (.long y :: .long x :: rest)) :=
  own_st (fun T locs X eT t kk => by subst hp; exact Jvm.Free.XT.lor X.here C.g_x rfl (hb C.g_by hd) rfl kk) r
theorem own_lxor (C : own_Ctx p s m meth c Z own nm bytes maxL ret) {x y : Int64} (hd : decode bytes pc = .ok (.lxor, 1)) (hp : pc + 1 = pc')  (r : own_Run p l e R s m args below meth c n0 Kf h k q (mkF m pc' Ls (.long (x ^^^ y) :: rest))) : own_Run p l e R s m args below meth c n0 Kf h k q (mkF m pc Ls (.long y :: .long x :: rest)) :=
  own_st (fun T locs X eT t kk => by subst hp; exact Jvm.Free.XT.lxor X.here C.g_x rfl (hb C.g_by hd) rfl kk) r
theorem own_lmul (C : own_Ctx p s m meth c Z own nm bytes maxL ret) {x y : Int64} (hd : decode bytes pc = .ok (.lmul, 1)) (hp : pc + 1 = pc')  (r : own_Run p l e R s m args below meth c n0 Kf h k q (mkF m pc' Ls (.long (x * y) :: rest))) : own_Run p l e R s m args below meth c n0 Kf h k q (mkF m pc Ls (.long y :: .long x :: rest)) :=
  own_st (fun T locs X eT t kk => by subst hp; exact Jvm.Free.XT.lmul X.here C.g_x rfl (hb C.g_by hd) rfl kk) r
theorem own_lcmp (C : own_Ctx p s m meth c Z own nm bytes maxL ret) {x y : Int64} (hd : decode bytes pc = .ok (.lcmp, 1)) (hp : pc + 1 = pc')  (r : own_Run p l e R s m args below meth c n0 Kf h k q (mkF m pc' Ls (.int (Jvm.Free.XT.cmpL x y) :: rest))) : own_Run p l e R s m args below meth c n0 Kf h k q (mkF m pc Ls (.long y :: .long x :: rest)) :=
  own_st (fun T locs X eT t kk => by subst hp; exact Jvm.Free.XT.lcmp X.here C.g_x rfl (hb C.g_by hd) rfl kk) r
theorem own_lshl (C : own_Ctx p s m meth c Z own nm bytes maxL ret) {x : Int64} {y : Int32} (hd : decode bytes pc = .ok (.lshl, 1)) (hp : pc + 1 = pc')  (r : own_Run p l e R s m args below meth c n0 Kf h k q (mkF m pc' Ls (.long (x <<< (y.toInt64 &&& 63)) :: rest))) : own_Run p l e R s m args below meth c n0 Kf h k q (mkF m pc Ls (.int y :: .long x :: rest)) :=
  own_st (fun T locs X eT t kk => by subst hp; exact Jvm.Free.XT.lshl X.here C.g_x rfl (hb C.g_by hd) rfl kk) r
theorem own_i2l (C : own_Ctx p s m meth c Z own nm bytes maxL ret) {x : Int32} (hd : decode bytes pc = .ok (.i2l, 1)) (hp : pc + 1 = pc')  (r : own_Run p l e R s m args below meth c n0 Kf h k q (mkF m pc' Ls (.long (x.toInt64) :: rest))) : own_Run p l e R s m args below meth c n0 Kf h k q (mkF m pc Ls (.int x :: rest)) :=
  own_st (fun T locs X eT t kk => by subst hp; exact Jvm.Free.XT.i2l X.here C.g_x rfl (hb C.g_by hd) rfl kk) r
theorem own_l2i (C : own_Ctx p s m meth c Z own nm bytes maxL ret) {x : Int64} (hd : decode bytes pc = .ok (.l2i, 1)) (hp : pc + 1 = pc')  (r : own_Run p l e R s m args below meth c n0 Kf h k q (mkF m pc' Ls (.int (x.toInt32) :: rest))) : own_Run p l e R s m args below meth c n0 Kf h k q (mkF m pc Ls (.long x :: rest)) :=
  own_st (fun T locs X eT t kk => by subst hp; exact Jvm.Free.XT.l2i X.here C.g_x rfl (hb C.g_by hd) rfl kk) r
theorem own_i2b (C : own_Ctx p s m meth c Z own nm bytes maxL ret) {x : Int32} (hd : decode bytes pc = .ok (.i2b, 1)) (hp : pc + 1 = pc')  (r : own_Run p l e R s m args below meth c n0 Kf h k q (mkF m pc' Ls (.int (x.toInt8.toInt32) :: rest))) : own_Run p l e R s m args below meth c n0 Kf h k q (mkF m pc Ls (.int x :: rest)) :=
  own_st (fun T locs X eT t kk => by subst hp; exact Jvm.Free.XT.i2b X.here C.g_x rfl (hb C.g_by hd) rfl kk) r
theorem own_i2c (C : own_Ctx p s m meth c Z own nm bytes maxL ret) {x : Int32} (hd : decode bytes pc = .ok (.i2c, 1)) (hp : pc + 1 = pc')  (r : own_Run p l e R s m args below meth c n0 Kf h k q (mkF m pc' Ls (.int (x.toUInt32.toUInt16.toUInt32.toInt32) :: rest))) : own_Run p l e R s m args below meth c n0 Kf h k q (mkF m pc Ls (.int x :: rest)) :=
  own_st (fun T locs X eT t kk => by subst hp; exact Jvm.Free.XT.i2c X.here C.g_x rfl (hb C.g_by hd) rfl kk) r
theorem own_iaddV (C : own_Ctx p s m meth c Z own nm bytes maxL ret) {x y v : Int32} (hd : decode bytes pc = .ok (.iadd, 1)) (hp : pc + 1 = pc') (hv : x + y = v) (r : own_Run p l e R s m args below meth c n0 Kf h k q (mkF m pc' Ls (.int v :: rest))) : own_Run p l e R s m args below meth c n0 Kf h k q (mkF m pc Ls (.int y :: .int x :: rest)) :=
  own_st (fun T locs X eT t kk => by subst hp; exact Jvm.Free.XS.iadd X.here C.g_x rfl (hb C.g_by hd) rfl (by rw [hv]; exact kk)) r
theorem own_isubV (C : own_Ctx p s m meth c Z own nm bytes maxL ret) {x y v : Int32} (hd : decode bytes pc = .ok (.isub, 1)) (hp : pc + 1 = pc') (hv : x - y = v) (r : own_Run p l e R s m args below meth c n0 Kf h k q (mkF m pc' Ls (.int v :: rest))) : own_Run p l e R s m args below meth c n0 Kf h k q (mkF m pc Ls (.int y :: .int x :: rest)) :=
  own_st (fun T locs X eT t kk => by subst hp; exact Jvm.Free.XS.isub X.here C.g_x rfl (hb C.g_by hd) rfl (by rw [hv]; exact kk)) r
theorem own_imulV (C : own_Ctx p s m meth c Z own nm bytes maxL ret) {x y v : Int32} (hd : decode bytes pc = .ok (.imul, 1)) (hp : pc + 1 = pc') (hv : x * y = v) (r : own_Run p l e R s m args below meth c n0 Kf h k q (mkF m pc' Ls (.int v :: rest))) : own_Run p l e R s m args below meth c n0 Kf h k q (mkF m pc Ls (.int y :: .int x :: rest)) :=
  own_st (fun T locs X eT t kk => by subst hp; exact Jvm.Free.XS.imul X.here C.g_x rfl (hb C.g_by hd) rfl (by rw [hv]; exact kk)) r
theorem own_iandV (C : own_Ctx p s m meth c Z own nm bytes maxL ret) {x y v : Int32} (hd : decode bytes pc = .ok (.iand, 1)) (hp : pc + 1 = pc') (hv : x &&& y = v) (r : own_Run p l e R s m args below meth c n0 Kf h k q (mkF m pc' Ls (.int v :: rest))) : own_Run p l e R s m args below meth c n0 Kf h k q (mkF m pc Ls (.int y :: .int x :: rest)) :=
  own_st (fun T locs X eT t kk => by subst hp; exact Jvm.Free.XS.iand X.here C.g_x rfl (hb C.g_by hd) rfl (by rw [hv]; exact kk)) r
theorem own_goto (C : own_Ctx p s m meth c Z own nm bytes maxL ret) {o : Int} {st : List Value} (hd : decode bytes pc = .ok (.goto o, 3)) (ho : (pc : Int) + o = (pc' : Int)) (r : own_Run p l e R s m args below meth c n0 Kf h k q (mkF m pc' Ls st)) : own_Run p l e R s m args below meth c n0 Kf h k q (mkF m pc Ls st) :=
  own_st (fun T locs X eT t kk => Jvm.Free.XS.goto X.here C.g_x rfl (pc0 := pc) (pc' := pc') rfl (hb C.g_by hd) (by omega) (by omega) kk) r
theorem own_ii_eq (C : own_Ctx p s m meth c Z own nm bytes maxL ret) {o : Int} {x y : Int32} (hd : decode bytes pc = .ok (.if_icmp .eq o, 3)) (ho : (pc : Int) + o = (pc1 : Int)) (hp : pc + 3 = pc2) (r1 : x = y → own_Run p l e R s m args below meth c n0 Kf h k q (mkF m pc1 Ls rest)) (r2 : ¬ x = y → own_Run p l e R s m args below meth c n0 Kf h k q (mkF m pc2 Ls rest)) : own_Run p l e R s m args below meth c n0 Kf h k q (mkF m pc Ls (.int y :: .int x :: rest)) := by
  by_cases hc : x = y
  · exact own_st (fun T locs X eT t kk => Jvm.Free.XS.icmpYes X.here C.g_x rfl (pc0 := pc) (pc' := pc1) rfl (hb C.g_by hd) rfl (Jvm.Free.XT.ii_eq_t hc) (by omega) (by omega) kk) (r1 hc)
  · subst hp; exact own_st (fun T locs X eT t kk => Jvm.Free.XS.icmpNo X.here C.g_x rfl (hb C.g_by hd) rfl (Jvm.Free.XT.ii_eq_f hc) kk) (r2 hc)
theorem own_i0_eq (C : own_Ctx p s m meth c Z own nm bytes maxL ret) {o : Int} {x : Int32} (hd : decode bytes pc = .ok (.ifCond .eq o, 3)) (ho : (pc : Int) + o = (pc1 : Int)) (hp : pc + 3 = pc2) (r1 : x = 0 → own_Run p l e R s m args below meth c n0 Kf h k q (mkF m pc1 Ls rest)) (r2 : ¬ x = 0 → own_Run p l e R s m args below meth c n0 Kf h k q (mkF m pc2 Ls rest)) : own_Run p l e R s m args below meth c n0 Kf h k q (mkF m pc Ls (.int x :: rest)) := by
  by_cases hc : x = 0
  · exact own_st (fun T locs X eT t kk => Jvm.Free.XS.ifYes X.here C.g_x rfl (pc0 := pc) (pc' := pc1) rfl (hb C.g_by hd) rfl (Jvm.Free.XT.i0_eq_t hc) (by omega) (by omega) kk) (r1 hc)
  · subst hp; exact own_st (fun T locs X eT t kk => Jvm.Free.XS.ifNo X.here C.g_x rfl (hb C.g_by hd) rfl (Jvm.Free.XT.i0_eq_f hc) kk) (r2 hc)
theorem own_ll_eq (C : own_Ctx p s m meth c Z own nm bytes maxL ret) {o : Int} {x y : Int64} (hd : decode bytes pc = .ok (.ifCond .eq o, 3)) (ho : (pc : Int) + o = (pc1 : Int)) (hp : pc + 3 = pc2) (r1 : x = y → own_Run p l e R s m args below meth c n0 Kf h k q (mkF m pc1 Ls rest)) (r2 : ¬ x = y → own_Run p l e R s m args below meth c n0 Kf h k q (mkF m pc2 Ls rest)) : own_Run p l e R s m args below meth c n0 Kf h k q (mkF m pc Ls (.int (Jvm.Free.XT.cmpL x y) :: rest)) := by
  by_cases hc : x = y
  · exact own_st (fun T locs X eT t kk => Jvm.Free.XS.ifYes X.here C.g_x rfl (pc0 := pc) (pc' := pc1) rfl (hb C.g_by hd) rfl (Jvm.Free.XT.ll_eq_t hc) (by omega) (by omega) kk) (r1 hc)
  · subst hp; exact own_st (fun T locs X eT t kk => Jvm.Free.XS.ifNo X.here C.g_x rfl (hb C.g_by hd) rfl (Jvm.Free.XT.ll_eq_f hc) kk) (r2 hc)
theorem own_ii_ne (C : own_Ctx p s m meth c Z own nm bytes maxL ret) {o : Int} {x y : Int32} (hd : decode bytes pc = .ok (.if_icmp .ne o, 3)) (ho : (pc : Int) + o = (pc1 : Int)) (hp : pc + 3 = pc2) (r1 : ¬ x = y → own_Run p l e R s m args below meth c n0 Kf h k q (mkF m pc1 Ls rest)) (r2 : x = y → own_Run p l e R s m args below meth c n0 Kf h k q (mkF m pc2 Ls rest)) : own_Run p l e R s m args below meth c n0 Kf h k q (mkF m pc Ls (.int y :: .int x :: rest)) := by
  by_cases hc : x = y
  · subst hp; exact own_st (fun T locs X eT t kk => Jvm.Free.XS.icmpNo X.here C.g_x rfl (hb C.g_by hd) rfl (Jvm.Free.XT.ii_ne_f hc) kk) (r2 hc)
  · exact own_st (fun T locs X eT t kk => Jvm.Free.XS.icmpYes X.here C.g_x rfl (pc0 := pc) (pc' := pc1) rfl (hb C.g_by hd) rfl (Jvm.Free.XT.ii_ne_t hc) (by omega) (by omega) kk) (r1 hc)
theorem own_i0_ne (C : own_Ctx p s m meth c Z own nm bytes maxL ret) {o : Int} {x : Int32} (hd : decode bytes pc = .ok (.ifCond .ne o, 3)) (ho : (pc : Int) + o = (pc1 : Int)) (hp : pc + 3 = pc2) (r1 : ¬ x = 0 → own_Run p l e R s m args below meth c n0 Kf h k q (mkF m pc1 Ls rest)) (r2 : x = 0 → own_Run p l e R s m args below meth c n0 Kf h k q (mkF m pc2 Ls rest)) : own_Run p l e R s m args below meth c n0 Kf h k q (mkF m pc Ls (.int x :: rest)) := by
  by_cases hc : x = 0
  · subst hp; exact own_st (fun T locs X eT t kk => Jvm.Free.XS.ifNo X.here C.g_x rfl (hb C.g_by hd) rfl (Jvm.Free.XT.i0_ne_f hc) kk) (r2 hc)
  · exact own_st (fun T locs X eT t kk => Jvm.Free.XS.ifYes X.here C.g_x rfl (pc0 := pc) (pc' := pc1) rfl (hb C.g_by hd) rfl (Jvm.Free.XT.i0_ne_t hc) (by omega) (by omega) kk) (r1 hc)
theorem own_ll_ne (C : own_Ctx p s m meth c Z own nm bytes maxL ret) {o : Int} {x y : Int64} (hd : decode bytes pc = .ok (.ifCond .ne o, 3)) (ho : (pc : Int) + o = (pc1 : Int)) (hp : pc + 3 = pc2) (r1 : ¬ x = y → own_Run p l e R s m args below meth c n0 Kf h k q (mkF m pc1 Ls rest)) (r2 : x = y → own_Run p l e R s m args below meth c n0 Kf h k q (mkF m pc2 Ls rest)) : own_Run p l e R s m args below meth c n0 Kf h k q (mkF m pc Ls (.int (Jvm.Free.XT.cmpL x y) :: rest)) := by
  by_cases hc : x = y
  · subst hp; exact own_st (fun T locs X eT t kk => Jvm.Free.XS.ifNo X.here C.g_x rfl (hb C.g_by hd) rfl (Jvm.Free.XT.ll_ne_f hc) kk) (r2 hc)
  · exact own_st (fun T locs X eT t kk => Jvm.Free.XS.ifYes X.here C.g_x rfl (pc0 := pc) (pc' := pc1) rfl (hb C.g_by hd) rfl (Jvm.Free.XT.ll_ne_t hc) (by omega) (by omega) kk) (r1 hc)
theorem own_ii_lt (C : own_Ctx p s m meth c Z own nm bytes maxL ret) {o : Int} {x y : Int32} (hd : decode bytes pc = .ok (.if_icmp .lt o, 3)) (ho : (pc : Int) + o = (pc1 : Int)) (hp : pc + 3 = pc2) (r1 : x < y → own_Run p l e R s m args below meth c n0 Kf h k q (mkF m pc1 Ls rest)) (r2 : ¬ x < y → own_Run p l e R s m args below meth c n0 Kf h k q (mkF m pc2 Ls rest)) : own_Run p l e R s m args below meth c n0 Kf h k q (mkF m pc Ls (.int y :: .int x :: rest)) := by
  by_cases hc : x < y
  · exact own_st (fun T locs X eT t kk => Jvm.Free.XS.icmpYes X.here C.g_x rfl (pc0 := pc) (pc' := pc1) rfl (hb C.g_by hd) rfl (Jvm.Free.XT.ii_lt_t hc) (by omega) (by omega) kk) (r1 hc)
  · subst hp; exact own_st (fun T locs X eT t kk => Jvm.Free.XS.icmpNo X.here C.g_x rfl (hb C.g_by hd) rfl (Jvm.Free.XT.ii_lt_f hc) kk) (r2 hc)
theorem own_i0_lt (C : own_Ctx p s m meth c Z own nm bytes maxL ret) {o : Int} {x : Int32} (hd : decode bytes pc = .ok (.ifCond .lt o, 3)) (ho : (pc : Int) + o = (pc1 : Int)) (hp : pc + 3 = pc2) (r1 : x < 0 → own_Run p l e R s m args below meth c n0 Kf h k q (mkF m pc1 Ls rest)) (r2 : ¬ x < 0 → own_Run p l e R s m args below meth c n0 Kf h k q (mkF m pc2 Ls rest)) : own_Run p l e R s m args below meth c n0 Kf h k q (mkF m pc Ls (.int x :: rest)) := by
  by_cases hc : x < 0
  · exact own_st (fun T locs X eT t kk => Jvm.Free.XS.ifYes X.here C.g_x rfl (pc0 := pc) (pc' := pc1) rfl (hb C.g_by hd) rfl (Jvm.Free.XT.i0_lt_t hc) (by omega) (by omega) kk) (r1 hc)
  · subst hp; exact own_st (fun T locs X eT t kk => Jvm.Free.XS.ifNo X.here C.g_x rfl (hb C.g_by hd) rfl (Jvm.Free.XT.i0_lt_f hc) kk) (r2 hc)
theorem own_ll_lt (C : own_Ctx p s m meth c Z own nm bytes maxL ret) {o : Int} {x y : Int64} (hd : decode bytes pc = .ok (.ifCond .lt o, 3)) (ho : (pc : Int) + o = (pc1 : Int)) (hp : pc + 3 = pc2) (r1 : x < y → own_Run p l e R s m args below meth c n0 Kf h k q (mkF m pc1 Ls rest)) (r2 : ¬ x < y → own_Run p l e R s m args below meth c n0 Kf h k q (mkF m pc2 Ls rest)) : own_Run p l e R s m args below meth c n0 Kf h k q (mkF m pc Ls (.int (Jvm.Free.XT.cmpL x y) :: rest)) := by
  by_cases hc : x < y
  · exact own_st (fun T locs X eT t kk => Jvm.Free.XS.ifYes X.here C.g_x rfl (pc0 := pc) (pc' := pc1) rfl (hb C.g_by hd) rfl (Jvm.Free.XT.ll_lt_t hc) (by omega) (by omega) kk) (r1 hc)
  · subst hp; exact own_st (fun T locs X eT t kk => Jvm.Free.XS.ifNo X.here C.g_x rfl (hb C.g_by hd) rfl (Jvm.Free.XT.ll_lt_f hc) kk) (r2 hc)
theorem own_ii_ge (C : own_Ctx p s m meth c Z own nm bytes maxL ret) {o : Int} {x y : Int32} (hd : decode bytes pc = .ok (.if_icmp .ge o, 3)) (ho : (pc : Int) + o = (pc1 : Int)) (hp : pc + 3 = pc2) (r1 : ¬ x < y → own_Run p l e R s m args below meth c n0 Kf h k q (mkF m pc1 Ls rest)) (r2 : x < y → own_Run p l e R s m args below meth c n0 Kf h k q (mkF m pc2 Ls rest)) : own_Run p l e R s m args below meth c n0 Kf h k q (mkF m pc Ls (.int y :: .int x :: rest)) := by
  by_cases hc : x < y
  · subst hp; exact own_st (fun T locs X eT t kk => Jvm.Free.XS.icmpNo X.here C.g_x rfl (hb C.g_by hd) rfl (Jvm.Free.XT.ii_ge_f hc) kk) (r2 hc)
  · exact own_st (fun T locs X eT t kk => Jvm.Free.XS.icmpYes X.here C.g_x rfl (pc0 := pc) (pc' := pc1) rfl (hb C.g_by hd) rfl (Jvm.Free.XT.ii_ge_t hc) (by omega) (by omega) kk) (r1 hc)
theorem own_i0_ge (C : own_Ctx p s m meth c Z own nm bytes maxL ret) {o : Int} {x : Int32} (hd : decode bytes pc = .ok (.ifCond .ge o, 3)) (ho : (pc : Int) + o = (pc1 : Int)) (hp : pc + 3 = pc2) (r1 : ¬ x < 0 → own_Run p l e R s m args below meth c n0 Kf h k q (mkF m pc1 Ls rest)) (r2 : x < 0 → own_Run p l e R s m args below meth c n0 Kf h k q (mkF m pc2 Ls rest)) : own_Run p l e R s m args below meth c n0 Kf h k q (mkF m pc Ls (.int x :: rest)) := by
  by_cases hc : x < 0
  · subst hp; exact own_st (fun T locs X eT t kk => Jvm.Free.XS.ifNo X.here C.g_x rfl (hb C.g_by hd) rfl (Jvm.Free.XT.i0_ge_f hc) kk) (r2 hc)
  · exact own_st (fun T locs X eT t kk => Jvm.Free.XS.ifYes X.here C.g_x rfl (pc0 := pc) (pc' := pc1) rfl (hb C.g_by hd) rfl (Jvm.Free.XT.i0_ge_t hc) (by omega) (by omega) kk) (r1 hc)
theorem own_ll_ge (C : own_Ctx p s m meth c Z own nm bytes maxL ret) {o : Int} {x y : Int64} (hd : decode bytes pc = .ok (.ifCond .ge o, 3)) (ho : (pc : Int) + o = (pc1 : Int)) (hp : pc + 3 = pc2) (r1 : ¬ x < y → own_Run p l e R s m args below meth c n0 Kf h k q (mkF m pc1 Ls rest)) (r2 : x < y → own_Run p l e R s m args below meth c n0 Kf h k q (mkF m pc2 Ls rest)) : own_Run p l e R s m args below meth c n0 Kf h k q (mkF m pc Ls (.int (Jvm.Free.XT.cmpL x y) :: rest)) := by
  by_cases hc : x < y
  · subst hp; exact own_st (fun T locs X eT t kk => Jvm.Free.XS.ifNo X.here C.g_x rfl (hb C.g_by hd) rfl (Jvm.Free.XT.ll_ge_f hc) kk) (r2 hc)
  · exact own_st (fun T locs X eT t kk => Jvm.Free.XS.ifYes X.here C.g_x rfl (pc0 := pc) (pc' := pc1) rfl (hb C.g_by hd) rfl (Jvm.Free.XT.ll_ge_t hc) (by omega) (by omega) kk) (r1 hc)
theorem own_ii_gt (C : own_Ctx p s m meth c Z own nm bytes maxL ret) {o : Int} {x y : Int32} (hd : decode bytes pc = .ok (.if_icmp .gt o, 3)) (ho : (pc : Int) + o = (pc1 : Int)) (hp : pc + 3 = pc2) (r1 : y < x → own_Run p l e R s m args below meth c n0 Kf h k q (mkF m pc1 Ls rest)) (r2 : ¬ y < x → own_Run p l e R s m args below meth c n0 Kf h k q (mkF m pc2 Ls rest)) : own_Run p l e R s m args below meth c n0 Kf h k q (mkF m pc Ls (.int y :: .int x :: rest)) := by
  by_cases hc : y < x
  · exact own_st (fun T locs X eT t kk => Jvm.Free.XS.icmpYes X.here C.g_x rfl (pc0 := pc) (pc' := pc1) rfl (hb C.g_by hd) rfl (Jvm.Free.XT.ii_gt_t hc) (by omega) (by omega) kk) (r1 hc)
  · subst hp; exact own_st (fun T locs X eT t kk => Jvm.Free.XS.icmpNo X.here C.g_x rfl (hb C.g_by hd) rfl (Jvm.Free.XT.ii_gt_f hc) kk) (r2 hc)
theorem own_i0_gt (C : own_Ctx p s m meth c Z own nm bytes maxL ret) {o : Int} {x : Int32} (hd : decode bytes pc = .ok (.ifCond .gt o, 3)) (ho : (pc : Int) + o = (pc1 : Int)) (hp : pc + 3 = pc2) (r1 : 0 < x → own_Run p l e R s m args below meth c n0 Kf h k q (mkF m pc1 Ls rest)) (r2 : ¬ 0 < x → own_Run p l e R s m args below meth c n0 Kf h k q (mkF m pc2 Ls rest)) : own_Run p l e R s m args below meth c n0 Kf h k q (mkF m pc Ls (.int x :: rest)) := by
  by_cases hc : 0 < x
  · exact own_st (fun T locs X eT t kk => Jvm.Free.XS.ifYes X.here C.g_x rfl (pc0 := pc) (pc' := pc1) rfl (hb C.g_by hd) rfl (Jvm.Free.XT.i0_gt_t hc) (by omega) (by omega) kk) (r1 hc)
  · subst hp; exact own_st (fun T locs X eT t kk => Jvm.Free.XS.ifNo X.here C.g_x rfl (hb C.g_by hd) rfl (Jvm.Free.XT.i0_gt_f hc) kk) (r2 hc)
theorem own_ll_gt (C : own_Ctx p s m meth c Z own nm bytes maxL ret) {o : Int} {x y : Int64} (hd : decode bytes pc = .ok (.ifCond .gt o, 3)) (ho : (pc : Int) + o = (pc1 : Int)) (hp : pc + 3 = pc2) (r1 : y < x → own_Run p l e R s m args below meth c n0 Kf h k q (mkF m pc1 Ls rest)) (r2 : ¬ y < x → own_Run p l e R s m args below meth c n0 Kf h k q (mkF m pc2 Ls rest)) : own_Run p l e R s m args below meth c n0 Kf h k q (mkF m pc Ls (.int (Jvm.Free.XT.cmpL x y) :: rest)) := by
  by_cases hc : y < x
  · exact own_st (fun T locs X eT t kk => Jvm.Free.XS.ifYes X.here C.g_x rfl (pc0 := pc) (pc' := pc1) rfl (hb C.g_by hd) rfl (Jvm.Free.XT.ll_gt_t hc) (by omega) (by omega) kk) (r1 hc)
  · subst hp; exact own_st (fun T locs X eT t kk => Jvm.Free.XS.ifNo X.here C.g_x rfl (hb C.g_by hd) rfl (Jvm.Free.XT.ll_gt_f hc) kk) (r2 hc)
theorem own_ii_le (C : own_Ctx p s m meth c Z own nm bytes maxL ret) {o : Int} {x y : Int32} (hd : decode bytes pc = .ok (.if_icmp .le o, 3)) (ho : (pc : Int) + o = (pc1 : Int)) (hp : pc + 3 = pc2) (r1 : ¬ y < x → own_Run p l e R s m args below meth c n0 Kf h k q (mkF m pc1 Ls rest)) (r2 : y < x → own_Run p l e R s m args below meth c n0 Kf h k q (mkF m pc2 Ls rest)) : own_Run p l e R s m args below meth c n0 Kf h k q (mkF m pc Ls (.int y :: .int x :: rest)) := by
  by_cases hc : y < x
  · subst hp; exact own_st (fun T locs X eT t kk => Jvm.Free.XS.icmpNo X.here C.g_x rfl (hb C.g_by hd) rfl (Jvm.Free.XT.ii_le_f hc) kk) (r2 hc)
  · exact own_st (fun T locs X eT t kk => Jvm.Free.XS.icmpYes X.here C.g_x rfl (pc0 := pc) (pc' := pc1) rfl (hb C.g_by hd) rfl (Jvm.Free.XT.ii_le_t hc) (by omega) (by omega) kk) (r1 hc)
theorem own_i0_le (C : own_Ctx p s m meth c Z own nm bytes maxL ret) {o : Int} {x : Int32} (hd : decode bytes pc = .ok (.ifCond .le o, 3)) (ho : (pc : Int) + o = (pc1 : Int)) (hp : pc + 3 = pc2) (r1 : ¬ 0 < x → own_Run p l e R s m args below meth c n0 Kf h k q (mkF m pc1 Ls rest)) (r2 : 0 < x → own_Run p l e R s m args below meth c n0 Kf h k q (mkF m pc2 Ls rest)) : own_Run p l e R s m args below meth c n0 Kf h k q (mkF m pc Ls (.int x :: rest)) := by
  by_cases hc : 0 < x
  · subst hp; exact own_st (fun T locs X eT t kk => Jvm.Free.XS.ifNo X.here C.g_x rfl (hb C.g_by hd) rfl (Jvm.Free.XT.i0_le_f hc) kk) (r2 hc)
  · exact own_st (fun T locs X eT t kk => Jvm.Free.XS.ifYes X.here C.g_x rfl (pc0 := pc) (pc' := pc1) rfl (hb C.g_by hd) rfl (Jvm.Free.XT.i0_le_t hc) (by omega) (by omega) kk) (r1 hc)
theorem own_ll_le (C : own_Ctx p s m meth c Z own nm bytes maxL ret) {o : Int} {x y : Int64} (hd : decode bytes pc = .ok (.ifCond .le o, 3)) (ho : (pc : Int) + o = (pc1 : Int)) (hp : pc + 3 = pc2) (r1 : ¬ y < x → own_Run p l e R s m args below meth c n0 Kf h k q (mkF m pc1 Ls rest)) (r2 : y < x → own_Run p l e R s m args below meth c n0 Kf h k q (mkF m pc2 Ls rest)) : own_Run p l e R s m args below meth c n0 Kf h k q (mkF m pc Ls (.int (Jvm.Free.XT.cmpL x y) :: rest)) := by
  by_cases hc : y < x
  · subst hp; exact own_st (fun T locs X eT t kk => Jvm.Free.XS.ifNo X.here C.g_x rfl (hb C.g_by hd) rfl (Jvm.Free.XT.ll_le_f hc) kk) (r2 hc)
  · exact own_st (fun T locs X eT t kk => Jvm.Free.XS.ifYes X.here C.g_x rfl (pc0 := pc) (pc' := pc1) rfl (hb C.g_by hd) rfl (Jvm.Free.XT.ll_le_t hc) (by omega) (by omega) kk) (r1 hc)
theorem own_aa_eq (C : own_Ctx p s m meth c Z own nm bytes maxL ret) {o : Int} {x y : Value} (hx1 : x.isRef = true) (hy1 : y.isRef = true) (hd : decode bytes pc = .ok (.if_acmp .eq o, 3)) (ho : (pc : Int) + o = (pc1 : Int)) (hp : pc + 3 = pc2) (r1 : x = y → own_Run p l e R s m args below meth c n0 Kf h k q (mkF m pc1 Ls rest)) (r2 : ¬ x = y → own_Run p l e R s m args below meth c n0 Kf h k q (mkF m pc2 Ls rest)) : own_Run p l e R s m args below meth c n0 Kf h k q (mkF m pc Ls (y :: x :: rest)) := by
  by_cases hc : x = y
  · exact own_st (fun T locs X eT t kk => Jvm.Free.XT.acmpYes X.here C.g_x rfl (pc0 := pc) (pc' := pc1) rfl (hb C.g_by hd) rfl hx1 hy1 (Jvm.Free.XT.aa_eq_t hc) (by omega) (by omega) kk) (r1 hc)
  · subst hp; exact own_st (fun T locs X eT t kk => Jvm.Free.XT.acmpNo X.here C.g_x rfl (hb C.g_by hd) rfl hx1 hy1 (Jvm.Free.XT.aa_eq_f hc) kk) (r2 hc)
theorem own_aa_ne (C : own_Ctx p s m meth c Z own nm bytes maxL ret) {o : Int} {x y : Value} (hx1 : x.isRef = true) (hy1 : y.isRef = true) (hd : decode bytes pc = .ok (.if_acmp .ne o, 3)) (ho : (pc : Int) + o = (pc1 : Int)) (hp : pc + 3 = pc2) (r1 : ¬ x = y → own_Run p l e R s m args below meth c n0 Kf h k q (mkF m pc1 Ls rest)) (r2 : x = y → own_Run p l e R s m args below meth c n0 Kf h k q (mkF m pc2 Ls rest)) : own_Run p l e R s m args below meth c n0 Kf h k q (mkF m pc Ls (y :: x :: rest)) := by
  by_cases hc : x = y
  · subst hp; exact own_st (fun T locs X eT t kk => Jvm.Free.XT.acmpNo X.here C.g_x rfl (hb C.g_by hd) rfl hx1 hy1 (Jvm.Free.XT.aa_ne_f hc) kk) (r2 hc)
  · exact own_st (fun T locs X eT t kk => Jvm.Free.XT.acmpYes X.here C.g_x rfl (pc0 := pc) (pc' := pc1) rfl (hb C.g_by hd) rfl hx1 hy1 (Jvm.Free.XT.aa_ne_t hc) (by omega) (by omega) kk) (r1 hc)
theorem own_nullNo (C : own_Ctx p s m meth c Z own nm bytes maxL ret) {o : Int} {a : Addr} (hd : decode bytes pc = .ok (.ifnull o, 3)) (hp : pc + 3 = pc') (r : own_Run p l e R s m args below meth c n0 Kf h k q (mkF m pc' Ls rest)) : own_Run p l e R s m args below meth c n0 Kf h k q (mkF m pc Ls (.ref a :: rest)) :=
  own_st (fun T locs X eT t kk => by subst hp; exact Jvm.Free.XS.ifnullNo X.here C.g_x rfl (hb C.g_by hd) rfl kk) r
theorem own_getF (C : own_Ctx p s m meth c Z own nm bytes maxL ret) {i : Nat} {O n d : String} {a : Addr} {v : Value} (w : (Jvm.Cond.fieldLink own i O n d).before a0 Z = true) (F : Fld Z h a O n d v) (hd : decode bytes pc = .ok (.getfield i, 3)) (hp : pc + 3 = pc') (r : own_Run p l e R s m args below meth c n0 Kf h k q (mkF m pc' Ls (v :: rest))) : own_Run p l e R s m args below meth c n0 Kf h k q (mkF m pc Ls (.ref a :: rest)) := fun T locs X eT N => by
  subst hp
  obtain ⟨T1, X1, e1, st1⟩ := getF X C.g_x C.g_z C.g_own (host := "") (Or.inl w) Via.refl eT F (g := mkF m pc Ls (.ref a :: rest)) rfl rfl (hb C.g_by hd)
  obtain ⟨t, o, h1, h2⟩ := r T1 locs X1 e1 N
  exact ⟨t, o, st1 _ h1, h2⟩
theorem own_putF (C : own_Ctx p s m meth c Z own nm bytes maxL ret) {i kk : Nat} {O n d K : String} {a : Addr} {v old : Value} {ty : FieldType} (w : (Jvm.Cond.fieldLink own i O n d).before a0 Z = true) (F : Fld Z h a O n d old) (E : Exa Z h a K) (L : (Jvm.Cond.lays K O n d).before a0 Z = true ∨ ((Jvm.Cond.laysFinal K O n d).before a0 Z = true ∧ own = O ∧ nm = "<init>")) (wi : (Jvm.Cond.instantiable K kk).before a0 Z = true) (hty : parseFieldDescriptor d = some ty) (hn : narrow ty v = v) (hf : fits ty v = true) (ga : n0 ≤ a) (hd : decode bytes pc = .ok (.putfield i, 3)) (hp : pc + 3 = pc')
    (r : ∀ h', Wr h h' a (Jvm.RoadKit.slotOf Z O n d) v → own_Run p l e R s m args below meth c n0 Kf h' k q (mkF m pc' Ls rest)) : own_Run p l e R s m args below meth c n0 Kf h k q (mkF m pc Ls (v :: .ref a :: rest)) := fun T locs X eT N => by
  subst hp
  obtain ⟨T1, h1, X1, e1, W1, st1⟩ := putF X C.g_x C.g_z C.g_own (host := "") (Or.inl w) Via.refl eT F E (L.imp id fun x => ⟨x.1, x.2.1, C.g_nm.trans x.2.2⟩) wi hty hn hf (g := mkF m pc Ls (v :: .ref a :: rest)) rfl rfl (hb C.g_by hd)
  obtain ⟨t, o, h2, h3⟩ := r h1 W1 T1 _ X1 e1 (Fr.snoc X1 N ga)
  exact ⟨t, o, st1 _ h2, h3⟩
theorem own_getS (C : own_Ctx p s m meth c Z own nm bytes maxL ret) {i : Nat} {O n d : String} {v : Value} (w : (Jvm.Cond.fieldLink own i O n d).before a0 Z = true) (F : Sta Z h O n d v) (hd : decode bytes pc = .ok (.getstatic i, 3)) (hp : pc + 3 = pc') (r : own_Run p l e R s m args below meth c n0 Kf h k q (mkF m pc' Ls (v :: rest))) : own_Run p l e R s m args below meth c n0 Kf h k q (mkF m pc Ls rest) := fun T locs X eT N => by
  subst hp
  obtain ⟨T1, X1, e1, st1⟩ := getS (host := "") X C.g_x C.g_z C.g_own w Via.refl eT F (g := mkF m pc Ls rest) rfl (hb C.g_by hd)
  obtain ⟨t, o, h1, h2⟩ := r T1 locs X1 e1 N
  exact ⟨t, o, st1 _ h1, h2⟩
theorem own_new (C : own_Ctx p s m meth c Z own nm bytes maxL ret) {i n : Nat} {K : String} (w : (Jvm.Cond.classLink own i K).before a0 Z = true) (wi : (Jvm.Cond.instantiable K n).before a0 Z = true) (wz : (Jvm.Cond.initialized K).before a0 Z = true) (Z0 : n0 ≤ h.size) (hd : decode bytes pc = .ok (.new i, 3)) (hp : pc + 3 = pc') (hc : k + 1 ≤ R.cells) (hs : q + n ≤ R.slots)
    (r : ∀ h' a, a = h.size → n0 ≤ a → n0 ≤ h'.size → Ext h h' → Exa Z h' a K → (∀ {O nm d : String} {ty : FieldType}, Laid Z a0 K O nm d → parseFieldDescriptor d = some ty → Fld Z h' a O nm d (defaultValue ty)) → own_Run p l e R s m args below meth c n0 Kf h' (k + 1) (q + n) (mkF m pc' Ls (.ref a :: rest))) : own_Run p l e R s m args below meth c n0 Kf h k q (mkF m pc Ls rest) := fun T locs X eT N => by
  subst hp
  obtain ⟨T1, h1, X1, e1, E1, A1, D1, -, st1⟩ := newO X C.g_x C.g_z C.g_own w wi wz eT (g := mkF m pc Ls rest) rfl (hb C.g_by hd) hc hs
  obtain ⟨t, o, h2, h3⟩ := r h1 h.size rfl Z0 (Nat.le_trans Z0 E1.1) E1 A1 (fun L ht => D1 L ht) T1 _ X1 e1 N
  exact ⟨t, o, st1 _ h2, h3⟩
theorem own_initO (C : own_Ctx p s m meth c Z own nm bytes maxL ret) {i : Nat} {a : Addr} {W : Nat} (w1 : (Jvm.Cond.methodLink own i Lib.objectInit).before a0 Z = true) (w2 : (Jvm.Cond.instanceMethod Lib.objectInit).before a0 Z = true) (w3 : (Jvm.Cond.code Lib.objectInit ⟨#[0xb1]⟩ 1 none).before a0 Z = true) (hd : decode bytes pc = .ok (.invokespecial i, 3)) (hp : pc + 3 = pc') (hsz : Ls.size = maxL) (hf : 1 ≤ R.frames) (hW : 0 + (rest.map fun v => v.category).sum ≤ W) (hl : W + 12 ≤ R.locals)
    (r : own_Run p l e R s m args below meth c n0 Kf h k q (mkF m pc' Ls rest)) : own_Run p l e R s m args below meth c n0 Kf h k q (mkF m pc Ls (.ref a :: rest)) := fun T locs X eT N => by
  subst hp
  obtain ⟨T1, X1, e1, st1⟩ := initO X C.g_x C.g_z C.g_own w1 w2 w3 eT (g := mkF m pc Ls (.ref a :: rest)) rfl (by rw [C.g_ml]; exact hsz) rfl (hb C.g_by hd) hf (W := W) (by show 2 * 0 + _ ≤ _; exact hW) hl
  obtain ⟨t, o, h1, h2⟩ := r T1 locs X1 e1 N
  exact ⟨t, o, st1 _ h1, h2⟩
theorem own_callN (C : own_Ctx p s m meth c Z own nm bytes maxL ret) {i : Nat} {y : MethodName} {cb : ByteArray} {cm : Nat} {rm : Room} {a : Addr} {argsL : List Value} {Q' : Option Value → Heap → Prop} (W : Nat) (hy1 : y.name = "<init>") (w1 : (Jvm.Cond.methodLink own i y).before a0 Z = true) (w2 : (Jvm.Cond.instanceMethod y).before a0 Z = true) (w3 : (Jvm.Cond.code y cb cm none).before a0 Z = true) (w4 : (Jvm.Cond.initialized y.cls).before a0 Z = true) (hy : y.cls ≠ "java/lang/invoke/MethodHandle" ∧ y.cls ≠ "java/lang/invoke/VarHandle")
    (hM : own_Met l Z n0 y cb cm none rm [] (.ref a :: argsL).toArray h Q') (hf : rm.frames + 1 ≤ R.frames) (hl : W + (cm + 11) + rm.locals ≤ R.locals) (hlen : ∀ sig, parseMethodDescriptor y.desc = some sig → argsL.length = sig.parameters.length) {st : List Value} (hst : st = argsL.reverse ++ .ref a :: rest) (hW : 0 + (rest.map fun v => v.category).sum ≤ W) (hd : decode bytes pc = .ok (.invokespecial i, 3)) (hp : pc + 3 = pc') (hsz : Ls.size = maxL) (hc : k + rm.cells ≤ R.cells) (hs : q + rm.slots ≤ R.slots)
    (r : ∀ v h', Q' v h' → own_Run p l e R s m args below meth c n0 Kf h' (k + rm.cells) (q + rm.slots) (mkF m pc' Ls (v.toList ++ rest))) : own_Run p l e R s m args below meth c n0 Kf h k q (mkF m pc Ls st) := fun T locs X eT N => by
  subst hp
  obtain ⟨v, _, ⟨T1, L1, k1, n1⟩, -, X1, ⟨Lc1, hQ1, l1, y1, z1⟩, st1⟩ := X.specialBack C.g_x (y := y) hy1 C.g_own (mvT C.g_z w1) (mvT C.g_z w2) (mvT C.g_z w3) hy (backOf (W := W) (Q := fun v h L => Fr n0 L ∧ Q' v h) hM C.g_z w3 w4 hf hl) (g := mkF m pc Ls st) rfl (by rw [C.g_ml]; exact hsz) (Steps.refl _) (a := a) (argsL := argsL) (rest := rest) hlen hst (by show 2 * 0 + _ ≤ _; exact hW) (hb C.g_by hd) (fun _ _ => ⟨rfl, eT, hc, hs⟩)
  dsimp only [Pt.U, Pt.locs, Pt.cells, Pt.slots] at X1 l1 y1 z1 st1 hQ1
  subst l1 y1 z1
  obtain ⟨t, o, h2, h3⟩ := r v T1.heap hQ1.2 T1 _ X1 rfl (Fr.app N hQ1.1)
  exact ⟨t, o, st1.trans h2, h3⟩
theorem own_callV (C : own_Ctx p s m meth c Z own nm bytes maxL ret) {i : Nat} {y : MethodName} {cb : ByteArray} {cm : Nat} {cret : Option FieldType} {rm : Room} {a : Addr} {argsL : List Value} {Q' : Option Value → Heap → Prop} (W : Nat) (E : Exa Z h a y.cls) (w1 : (Jvm.Cond.methodLink own i y).before a0 Z = true) (w2 : (Jvm.Cond.declares y).before a0 Z = true) (w3 : (Jvm.Cond.selects y.cls y y).before a0 Z = true) (w4 : (Jvm.Cond.instanceMethod y).before a0 Z = true) (w5 : (Jvm.Cond.code y cb cm cret).before a0 Z = true) (w6 : (Jvm.Cond.initialized y.cls).before a0 Z = true) (hy : y.cls ≠ "java/lang/invoke/MethodHandle" ∧ y.cls ≠ "java/lang/invoke/VarHandle")
    (hM : own_Met l Z n0 y cb cm cret rm [] (.ref a :: argsL).toArray h Q') (hf : rm.frames + 1 ≤ R.frames) (hl : W + (cm + 11) + rm.locals ≤ R.locals) (hlen : ∀ sig, parseMethodDescriptor y.desc = some sig → argsL.length = sig.parameters.length) {st : List Value} (hst : st = argsL.reverse ++ .ref a :: rest) (hW : 0 + (rest.map fun v => v.category).sum ≤ W) (hd : decode bytes pc = .ok (.invokevirtual i, 3)) (hp : pc + 3 = pc') (hsz : Ls.size = maxL) (hc : k + rm.cells ≤ R.cells) (hs : q + rm.slots ≤ R.slots)
    (r : ∀ v h', Q' v h' → own_Run p l e R s m args below meth c n0 Kf h' (k + rm.cells) (q + rm.slots) (mkF m pc' Ls (v.toList ++ rest))) : own_Run p l e R s m args below meth c n0 Kf h k q (mkF m pc Ls st) := fun T locs X eT N => by
  subst hp
  obtain ⟨cq, kq, qa, qb, qc⟩ := isOf C.g_z eT E
  obtain ⟨v, _, ⟨T1, L1, k1, n1⟩, -, X1, ⟨Lc1, hQ1, l1, y1, z1⟩, st1⟩ := X.virtualBack C.g_x (y := y) (z := y) C.g_own (mvT C.g_z w1) (mvT C.g_z w2) (notFace_of_selects (args := #[]) (mvT C.g_z w3)) (mvT C.g_z w3) (mvT C.g_z w4) hy (backOf (W := W) (Q := fun v h L => Fr n0 L ∧ Q' v h) hM C.g_z w5 w6 hf hl) qa qc (g := mkF m pc Ls st) rfl (by rw [C.g_ml]; exact hsz) (Steps.refl _) (argsL := argsL) (rest := rest) hlen hst (by show 2 * 0 + _ ≤ _; exact hW) (hb C.g_by hd) (fun _ _ => ⟨rfl, eT, hc, hs⟩)
  dsimp only [Pt.U, Pt.locs, Pt.cells, Pt.slots] at X1 l1 y1 z1 st1 hQ1
  subst l1 y1 z1
  obtain ⟨t, o, h2, h3⟩ := r v T1.heap hQ1.2 T1 _ X1 rfl (Fr.app N hQ1.1)
  exact ⟨t, o, st1.trans h2, h3⟩
theorem own_callS (C : own_Ctx p s m meth c Z own nm bytes maxL ret) {i : Nat} {y : MethodName} {cb : ByteArray} {cm : Nat} {cret : Option FieldType} {rm : Room} {argsL : List Value} {Q' : Option Value → Heap → Prop} (W : Nat) (w1 : (Jvm.Cond.methodLink own i y).before a0 Z = true) (w2 : (Jvm.Cond.static y).before a0 Z = true) (w3 : (Jvm.Cond.initialized y.cls).before a0 Z = true) (w4 : (Jvm.Cond.code y cb cm cret).before a0 Z = true) (hy : y.cls ≠ "java/lang/invoke/MethodHandle" ∧ y.cls ≠ "java/lang/invoke/VarHandle")
    (hM : own_Met l Z n0 y cb cm cret rm [] argsL.toArray h Q') (hf : rm.frames + 1 ≤ R.frames) (hl : W + (cm + 11) + rm.locals ≤ R.locals) (hlen : ∀ sig, parseMethodDescriptor y.desc = some sig → argsL.length = sig.parameters.length) {st : List Value} (hst : st = argsL.reverse ++ rest) (hW : 0 + (rest.map fun v => v.category).sum ≤ W) (hd : decode bytes pc = .ok (.invokestatic i, 3)) (hp : pc + 3 = pc') (hsz : Ls.size = maxL) (hc : k + rm.cells ≤ R.cells) (hs : q + rm.slots ≤ R.slots)
    (r : ∀ v h', Q' v h' → own_Run p l e R s m args below meth c n0 Kf h' (k + rm.cells) (q + rm.slots) (mkF m pc' Ls (v.toList ++ rest))) : own_Run p l e R s m args below meth c n0 Kf h k q (mkF m pc Ls st) := fun T locs X eT N => by
  subst hp
  obtain ⟨v, _, ⟨T1, L1, k1, n1⟩, -, X1, ⟨Lc1, hQ1, l1, y1, z1⟩, st1⟩ := Jvm.LawKit.callS X C.g_x (y := y) C.g_own (mvT C.g_z w1) (mvT C.g_z w2) (mvT C.g_z w3) (mvT C.g_z w4) hy (backOf (W := W) (Q := fun v h L => Fr n0 L ∧ Q' v h) hM C.g_z w4 w3 hf hl) (g := mkF m pc Ls st) rfl (by rw [C.g_ml]; exact hsz) (argsL := argsL) (rest := rest) hlen hst (by show 2 * 0 + _ ≤ _; exact hW) (hb C.g_by hd) (fun _ _ => ⟨rfl, eT, hc, hs⟩)
  dsimp only [Pt.U, Pt.locs, Pt.cells, Pt.slots] at X1 l1 y1 z1 st1 hQ1
  subst l1 y1 z1
  obtain ⟨t, o, h2, h3⟩ := r v T1.heap hQ1.2 T1 _ X1 rfl (Fr.app N hQ1.1)
  exact ⟨t, o, st1 _ h2, h3⟩
theorem own_callP (C : own_Ctx p s m meth c Z own nm bytes maxL ret) {i nf : Nat} {y : MethodName} {cb : ByteArray} {cm : Nat} {cret : Option FieldType} {rm : Room} {a : Addr} {argsL : List Value} {K : String} {Q' : Option Value → Heap → Prop} (W : Nat) (E : Exa Z h a K) (w1 : (Jvm.Cond.methodLink own i y).before a0 Z = true) (w2 : (Jvm.Cond.instanceMethod y).before a0 Z = true) (w3 : (Jvm.Cond.privateMethod y).before a0 Z = true) (w4 : (Jvm.Cond.instantiable y.cls nf).before a0 Z = true) (w5 : (Jvm.Cond.code y cb cm cret).before a0 Z = true) (w6 : (Jvm.Cond.initialized y.cls).before a0 Z = true) (hy : y.cls ≠ "java/lang/invoke/MethodHandle" ∧ y.cls ≠ "java/lang/invoke/VarHandle")
    (hM : own_Met l Z n0 y cb cm cret rm [] (.ref a :: argsL).toArray h Q') (hf : rm.frames + 1 ≤ R.frames) (hl : W + (cm + 11) + rm.locals ≤ R.locals) (hlen : ∀ sig, parseMethodDescriptor y.desc = some sig → argsL.length = sig.parameters.length) {st : List Value} (hst : st = argsL.reverse ++ .ref a :: rest) (hW : 0 + (rest.map fun v => v.category).sum ≤ W) (hd : decode bytes pc = .ok (.invokevirtual i, 3)) (hp : pc + 3 = pc') (hsz : Ls.size = maxL) (hc : k + rm.cells ≤ R.cells) (hs : q + rm.slots ≤ R.slots)
    (r : ∀ v h', Q' v h' → own_Run p l e R s m args below meth c n0 Kf h' (k + rm.cells) (q + rm.slots) (mkF m pc' Ls (v.toList ++ rest))) : own_Run p l e R s m args below meth c n0 Kf h k q (mkF m pc Ls st) := fun T locs X eT N => by
  subst hp
  have hK := backOf (l := l) (R := R) (p := p) (e := e) (s := s) (below := below) (args := args) (len := 3) (W := W) (Q := fun v h L => Fr n0 L ∧ Q' v h) hM C.g_z w5 w6 hf hl
  obtain ⟨mk, mM, hnamed, hmM, hsta, hab⟩ := Cond.instanceMethod_spec (mvT (args := args) C.g_z w2)
  obtain ⟨mM', cM, hmM', -, -, -, -, -, -, hsig⟩ := Cond.code_spec hnamed (mvT (args := args) C.g_z w5)
  cases hmM.symm.trans hmM'
  obtain ⟨cI, kI, i1, i2, -, i4, -⟩ := Cond.instantiable_spec (mvT (args := args) C.g_z w4)
  cases i1.symm.trans (findClass_of_methodNamed hnamed)
  have hni : kI.isInterface = false := (Bool.or_eq_false_iff.mp i4).1
  obtain ⟨cell, hc1, hc2⟩ := E.cell
  have hsel := selectMethod_private (p := e.platform) (c := cell.cls) hmM (Cond.privateMethod_at (mvP C.g_z w3 (args := #[])) mk mM hnamed hmM)
  obtain ⟨vm1, X1, st1⟩ := X.invokevirtual C.g_x C.g_own (mvT C.g_z w1) hnamed hmM hsta i2 hni hy (a := a) (cell := cell) (by rw [eT]; exact hc1) hc2 hsel hmM hab i2 hni (g := mkF m pc Ls st) rfl (argsL := argsL) (rest := rest) (hlen _ hsig) hst (hb C.g_by hd)
  obtain ⟨v, ⟨T1, L1, k1, n1⟩, X2, ⟨Lc1, hQ1, l1, y1, z1⟩, st2⟩ := hK m meth c ⟨T.setVm vm1, locs, k, q⟩ (mkF m pc Ls rest) (.invokevirtual i) mk (.ref a :: argsL).toArray X1 rfl (by rw [C.g_ml]; exact hsz) (hb C.g_by hd) (by show 2 * 0 + _ ≤ _; exact hW) (X1.named hnamed) ⟨rfl, eT, hc, hs⟩
  dsimp only [Pt.U, Pt.locs, Pt.cells, Pt.slots] at X2 l1 y1 z1 st2 hQ1
  subst l1 y1 z1
  obtain ⟨t, o, h2, h3⟩ := r v T1.heap hQ1.2 T1 _ X2 rfl (Fr.app N hQ1.1)
  exact ⟨t, o, st1 _ fun acts => by rw [doInvoke_state]; exact st2.trans h2, h3⟩
theorem own_ret (C : own_Ctx p s m meth c Z own nm bytes maxL ret) {v : Value} {t : FieldType} {i : Instr} (hret : ret = some t) (hn : narrow t v = v)
    (hi : (i = .ireturn ∧ (t = .int ∨ t = .boolean ∨ t = .byte ∨ t = .char ∨ t = .short) ∧ ∃ z, v = .int z) ∨ (i = .lreturn ∧ t = .long ∧ ∃ z, v = .long z) ∨ (i = .dreturn ∧ t = .double ∧ ∃ z, v = .double z) ∨ (i = .freturn ∧ t = .float ∧ ∃ z, v = .float z) ∨ (i = .areturn ∧ t.isReference = true ∧ v.isRef = true))
    (hd : decode bytes pc = .ok (i, 1)) (hc : k ≤ R.cells) (hs : q ≤ R.slots) (hQ : Q (some v) h) : own_Run p l e R s m args below meth c n0 (own_K below R s n0 Q) h k q (mkF m pc Ls (v :: rest)) := fun T locs X eT N => by
  have hlocks := C.g_lk
  obtain ⟨fs, hr, hrun, hended, hW, hsame⟩ := X.leave (v := some v) (fun hh => by rw [C.g_rt, hret] at hh; cases hh) hlocks
  refine ⟨_, _, retOut X C.g_x (C.g_rt.trans hret) hn hi (hb C.g_by hd) hr, hrun, hended, _, _, rfl, ⟨N, ?_⟩, ⟨_, rfl⟩, hW, hsame.mono hc hs⟩
  show Q (some v) T.heap
  rw [eT]; exact hQ
theorem own_retV (C : own_Ctx p s m meth c Z own nm bytes maxL ret) (hret : ret = none) (hd : decode bytes pc = .ok (.return_, 1)) (hc : k ≤ R.cells) (hs : q ≤ R.slots) (hQ : Q none h) : own_Run p l e R s m args below meth c n0 (own_K below R s n0 Q) h k q (mkF m pc Ls []) := fun T locs X eT N => by
  have hlocks := C.g_lk
  obtain ⟨fs, hr, hrun, hended, hW, hsame⟩ := X.leave (v := none) (fun _ => rfl) hlocks
  refine ⟨_, _, X.returnOut C.g_x (C.g_rt.trans hret) (hb C.g_by hd) hr, hrun, hended, _, _, rfl, ⟨N, ?_⟩, ⟨_, rfl⟩, hW, hsame.mono hc hs⟩
  show Q none T.heap
  rw [eT]; exact hQ
theorem own_refne {a b : Addr} (hn : a ≠ b) : ¬ (Value.ref a = Value.ref b) := fun e => hn (Value.ref.inj e)
theorem own_nb {v : Int32} (hv : v = 0 ∨ v = 1) : narrow .boolean (.int v) = .int v := by rcases hv with rfl | rfl <;> rfl
theorem own_fb {v : Int32} (hv : v = 0 ∨ v = 1) : fits .boolean (.int v) = true := by rcases hv with rfl | rfl <;> rfl
theorem own_join {α : Type} {g : JFrame} (P : α → Prop) (F : α → JFrame) (j : ∀ v, P v → own_Run p l e R s m args below meth c n0 Kf h k q (F v)) (r : (∀ v, P v → own_Run p l e R s m args below meth c n0 Kf h k q (F v)) → own_Run p l e R s m args below meth c n0 Kf h k q g) : own_Run p l e R s m args below meth c n0 Kf h k q g := r j
theorem own_join2 {α β : Type} {g : JFrame} (P : α → β → Prop) (F : α → β → JFrame) (j : ∀ v w, P v w → own_Run p l e R s m args below meth c n0 Kf h k q (F v w)) (r : (∀ v w, P v w → own_Run p l e R s m args below meth c n0 Kf h k q (F v w)) → own_Run p l e R s m args below meth c n0 Kf h k q g) : own_Run p l e R s m args below meth c n0 Kf h k q g := r j
theorem own_join3 {α β γ : Type} {g : JFrame} (P : α → β → γ → Prop) (F : α → β → γ → JFrame) (j : ∀ v w x, P v w x → own_Run p l e R s m args below meth c n0 Kf h k q (F v w x)) (r : (∀ v w x, P v w x → own_Run p l e R s m args below meth c n0 Kf h k q (F v w x)) → own_Run p l e R s m args below meth c n0 Kf h k q g) : own_Run p l e R s m args below meth c n0 Kf h k q g := r j
def own_upd {α : Type} (f : Nat → α) (i : Nat) (x : α) : Nat → α := fun j => if j = i then x else f j
theorem own_upd_eq {α : Type} (f : Nat → α) (i : Nat) (x : α) : own_upd f i x i = x := if_pos rfl
theorem own_upd_ne {α : Type} (f : Nat → α) {i j : Nat} (x : α) (hne : j ≠ i) : own_upd f i x j = f j := if_neg hne
/-- an array: her length, and what each place holds -/
def own_A (Z : State) (h : Heap) (a : Addr) (ty : FieldType) (n : Nat) (f : Nat → Value) : Prop := n < 2 ^ 31 ∧ ∃ cl : Cell, Arr Z h a cl ty ∧ cl.slots.size = n ∧ ∀ j, j < n → cl.slots[j]? = some (f j)
abbrev own_AI (Z : State) (h : Heap) (a : Addr) (n : Nat) (f : Nat → Int32) : Prop := own_A Z h a .int n (fun j => .int (f j))
abbrev own_AB (Z : State) (h : Heap) (a : Addr) (n : Nat) (f : Nat → Int32) : Prop := own_A Z h a .byte n (fun j => .int (f j))
abbrev own_AZ (Z : State) (h : Heap) (a : Addr) (n : Nat) (f : Nat → Int32) : Prop := own_A Z h a .boolean n (fun j => .int (f j))
abbrev own_AJ (Z : State) (h : Heap) (a : Addr) (n : Nat) (f : Nat → Int64) : Prop := own_A Z h a .long n (fun j => .long (f j))
theorem own_A.lt {h : Heap} {a : Addr} {ty : FieldType} {n : Nat} {f : Nat → Value} (V : own_A Z h a ty n f) : a < h.size := by obtain ⟨_, cl, A, _⟩ := V; exact A.lt
theorem own_A.ext {h h' : Heap} {a : Addr} {ty : FieldType} {n : Nat} {f : Nat → Value} (V : own_A Z h a ty n f) (E : Ext h h') : own_A Z h' a ty n f := by obtain ⟨hn, cl, A, r⟩ := V; exact ⟨hn, cl, A.ext E, r⟩
theorem own_A.other {h h' : Heap} {a b : Addr} {sl : Nat} {w : Value} {ty : FieldType} {n : Nat} {f : Nat → Value} (V : own_A Z h b ty n f) (W : Wr h h' a sl w) (hne : b ≠ a) : own_A Z h' b ty n f := by obtain ⟨hn, cl, A, r⟩ := V; exact ⟨hn, cl, A.other W hne, r⟩
theorem own_A.keep {h h' : Heap} {a : Addr} {ws : List Addr} {ty : FieldType} {n : Nat} {f : Nat → Value} (V : own_A Z h a ty n f) (K : Keep h h' ws) (hne : a ∉ ws) : own_A Z h' a ty n f := by obtain ⟨hn, cl, A, r⟩ := V; exact ⟨hn, cl, ⟨K.2.1 a cl A.1 hne, A.2⟩, r⟩
theorem own_A.congr {h : Heap} {a : Addr} {ty : FieldType} {n : Nat} {f g : Nat → Value} (V : own_A Z h a ty n f) (e : ∀ j, j < n → f j = g j) : own_A Z h a ty n g := by obtain ⟨hn, cl, A, S, H⟩ := V; exact ⟨hn, cl, A, S, fun j hj => by rw [← e j hj]; exact H j hj⟩
theorem own_A.set {h h' : Heap} {a : Addr} {i : Nat} {w : Value} {ty : FieldType} {n : Nat} {f : Nat → Value} (V : own_A Z h a ty n f) (W : Wr h h' a i w) (hi : i < n) : own_A Z h' a ty n (own_upd f i w) := by
  obtain ⟨hn, cl, A, S, H⟩ := V
  refine ⟨hn, _, A.same W, by rw [sz_set]; exact S, fun j hj => ?_⟩
  by_cases e : j = i
  · subst e
    rw [own_upd_eq]; simp [Cell.setSlot, S, hj]
  · rw [own_upd_ne _ _ e]
    show (cl.slots.setIfInBounds i w)[j]? = _
    rw [Array.getElem?_setIfInBounds_ne (Ne.symm e)]; exact H j hj
theorem own_nat {j : Int32} {i : Nat} (hj : j.toInt = (i : Int)) : ¬ j < 0 ∧ j.toNatClampNeg = i := by
  have z : (0 : Int32).toInt = 0 := rfl
  refine ⟨?_, ?_⟩
  · rw [Int32.lt_iff_toInt_lt]; omega
  · simp only [Int32.toNatClampNeg]; omega
theorem own_inb {j : Int32} {i : Nat} {cl : Cell} {n : Nat} (hj : j.toInt = (i : Int)) (S : cl.slots.size = n) (hi : i < n) : ¬ (j < 0 ∨ cl.slots.size ≤ j.toNatClampNeg) := by
  obtain ⟨h1, h2⟩ := own_nat hj
  rw [S, h2]; exact fun hh => hh.elim h1 (Nat.not_le.mpr hi)
theorem own_newA (C : own_Ctx p s m meth c Z own nm bytes maxL ret) {aty : ArrayType} (w : (Jvm.Cond.arrayClass (newarray.typeOf aty)).before a0 Z = true) (Z0 : n0 ≤ h.size) (hd : decode bytes pc = .ok (.newarray aty, 2)) (hp : pc + 2 = pc') {n : Int32} {nn cap : Nat} (hn : n.toInt = (nn : Int)) (hcap : nn ≤ cap) (hbig : cap * 8 ≤ 536870912) (hc : k + 1 ≤ R.cells) (hl : q + cap ≤ R.slots)
    (r : ∀ h' a, a = h.size → n0 ≤ a → n0 ≤ h'.size → Ext h h' → own_A Z h' a (newarray.typeOf aty) nn (fun _ => defaultValue (newarray.typeOf aty)) → own_Run p l e R s m args below meth c n0 Kf h' (k + 1) (q + cap) (mkF m pc' Ls (.ref a :: rest))) : own_Run p l e R s m args below meth c n0 Kf h k q (mkF m pc Ls (.int n :: rest)) := fun T locs X eT N => by
  subst hp
  obtain ⟨p1, p2⟩ := own_nat hn
  obtain ⟨T1, h1, cA, X1, e1, E1, A1, st1⟩ := newP X C.g_x C.g_z w eT (g := mkF m pc Ls (.int n :: rest)) rfl (hb C.g_by hd) rfl p1 (cap := cap) (by rw [p2]; exact hcap) hbig hc hl
  have V : own_A Z h1 h.size (newarray.typeOf aty) nn (fun _ => defaultValue (newarray.typeOf aty)) := by
    refine ⟨by have := Int32.toInt_lt n; omega, _, A1, by rw [sz_new, p2], fun j hj => ?_⟩
    simp [newA, p2, hj]
  obtain ⟨t, o, h2, h3⟩ := r h1 h.size rfl Z0 (Nat.le_trans Z0 E1.1) E1 V T1 _ X1 e1 N
  exact ⟨t, o, st1 _ h2, h3⟩
theorem own_newAI (C : own_Ctx p s m meth c Z own nm bytes maxL ret) (w : (Jvm.Cond.arrayClass .int).before a0 Z = true) (Z0 : n0 ≤ h.size) (hd : decode bytes pc = .ok (.newarray .int, 2)) (hp : pc + 2 = pc') {n : Int32} {nn cap : Nat} (hn : n.toInt = (nn : Int)) (hcap : nn ≤ cap) (hbig : cap * 8 ≤ 536870912) (hc : k + 1 ≤ R.cells) (hl : q + cap ≤ R.slots)
    (r : ∀ h' a, a = h.size → n0 ≤ a → n0 ≤ h'.size → Ext h h' → own_AI Z h' a nn (fun _ => (0 : Int32)) → own_Run p l e R s m args below meth c n0 Kf h' (k + 1) (q + cap) (mkF m pc' Ls (.ref a :: rest))) : own_Run p l e R s m args below meth c n0 Kf h k q (mkF m pc Ls (.int n :: rest)) := own_newA C (aty := .int) w Z0 hd hp hn hcap hbig hc hl r
theorem own_stI (C : own_Ctx p s m meth c Z own nm bytes maxL ret) {a : Addr} {n : Nat} {f : Nat → Int32} (V : own_AI Z h a n f) {j : Int32} {i : Nat} {x : Int32} (hj : j.toInt = (i : Int)) (hi : i < n) (ga : n0 ≤ a) (hd : decode bytes pc = .ok (.iastore, 1)) (hp : pc + 1 = pc')
    (r : ∀ h', Wr h h' a i (.int x) → own_AI Z h' a n (own_upd f i x) → own_Run p l e R s m args below meth c n0 Kf h' k q (mkF m pc' Ls rest)) : own_Run p l e R s m args below meth c n0 Kf h k q (mkF m pc Ls (.int x :: .int j :: .ref a :: rest)) := fun T locs X eT N => by
  subst hp
  obtain ⟨p1, p2⟩ := own_nat hj
  obtain ⟨hn, cl, A, S, H⟩ := id V
  obtain ⟨T1, h1, X1, e1, W1, st1⟩ := stI X C.g_x C.g_z eT A (own_inb hj S hi) (g := mkF m pc Ls (.int x :: .int j :: .ref a :: rest)) rfl rfl (hb C.g_by hd)
  have W2 : Wr h h1 a i (.int x) := by rw [← p2]; exact W1
  obtain ⟨t, o, h2, h3⟩ := r h1 W2 ((own_A.set V W2 hi).congr fun j hj => by by_cases e : j = i <;> simp [own_upd, e]) T1 _ X1 e1 (Fr.snoc X1 N ga)
  exact ⟨t, o, st1 _ h2, h3⟩
theorem own_lenI (C : own_Ctx p s m meth c Z own nm bytes maxL ret) {a : Addr} {n : Nat} {f : Nat → Int32} (V : own_AI Z h a n f) (hd : decode bytes pc = .ok (.arraylength, 1)) (hp : pc + 1 = pc') (r : own_Run p l e R s m args below meth c n0 Kf h k q (mkF m pc' Ls (.int (Nat.toInt32 n) :: rest))) : own_Run p l e R s m args below meth c n0 Kf h k q (mkF m pc Ls (.ref a :: rest)) := by
  obtain ⟨hn, cl, A, S, H⟩ := V
  subst hp
  rw [← S] at r
  exact own_st (fun T locs X eT t kk => X.arraylength C.g_x (by rw [eT]; exact A.1) (State.isArrayOf_alike C.g_z.alike A.2.1) (g := mkF m pc Ls (.ref a :: rest)) rfl rfl (hb C.g_by hd) t kk) r
theorem own_ldI (C : own_Ctx p s m meth c Z own nm bytes maxL ret) {a : Addr} {n : Nat} {f : Nat → Int32} (V : own_AI Z h a n f) {j : Int32} {i : Nat} (hj : j.toInt = (i : Int)) (hi : i < n) (hd : decode bytes pc = .ok (.iaload, 1)) (hp : pc + 1 = pc') (r : own_Run p l e R s m args below meth c n0 Kf h k q (mkF m pc' Ls (.int (f i) :: rest))) : own_Run p l e R s m args below meth c n0 Kf h k q (mkF m pc Ls (.int j :: .ref a :: rest)) := by
  obtain ⟨p1, p2⟩ := own_nat hj
  obtain ⟨hn, cl, A, S, H⟩ := V
  subst hp
  exact own_st (fun T locs X eT t kk => X.iaload C.g_x (by rw [eT]; exact A.1) (State.isArrayOf_alike C.g_z.alike A.2.1) A.2.2 (own_inb hj S hi) (by rw [p2]; exact H i hi) (g := mkF m pc Ls (.int j :: .ref a :: rest)) rfl rfl (hb C.g_by hd) t kk) r
theorem own_ldIV (C : own_Ctx p s m meth c Z own nm bytes maxL ret) {a : Addr} {n : Nat} {f : Nat → Int32} (V : own_AI Z h a n f) {j : Int32} {i : Nat} {v : Int32} (hj : j.toInt = (i : Int)) (hi : i < n) (hv : f i = v) (hd : decode bytes pc = .ok (.iaload, 1)) (hp : pc + 1 = pc') (r : own_Run p l e R s m args below meth c n0 Kf h k q (mkF m pc' Ls (.int v :: rest))) : own_Run p l e R s m args below meth c n0 Kf h k q (mkF m pc Ls (.int j :: .ref a :: rest)) := by
  subst hv; exact own_ldI C V hj hi hd hp r
theorem own_newAB (C : own_Ctx p s m meth c Z own nm bytes maxL ret) (w : (Jvm.Cond.arrayClass .byte).before a0 Z = true) (Z0 : n0 ≤ h.size) (hd : decode bytes pc = .ok (.newarray .byte, 2)) (hp : pc + 2 = pc') {n : Int32} {nn cap : Nat} (hn : n.toInt = (nn : Int)) (hcap : nn ≤ cap) (hbig : cap * 8 ≤ 536870912) (hc : k + 1 ≤ R.cells) (hl : q + cap ≤ R.slots)
    (r : ∀ h' a, a = h.size → n0 ≤ a → n0 ≤ h'.size → Ext h h' → own_AB Z h' a nn (fun _ => (0 : Int32)) → own_Run p l e R s m args below meth c n0 Kf h' (k + 1) (q + cap) (mkF m pc' Ls (.ref a :: rest))) : own_Run p l e R s m args below meth c n0 Kf h k q (mkF m pc Ls (.int n :: rest)) := own_newA C (aty := .byte) w Z0 hd hp hn hcap hbig hc hl r
theorem own_stB (C : own_Ctx p s m meth c Z own nm bytes maxL ret) {a : Addr} {n : Nat} {f : Nat → Int32} (V : own_AB Z h a n f) {j : Int32} {i : Nat} {x : Int32} (hj : j.toInt = (i : Int)) (hi : i < n) (ga : n0 ≤ a) (hd : decode bytes pc = .ok (.bastore, 1)) (hp : pc + 1 = pc')
    (r : ∀ h', Wr h h' a i (.int (x.toInt8.toInt32)) → own_AB Z h' a n (own_upd f i (x.toInt8.toInt32)) → own_Run p l e R s m args below meth c n0 Kf h' k q (mkF m pc' Ls rest)) : own_Run p l e R s m args below meth c n0 Kf h k q (mkF m pc Ls (.int x :: .int j :: .ref a :: rest)) := fun T locs X eT N => by
  subst hp
  obtain ⟨p1, p2⟩ := own_nat hj
  obtain ⟨hn, cl, A, S, H⟩ := id V
  obtain ⟨T1, h1, X1, e1, W1, st1⟩ := stB X C.g_x C.g_z eT A (own_inb hj S hi) (g := mkF m pc Ls (.int x :: .int j :: .ref a :: rest)) rfl rfl (hb C.g_by hd)
  have W2 : Wr h h1 a i (.int (x.toInt8.toInt32)) := by rw [← p2]; exact W1
  obtain ⟨t, o, h2, h3⟩ := r h1 W2 ((own_A.set V W2 hi).congr fun j hj => by by_cases e : j = i <;> simp [own_upd, e]) T1 _ X1 e1 (Fr.snoc X1 N ga)
  exact ⟨t, o, st1 _ h2, h3⟩
theorem own_lenB (C : own_Ctx p s m meth c Z own nm bytes maxL ret) {a : Addr} {n : Nat} {f : Nat → Int32} (V : own_AB Z h a n f) (hd : decode bytes pc = .ok (.arraylength, 1)) (hp : pc + 1 = pc') (r : own_Run p l e R s m args below meth c n0 Kf h k q (mkF m pc' Ls (.int (Nat.toInt32 n) :: rest))) : own_Run p l e R s m args below meth c n0 Kf h k q (mkF m pc Ls (.ref a :: rest)) := by
  obtain ⟨hn, cl, A, S, H⟩ := V
  subst hp
  rw [← S] at r
  exact own_st (fun T locs X eT t kk => X.arraylength C.g_x (by rw [eT]; exact A.1) (State.isArrayOf_alike C.g_z.alike A.2.1) (g := mkF m pc Ls (.ref a :: rest)) rfl rfl (hb C.g_by hd) t kk) r
theorem own_ldB (C : own_Ctx p s m meth c Z own nm bytes maxL ret) {a : Addr} {n : Nat} {f : Nat → Int32} (V : own_AB Z h a n f) {j : Int32} {i : Nat} (hj : j.toInt = (i : Int)) (hi : i < n) (hd : decode bytes pc = .ok (.baload, 1)) (hp : pc + 1 = pc') (r : own_Run p l e R s m args below meth c n0 Kf h k q (mkF m pc' Ls (.int (f i) :: rest))) : own_Run p l e R s m args below meth c n0 Kf h k q (mkF m pc Ls (.int j :: .ref a :: rest)) := by
  obtain ⟨p1, p2⟩ := own_nat hj
  obtain ⟨hn, cl, A, S, H⟩ := V
  subst hp
  exact own_st (fun T locs X eT t kk => X.baloadBytes C.g_x (by rw [eT]; exact A.1) (State.isArrayOf_alike C.g_z.alike A.2.1) A.2.2 (own_inb hj S hi) (by rw [p2]; exact H i hi) (g := mkF m pc Ls (.int j :: .ref a :: rest)) rfl rfl (hb C.g_by hd) t kk) r
theorem own_ldBV (C : own_Ctx p s m meth c Z own nm bytes maxL ret) {a : Addr} {n : Nat} {f : Nat → Int32} (V : own_AB Z h a n f) {j : Int32} {i : Nat} {v : Int32} (hj : j.toInt = (i : Int)) (hi : i < n) (hv : f i = v) (hd : decode bytes pc = .ok (.baload, 1)) (hp : pc + 1 = pc') (r : own_Run p l e R s m args below meth c n0 Kf h k q (mkF m pc' Ls (.int v :: rest))) : own_Run p l e R s m args below meth c n0 Kf h k q (mkF m pc Ls (.int j :: .ref a :: rest)) := by
  subst hv; exact own_ldB C V hj hi hd hp r
theorem own_newAZ (C : own_Ctx p s m meth c Z own nm bytes maxL ret) (w : (Jvm.Cond.arrayClass .boolean).before a0 Z = true) (Z0 : n0 ≤ h.size) (hd : decode bytes pc = .ok (.newarray .boolean, 2)) (hp : pc + 2 = pc') {n : Int32} {nn cap : Nat} (hn : n.toInt = (nn : Int)) (hcap : nn ≤ cap) (hbig : cap * 8 ≤ 536870912) (hc : k + 1 ≤ R.cells) (hl : q + cap ≤ R.slots)
    (r : ∀ h' a, a = h.size → n0 ≤ a → n0 ≤ h'.size → Ext h h' → own_AZ Z h' a nn (fun _ => (0 : Int32)) → own_Run p l e R s m args below meth c n0 Kf h' (k + 1) (q + cap) (mkF m pc' Ls (.ref a :: rest))) : own_Run p l e R s m args below meth c n0 Kf h k q (mkF m pc Ls (.int n :: rest)) := own_newA C (aty := .boolean) w Z0 hd hp hn hcap hbig hc hl r
theorem own_stZ (C : own_Ctx p s m meth c Z own nm bytes maxL ret) {a : Addr} {n : Nat} {f : Nat → Int32} (V : own_AZ Z h a n f) {j : Int32} {i : Nat} {x : Int32} (hj : j.toInt = (i : Int)) (hi : i < n) (ga : n0 ≤ a) (hd : decode bytes pc = .ok (.bastore, 1)) (hp : pc + 1 = pc')
    (r : ∀ h', Wr h h' a i (.int (x &&& 1)) → own_AZ Z h' a n (own_upd f i (x &&& 1)) → own_Run p l e R s m args below meth c n0 Kf h' k q (mkF m pc' Ls rest)) : own_Run p l e R s m args below meth c n0 Kf h k q (mkF m pc Ls (.int x :: .int j :: .ref a :: rest)) := fun T locs X eT N => by
  subst hp
  obtain ⟨p1, p2⟩ := own_nat hj
  obtain ⟨hn, cl, A, S, H⟩ := id V
  obtain ⟨T1, h1, X1, e1, W1, st1⟩ := stZ X C.g_x C.g_z eT A (own_inb hj S hi) (g := mkF m pc Ls (.int x :: .int j :: .ref a :: rest)) rfl rfl (hb C.g_by hd)
  have W2 : Wr h h1 a i (.int (x &&& 1)) := by rw [← p2]; exact W1
  obtain ⟨t, o, h2, h3⟩ := r h1 W2 ((own_A.set V W2 hi).congr fun j hj => by by_cases e : j = i <;> simp [own_upd, e]) T1 _ X1 e1 (Fr.snoc X1 N ga)
  exact ⟨t, o, st1 _ h2, h3⟩
theorem own_lenZ (C : own_Ctx p s m meth c Z own nm bytes maxL ret) {a : Addr} {n : Nat} {f : Nat → Int32} (V : own_AZ Z h a n f) (hd : decode bytes pc = .ok (.arraylength, 1)) (hp : pc + 1 = pc') (r : own_Run p l e R s m args below meth c n0 Kf h k q (mkF m pc' Ls (.int (Nat.toInt32 n) :: rest))) : own_Run p l e R s m args below meth c n0 Kf h k q (mkF m pc Ls (.ref a :: rest)) := by
  obtain ⟨hn, cl, A, S, H⟩ := V
  subst hp
  rw [← S] at r
  exact own_st (fun T locs X eT t kk => X.arraylength C.g_x (by rw [eT]; exact A.1) (State.isArrayOf_alike C.g_z.alike A.2.1) (g := mkF m pc Ls (.ref a :: rest)) rfl rfl (hb C.g_by hd) t kk) r
theorem own_newAJ (C : own_Ctx p s m meth c Z own nm bytes maxL ret) (w : (Jvm.Cond.arrayClass .long).before a0 Z = true) (Z0 : n0 ≤ h.size) (hd : decode bytes pc = .ok (.newarray .long, 2)) (hp : pc + 2 = pc') {n : Int32} {nn cap : Nat} (hn : n.toInt = (nn : Int)) (hcap : nn ≤ cap) (hbig : cap * 8 ≤ 536870912) (hc : k + 1 ≤ R.cells) (hl : q + cap ≤ R.slots)
    (r : ∀ h' a, a = h.size → n0 ≤ a → n0 ≤ h'.size → Ext h h' → own_AJ Z h' a nn (fun _ => (0 : Int64)) → own_Run p l e R s m args below meth c n0 Kf h' (k + 1) (q + cap) (mkF m pc' Ls (.ref a :: rest))) : own_Run p l e R s m args below meth c n0 Kf h k q (mkF m pc Ls (.int n :: rest)) := own_newA C (aty := .long) w Z0 hd hp hn hcap hbig hc hl r
theorem own_stJ (C : own_Ctx p s m meth c Z own nm bytes maxL ret) {a : Addr} {n : Nat} {f : Nat → Int64} (V : own_AJ Z h a n f) {j : Int32} {i : Nat} {x : Int64} (hj : j.toInt = (i : Int)) (hi : i < n) (ga : n0 ≤ a) (hd : decode bytes pc = .ok (.lastore, 1)) (hp : pc + 1 = pc')
    (r : ∀ h', Wr h h' a i (.long x) → own_AJ Z h' a n (own_upd f i x) → own_Run p l e R s m args below meth c n0 Kf h' k q (mkF m pc' Ls rest)) : own_Run p l e R s m args below meth c n0 Kf h k q (mkF m pc Ls (.long x :: .int j :: .ref a :: rest)) := fun T locs X eT N => by
  subst hp
  obtain ⟨p1, p2⟩ := own_nat hj
  obtain ⟨hn, cl, A, S, H⟩ := id V
  obtain ⟨T1, h1, X1, e1, W1, st1⟩ := stJ X C.g_x C.g_z eT A (own_inb hj S hi) (g := mkF m pc Ls (.long x :: .int j :: .ref a :: rest)) rfl rfl (hb C.g_by hd)
  have W2 : Wr h h1 a i (.long x) := by rw [← p2]; exact W1
  obtain ⟨t, o, h2, h3⟩ := r h1 W2 ((own_A.set V W2 hi).congr fun j hj => by by_cases e : j = i <;> simp [own_upd, e]) T1 _ X1 e1 (Fr.snoc X1 N ga)
  exact ⟨t, o, st1 _ h2, h3⟩
theorem own_lenJ (C : own_Ctx p s m meth c Z own nm bytes maxL ret) {a : Addr} {n : Nat} {f : Nat → Int64} (V : own_AJ Z h a n f) (hd : decode bytes pc = .ok (.arraylength, 1)) (hp : pc + 1 = pc') (r : own_Run p l e R s m args below meth c n0 Kf h k q (mkF m pc' Ls (.int (Nat.toInt32 n) :: rest))) : own_Run p l e R s m args below meth c n0 Kf h k q (mkF m pc Ls (.ref a :: rest)) := by
  obtain ⟨hn, cl, A, S, H⟩ := V
  subst hp
  rw [← S] at r
  exact own_st (fun T locs X eT t kk => X.arraylength C.g_x (by rw [eT]; exact A.1) (State.isArrayOf_alike C.g_z.alike A.2.1) (g := mkF m pc Ls (.ref a :: rest)) rfl rfl (hb C.g_by hd) t kk) r
end Own

theorem own_back (a b : Int64) : a - b + b = a := by
  apply Int64.toBitVec_inj.mp
  show a.toBitVec - b.toBitVec + b.toBitVec = a.toBitVec
  exact BitVec.sub_add_cancel _ _

theorem own_d1_0 : decode prog_17_method_1_code 0 = .ok (.aload_n 0, 1) := by decide +kernel
theorem own_d1_1 : decode prog_17_method_1_code 1 = .ok (.invokespecial 1, 3) := by decide +kernel
theorem own_d1_4 : decode prog_17_method_1_code 4 = .ok (.aload_n 0, 1) := by decide +kernel
theorem own_d1_5 : decode prog_17_method_1_code 5 = .ok (.lload_n 1, 1) := by decide +kernel
theorem own_d1_6 : decode prog_17_method_1_code 6 = .ok (.putfield 7, 3) := by decide +kernel
theorem own_d1_9 : decode prog_17_method_1_code 9 = .ok (.aload_n 0, 1) := by decide +kernel
theorem own_d1_10 : decode prog_17_method_1_code 10 = .ok (.lload_n 3, 1) := by decide +kernel
theorem own_d1_11 : decode prog_17_method_1_code 11 = .ok (.putfield 13, 3) := by decide +kernel
theorem own_d1_14 : decode prog_17_method_1_code 14 = .ok (.aload_n 0, 1) := by decide +kernel
theorem own_d1_15 : decode prog_17_method_1_code 15 = .ok (.lload 5, 2) := by decide +kernel
theorem own_d1_17 : decode prog_17_method_1_code 17 = .ok (.putfield 16, 3) := by decide +kernel
theorem own_d1_20 : decode prog_17_method_1_code 20 = .ok (.return_, 1) := by decide +kernel
theorem own_d2_0 : decode jdk_30_method_1_code 0 = .ok (.aload_n 0, 1) := by decide +kernel
theorem own_d2_1 : decode jdk_30_method_1_code 1 = .ok (.invokespecial 1, 3) := by decide +kernel
theorem own_d2_4 : decode jdk_30_method_1_code 4 = .ok (.return_, 1) := by decide +kernel
theorem own_d4_0 : decode prog_17_method_3_code 0 = .ok (.new 8, 3) := by decide +kernel
theorem own_d4_3 : decode prog_17_method_3_code 3 = .ok (.dup, 1) := by decide +kernel
theorem own_d4_4 : decode prog_17_method_3_code 4 = .ok (.aload_n 0, 1) := by decide +kernel
theorem own_d4_5 : decode prog_17_method_3_code 5 = .ok (.getfield 7, 3) := by decide +kernel
theorem own_d4_8 : decode prog_17_method_3_code 8 = .ok (.aload_n 1, 1) := by decide +kernel
theorem own_d4_9 : decode prog_17_method_3_code 9 = .ok (.getfield 7, 3) := by decide +kernel
theorem own_d4_12 : decode prog_17_method_3_code 12 = .ok (.lsub, 1) := by decide +kernel
theorem own_d4_13 : decode prog_17_method_3_code 13 = .ok (.aload_n 0, 1) := by decide +kernel
theorem own_d4_14 : decode prog_17_method_3_code 14 = .ok (.getfield 13, 3) := by decide +kernel
theorem own_d4_17 : decode prog_17_method_3_code 17 = .ok (.aload_n 1, 1) := by decide +kernel
theorem own_d4_18 : decode prog_17_method_3_code 18 = .ok (.getfield 13, 3) := by decide +kernel
theorem own_d4_21 : decode prog_17_method_3_code 21 = .ok (.lsub, 1) := by decide +kernel
theorem own_d4_22 : decode prog_17_method_3_code 22 = .ok (.aload_n 0, 1) := by decide +kernel
theorem own_d4_23 : decode prog_17_method_3_code 23 = .ok (.getfield 16, 3) := by decide +kernel
theorem own_d4_26 : decode prog_17_method_3_code 26 = .ok (.aload_n 1, 1) := by decide +kernel
theorem own_d4_27 : decode prog_17_method_3_code 27 = .ok (.getfield 16, 3) := by decide +kernel
theorem own_d4_30 : decode prog_17_method_3_code 30 = .ok (.lsub, 1) := by decide +kernel
theorem own_d4_31 : decode prog_17_method_3_code 31 = .ok (.invokespecial 19, 3) := by decide +kernel
theorem own_d4_34 : decode prog_17_method_3_code 34 = .ok (.areturn, 1) := by decide +kernel
theorem own_d5_0 : decode prog_17_method_7_code 0 = .ok (.aload_n 0, 1) := by decide +kernel
theorem own_d5_1 : decode prog_17_method_7_code 1 = .ok (.getfield 7, 3) := by decide +kernel
theorem own_d5_4 : decode prog_17_method_7_code 4 = .ok (.lreturn, 1) := by decide +kernel
theorem own_d6_0 : decode prog_17_method_8_code 0 = .ok (.aload_n 0, 1) := by decide +kernel
theorem own_d6_1 : decode prog_17_method_8_code 1 = .ok (.getfield 13, 3) := by decide +kernel
theorem own_d6_4 : decode prog_17_method_8_code 4 = .ok (.lreturn, 1) := by decide +kernel
theorem own_d7_0 : decode prog_17_method_9_code 0 = .ok (.aload_n 0, 1) := by decide +kernel
theorem own_d7_1 : decode prog_17_method_9_code 1 = .ok (.getfield 16, 3) := by decide +kernel
theorem own_d7_4 : decode prog_17_method_9_code 4 = .ok (.lreturn, 1) := by decide +kernel
theorem own_pn0 : plainName "java/lang/Record" = true := by first | (simp [plainName, overriddenIn]; done) | decide +kernel
theorem own_pn1 : plainName "com/example/moirai/moirai/partitions/PartitionUsage" = true := by first | (simp [plainName, overriddenIn]; done) | decide +kernel
theorem own_pn2 : plainName "com/example/moirai/moirai/partitions/PartitionUsageMinusPinLaw" = true := by first | (simp [plainName, overriddenIn]; done) | decide +kernel
theorem own_pd0 : parseMethodDescriptor "()V" = some ⟨[], none⟩ := by decide +kernel
theorem own_pd1 : parseMethodDescriptor "(JJJ)V" = some ⟨[.long, .long, .long], none⟩ := by decide +kernel
theorem own_pd2 : parseMethodDescriptor "(Lcom/example/moirai/moirai/partitions/PartitionUsage;)Lcom/example/moirai/moirai/partitions/PartitionUsage;" = some ⟨[(.object "com/example/moirai/moirai/partitions/PartitionUsage")], some (.object "com/example/moirai/moirai/partitions/PartitionUsage")⟩ := by decide +kernel
theorem own_pd3 : parseMethodDescriptor "()J" = some ⟨[], some .long⟩ := by decide +kernel
set_option maxRecDepth 65536 in
set_option maxHeartbeats 40000000 in
theorem own_m2 {l : Launch} {Z : State} {a0 : Array Value} (hw : ∀ d ∈ tables_1, d.before a0 Z = true) {n0 : Nat} {ws : List Jvm.Cond} {h : Heap} (a : Addr) (Z0 : n0 ≤ h.size) :
    own_Met l Z n0 (⟨"java/lang/Record", "<init>", "()V"⟩ : MethodName) jdk_30_method_1_code 1 none ({ frames := 1, cells := 0, slots := 0, locals := 12 } : Room) ws #[(.ref a)] h (fun v h' => (v = none) ∧ (h = h')) := by
  refine own_met own_pn0 #[.val (.ref a)] (fun m => by first | (simp [entryFrame, mkF, argsToLocals, Value.category]; done) | rfl) ?_
  intro p_ e_ s_ m_ b_ mt_ c_ C
  replace C : own_Ctx p_ s_ m_ mt_ c_ Z "java/lang/Record" "<init>" jdk_30_method_1_code 1 none := C
  refine own_aloadN C (pc' := 1) own_d2_0 rfl rfl rfl ?_
  refine own_initO C (pc' := 4) (W := 0) (hw _ (List.mem_of_getElem? (i := 11) rfl)) (hw _ (List.mem_of_getElem? (i := 12) rfl)) (hw _ (List.mem_of_getElem? (i := 13) rfl)) own_d2_1 rfl rfl (by decide) (Nat.le_of_eq rfl) (by decide) ?_
  exact own_retV C rfl own_d2_4 (by decide) (by decide) (⟨rfl, rfl⟩)
set_option maxRecDepth 65536 in
set_option maxHeartbeats 40000000 in
theorem own_m1 {l : Launch} {Z : State} {a0 : Array Value} (hw : ∀ d ∈ tables_1, d.before a0 Z = true) {n0 : Nat} {ws : List Jvm.Cond} {h : Heap} (a : Addr) (p0 : Int64) (p1 : Int64) (p2 : Int64) (Z0 : n0 ≤ h.size) (f0 : Exa Z h a "com/example/moirai/moirai/partitions/PartitionUsage") (f1 : n0 ≤ a) (f2 : Fld Z h a "com/example/moirai/moirai/partitions/PartitionUsage" "items" "J" (.long (0 : Int64))) (f3 : Fld Z h a "com/example/moirai/moirai/partitions/PartitionUsage" "logicalPartitions" "J" (.long (0 : Int64))) (f4 : Fld Z h a "com/example/moirai/moirai/partitions/PartitionUsage" "bytes" "J" (.long (0 : Int64))) :
    own_Met l Z n0 (⟨"com/example/moirai/moirai/partitions/PartitionUsage", "<init>", "(JJJ)V"⟩ : MethodName) prog_17_method_1_code 7 none ({ frames := 2, cells := 0, slots := 0, locals := 24 } : Room) ws #[(.ref a), (.long p0), (.long p1), (.long p2)] h (fun v h' => (v = none) ∧ (Keep h h' [a]) ∧ (Exa Z h' a "com/example/moirai/moirai/partitions/PartitionUsage") ∧ (Fld Z h' a "com/example/moirai/moirai/partitions/PartitionUsage" "items" "J" (.long p0)) ∧ (Fld Z h' a "com/example/moirai/moirai/partitions/PartitionUsage" "logicalPartitions" "J" (.long p1)) ∧ (Fld Z h' a "com/example/moirai/moirai/partitions/PartitionUsage" "bytes" "J" (.long p2))) := by
  refine own_met own_pn1 #[.val (.ref a), .val (.long p0), .second, .val (.long p1), .second, .val (.long p2), .second] (fun m => by first | (simp [entryFrame, mkF, argsToLocals, Value.category]; done) | rfl) ?_
  intro p_ e_ s_ m_ b_ mt_ c_ C
  replace C : own_Ctx p_ s_ m_ mt_ c_ Z "com/example/moirai/moirai/partitions/PartitionUsage" "<init>" prog_17_method_1_code 7 none := C
  have K0 : Keep h h [a] := Keep.refl _ _
  refine own_aloadN C (pc' := 1) own_d1_0 rfl rfl rfl ?_
  refine own_callN C (pc' := 4) (y := (⟨"java/lang/Record", "<init>", "()V"⟩ : MethodName)) (a := a) (argsL := []) (rest := []) 0 rfl (hw _ (List.mem_of_getElem? (i := 6) rfl)) (hw _ (List.mem_of_getElem? (i := 7) rfl)) (hw _ (List.mem_of_getElem? (i := 10) rfl)) (hw _ (List.mem_of_getElem? (i := 9) rfl)) (by decide) (own_m2 hw a Z0  ) (by decide) (by decide) (lenOf own_pd0 rfl) rfl (Nat.le_of_eq rfl) own_d1_1 rfl rfl (by decide) (by decide) (fun v1 h2 hq3 => ?_)
  obtain ⟨rfl, rfl⟩ := hq3
  show own_Run p_ l e_ _ s_ m_ _ b_ mt_ c_ n0 _ h _ _ (mkF m_ 4 #[.val (.ref a), .val (.long p0), .second, .val (.long p1), .second, .val (.long p2), .second] [])
  refine own_aloadN C (pc' := 5) own_d1_4 rfl rfl rfl ?_
  refine own_lloadN C (pc' := 6) own_d1_5 rfl rfl ?_
  refine own_putF C (pc' := 9) (hw _ (List.mem_of_getElem? (i := 14) rfl)) f2 f0 (Or.inr ⟨(hw _ (List.mem_of_getElem? (i := 15) rfl)), rfl, rfl⟩) (hw _ (List.mem_of_getElem? (i := 1) rfl)) (ty := .long) (by decide) rfl rfl f1 own_d1_6 rfl (fun h4 W5 => ?_)
  have Z6 : n0 ≤ h4.size := Nat.le_trans Z0 (Nat.le_of_eq (Wr.size W5).symm)
  have K7 := Keep.wr K0 W5 (Or.inl (List.mem_of_getElem? (i := 0) rfl))
  have F8 : Exa Z h4 a "com/example/moirai/moirai/partitions/PartitionUsage" := Exa.wr W5 f0
  have F9 : Fld Z h4 a "com/example/moirai/moirai/partitions/PartitionUsage" "items" "J" (.long p0) := Fld.same W5 f2
  have F10 : Fld Z h4 a "com/example/moirai/moirai/partitions/PartitionUsage" "logicalPartitions" "J" (.long (0 : Int64)) := Fld.other W5 f3 (Or.inr (slot_ne (Or.inr (hw _ (List.mem_of_getElem? (i := 17) rfl))) (Or.inr (hw _ (List.mem_of_getElem? (i := 15) rfl))) (by decide) (t := .long) (t' := .long) (by decide) (by decide)))
  have F11 : Fld Z h4 a "com/example/moirai/moirai/partitions/PartitionUsage" "bytes" "J" (.long (0 : Int64)) := Fld.other W5 f4 (Or.inr (slot_ne (Or.inr (hw _ (List.mem_of_getElem? (i := 19) rfl))) (Or.inr (hw _ (List.mem_of_getElem? (i := 15) rfl))) (by decide) (t := .long) (t' := .long) (by decide) (by decide)))
  refine own_aloadN C (pc' := 10) own_d1_9 rfl rfl rfl ?_
  refine own_lloadN C (pc' := 11) own_d1_10 rfl rfl ?_
  refine own_putF C (pc' := 14) (hw _ (List.mem_of_getElem? (i := 16) rfl)) F10 F8 (Or.inr ⟨(hw _ (List.mem_of_getElem? (i := 17) rfl)), rfl, rfl⟩) (hw _ (List.mem_of_getElem? (i := 1) rfl)) (ty := .long) (by decide) rfl rfl f1 own_d1_11 rfl (fun h12 W13 => ?_)
  have Z14 : n0 ≤ h12.size := Nat.le_trans Z6 (Nat.le_of_eq (Wr.size W13).symm)
  have K15 := Keep.wr K7 W13 (Or.inl (List.mem_of_getElem? (i := 0) rfl))
  have F16 : Exa Z h12 a "com/example/moirai/moirai/partitions/PartitionUsage" := Exa.wr W13 F8
  have F17 : Fld Z h12 a "com/example/moirai/moirai/partitions/PartitionUsage" "items" "J" (.long p0) := Fld.other W13 F9 (Or.inr (slot_ne (Or.inr (hw _ (List.mem_of_getElem? (i := 15) rfl))) (Or.inr (hw _ (List.mem_of_getElem? (i := 17) rfl))) (by decide) (t := .long) (t' := .long) (by decide) (by decide)))
  have F18 : Fld Z h12 a "com/example/moirai/moirai/partitions/PartitionUsage" "logicalPartitions" "J" (.long p1) := Fld.same W13 F10
  have F19 : Fld Z h12 a "com/example/moirai/moirai/partitions/PartitionUsage" "bytes" "J" (.long (0 : Int64)) := Fld.other W13 F11 (Or.inr (slot_ne (Or.inr (hw _ (List.mem_of_getElem? (i := 19) rfl))) (Or.inr (hw _ (List.mem_of_getElem? (i := 17) rfl))) (by decide) (t := .long) (t' := .long) (by decide) (by decide)))
  refine own_aloadN C (pc' := 15) own_d1_14 rfl rfl rfl ?_
  refine own_lload C (pc' := 17) own_d1_15 rfl rfl ?_
  refine own_putF C (pc' := 20) (hw _ (List.mem_of_getElem? (i := 18) rfl)) F19 F16 (Or.inr ⟨(hw _ (List.mem_of_getElem? (i := 19) rfl)), rfl, rfl⟩) (hw _ (List.mem_of_getElem? (i := 1) rfl)) (ty := .long) (by decide) rfl rfl f1 own_d1_17 rfl (fun h20 W21 => ?_)
  have Z22 : n0 ≤ h20.size := Nat.le_trans Z14 (Nat.le_of_eq (Wr.size W21).symm)
  have K23 := Keep.wr K15 W21 (Or.inl (List.mem_of_getElem? (i := 0) rfl))
  have F24 : Exa Z h20 a "com/example/moirai/moirai/partitions/PartitionUsage" := Exa.wr W21 F16
  have F25 : Fld Z h20 a "com/example/moirai/moirai/partitions/PartitionUsage" "items" "J" (.long p0) := Fld.other W21 F17 (Or.inr (slot_ne (Or.inr (hw _ (List.mem_of_getElem? (i := 15) rfl))) (Or.inr (hw _ (List.mem_of_getElem? (i := 19) rfl))) (by decide) (t := .long) (t' := .long) (by decide) (by decide)))
  have F26 : Fld Z h20 a "com/example/moirai/moirai/partitions/PartitionUsage" "logicalPartitions" "J" (.long p1) := Fld.other W21 F18 (Or.inr (slot_ne (Or.inr (hw _ (List.mem_of_getElem? (i := 17) rfl))) (Or.inr (hw _ (List.mem_of_getElem? (i := 19) rfl))) (by decide) (t := .long) (t' := .long) (by decide) (by decide)))
  have F27 : Fld Z h20 a "com/example/moirai/moirai/partitions/PartitionUsage" "bytes" "J" (.long p2) := Fld.same W21 F19
  exact own_retV C rfl own_d1_20 (by decide) (by decide) (⟨rfl, K23, F24, F25, F26, F27⟩)
set_option maxRecDepth 65536 in
set_option maxHeartbeats 40000000 in
theorem own_m4 {l : Launch} {Z : State} {a0 : Array Value} (hw : ∀ d ∈ tables_1, d.before a0 Z = true) {n0 : Nat} {ws : List Jvm.Cond} {h : Heap} (a : Addr) (b : Addr) (u0 : Int64) (u1 : Int64) (u2 : Int64) (w0 : Int64) (w1 : Int64) (w2 : Int64) (Z0 : n0 ≤ h.size) (f0 : Fld Z h a "com/example/moirai/moirai/partitions/PartitionUsage" "items" "J" (.long u0)) (f1 : Fld Z h a "com/example/moirai/moirai/partitions/PartitionUsage" "logicalPartitions" "J" (.long u1)) (f2 : Fld Z h a "com/example/moirai/moirai/partitions/PartitionUsage" "bytes" "J" (.long u2)) (f3 : Fld Z h b "com/example/moirai/moirai/partitions/PartitionUsage" "items" "J" (.long w0)) (f4 : Fld Z h b "com/example/moirai/moirai/partitions/PartitionUsage" "logicalPartitions" "J" (.long w1)) (f5 : Fld Z h b "com/example/moirai/moirai/partitions/PartitionUsage" "bytes" "J" (.long w2)) :
    own_Met l Z n0 (⟨"com/example/moirai/moirai/partitions/PartitionUsage", "minus", "(Lcom/example/moirai/moirai/partitions/PartitionUsage;)Lcom/example/moirai/moirai/partitions/PartitionUsage;"⟩ : MethodName) prog_17_method_3_code 2 (some (.object "com/example/moirai/moirai/partitions/PartitionUsage")) ({ frames := 3, cells := 1, slots := 3, locals := 43 } : Room) ws #[(.ref a), (.ref b)] h (fun v h' => ∃ y : Addr, (v = some (.ref y)) ∧ (Keep h h' []) ∧ (n0 ≤ y ∧ h.size ≤ y) ∧ (Exa Z h' y "com/example/moirai/moirai/partitions/PartitionUsage") ∧ (Fld Z h' y "com/example/moirai/moirai/partitions/PartitionUsage" "items" "J" (.long (u0 - w0))) ∧ (Fld Z h' y "com/example/moirai/moirai/partitions/PartitionUsage" "logicalPartitions" "J" (.long (u1 - w1))) ∧ (Fld Z h' y "com/example/moirai/moirai/partitions/PartitionUsage" "bytes" "J" (.long (u2 - w2)))) := by
  refine own_met own_pn1 #[.val (.ref a), .val (.ref b)] (fun m => by first | (simp [entryFrame, mkF, argsToLocals, Value.category]; done) | rfl) ?_
  intro p_ e_ s_ m_ b_ mt_ c_ C
  replace C : own_Ctx p_ s_ m_ mt_ c_ Z "com/example/moirai/moirai/partitions/PartitionUsage" "minus" prog_17_method_3_code 2 (some (.object "com/example/moirai/moirai/partitions/PartitionUsage")) := C
  have K0 : Keep h h [] := Keep.refl _ _
  refine own_new C (pc' := 3) (hw _ (List.mem_of_getElem? (i := 25) rfl)) (hw _ (List.mem_of_getElem? (i := 1) rfl)) (hw _ (List.mem_of_getElem? (i := 2) rfl)) Z0 own_d4_0 rfl (by decide) (by decide) (fun h28 a29 ea30 ga31 Z32 E33 A34 D35 => ?_)
  have ne36 : a ≠ a29 := by rw [ea30]; exact Nat.ne_of_lt (Fld.lt f0)
  have ne37 : b ≠ a29 := by rw [ea30]; exact Nat.ne_of_lt (Fld.lt f3)
  have F38 : Fld Z h28 a "com/example/moirai/moirai/partitions/PartitionUsage" "items" "J" (.long u0) := Fld.ext E33 f0
  have F39 : Fld Z h28 a "com/example/moirai/moirai/partitions/PartitionUsage" "logicalPartitions" "J" (.long u1) := Fld.ext E33 f1
  have F40 : Fld Z h28 a "com/example/moirai/moirai/partitions/PartitionUsage" "bytes" "J" (.long u2) := Fld.ext E33 f2
  have F41 : Fld Z h28 b "com/example/moirai/moirai/partitions/PartitionUsage" "items" "J" (.long w0) := Fld.ext E33 f3
  have F42 : Fld Z h28 b "com/example/moirai/moirai/partitions/PartitionUsage" "logicalPartitions" "J" (.long w1) := Fld.ext E33 f4
  have F43 : Fld Z h28 b "com/example/moirai/moirai/partitions/PartitionUsage" "bytes" "J" (.long w2) := Fld.ext E33 f5
  have gk45 : h.size ≤ a29 := by rw [ea30]; exact K0.1
  have K44 := Keep.ext K0 E33
  have F46 : Fld Z h28 a29 "com/example/moirai/moirai/partitions/PartitionUsage" "items" "J" (.long (0 : Int64)) := D35 (Or.inr (hw _ (List.mem_of_getElem? (i := 15) rfl))) (ty := .long) (by decide)
  have F47 : Fld Z h28 a29 "com/example/moirai/moirai/partitions/PartitionUsage" "logicalPartitions" "J" (.long (0 : Int64)) := D35 (Or.inr (hw _ (List.mem_of_getElem? (i := 17) rfl))) (ty := .long) (by decide)
  have F48 : Fld Z h28 a29 "com/example/moirai/moirai/partitions/PartitionUsage" "bytes" "J" (.long (0 : Int64)) := D35 (Or.inr (hw _ (List.mem_of_getElem? (i := 19) rfl))) (ty := .long) (by decide)
  refine own_dup C (pc' := 4) own_d4_3 rfl rfl ?_
  refine own_aloadN C (pc' := 5) own_d4_4 rfl rfl rfl ?_
  refine own_getF C (pc' := 8) (hw _ (List.mem_of_getElem? (i := 14) rfl)) F38 own_d4_5 rfl ?_
  refine own_aloadN C (pc' := 9) own_d4_8 rfl rfl rfl ?_
  refine own_getF C (pc' := 12) (hw _ (List.mem_of_getElem? (i := 14) rfl)) F41 own_d4_9 rfl ?_
  refine own_lsub C (pc' := 13) own_d4_12 rfl ?_
  refine own_aloadN C (pc' := 14) own_d4_13 rfl rfl rfl ?_
  refine own_getF C (pc' := 17) (hw _ (List.mem_of_getElem? (i := 16) rfl)) F39 own_d4_14 rfl ?_
  refine own_aloadN C (pc' := 18) own_d4_17 rfl rfl rfl ?_
  refine own_getF C (pc' := 21) (hw _ (List.mem_of_getElem? (i := 16) rfl)) F42 own_d4_18 rfl ?_
  refine own_lsub C (pc' := 22) own_d4_21 rfl ?_
  refine own_aloadN C (pc' := 23) own_d4_22 rfl rfl rfl ?_
  refine own_getF C (pc' := 26) (hw _ (List.mem_of_getElem? (i := 18) rfl)) F40 own_d4_23 rfl ?_
  refine own_aloadN C (pc' := 27) own_d4_26 rfl rfl rfl ?_
  refine own_getF C (pc' := 30) (hw _ (List.mem_of_getElem? (i := 18) rfl)) F43 own_d4_27 rfl ?_
  refine own_lsub C (pc' := 31) own_d4_30 rfl ?_
  refine own_callN C (pc' := 34) (y := (⟨"com/example/moirai/moirai/partitions/PartitionUsage", "<init>", "(JJJ)V"⟩ : MethodName)) (a := a29) (argsL := [(.long (u0 - w0)), (.long (u1 - w1)), (.long (u2 - w2))]) (rest := [(.ref a29)]) 1 rfl (hw _ (List.mem_of_getElem? (i := 26) rfl)) (hw _ (List.mem_of_getElem? (i := 4) rfl)) (hw _ (List.mem_of_getElem? (i := 5) rfl)) (hw _ (List.mem_of_getElem? (i := 2) rfl)) (by decide) (own_m1 hw a29 (u0 - w0) (u1 - w1) (u2 - w2) Z32 A34 ga31 F46 F47 F48 ) (by decide) (by decide) (lenOf own_pd1 rfl) rfl (Nat.le_of_eq rfl) own_d4_31 rfl rfl (by decide) (by decide) (fun v49 h50 hq51 => ?_)
  obtain ⟨rfl, K52, F53, F54, F55, F56⟩ := hq51
  have K58 := Keep.trans K44 K52 (allS (Or.inr gk45) all0)
  have Z59 : n0 ≤ h50.size := Nat.le_trans Z32 K52.1
  have F60 : Fld Z h50 a "com/example/moirai/moirai/partitions/PartitionUsage" "items" "J" (.long u0) := Fld.keep F38 K52 (ninS ne36 nin0)
  have F61 : Fld Z h50 a "com/example/moirai/moirai/partitions/PartitionUsage" "logicalPartitions" "J" (.long u1) := Fld.keep F39 K52 (ninS ne36 nin0)
  have F62 : Fld Z h50 a "com/example/moirai/moirai/partitions/PartitionUsage" "bytes" "J" (.long u2) := Fld.keep F40 K52 (ninS ne36 nin0)
  have F63 : Fld Z h50 b "com/example/moirai/moirai/partitions/PartitionUsage" "items" "J" (.long w0) := Fld.keep F41 K52 (ninS ne37 nin0)
  have F64 : Fld Z h50 b "com/example/moirai/moirai/partitions/PartitionUsage" "logicalPartitions" "J" (.long w1) := Fld.keep F42 K52 (ninS ne37 nin0)
  have F65 : Fld Z h50 b "com/example/moirai/moirai/partitions/PartitionUsage" "bytes" "J" (.long w2) := Fld.keep F43 K52 (ninS ne37 nin0)
  have F66 : Exa Z h50 a29 "com/example/moirai/moirai/partitions/PartitionUsage" := Exa.keep A34 K52
  show own_Run p_ l e_ _ s_ m_ _ b_ mt_ c_ n0 _ h50 _ _ (mkF m_ 34 #[.val (.ref a), .val (.ref b)] [(.ref a29)])
  exact own_ret C (t := (.object "com/example/moirai/moirai/partitions/PartitionUsage")) rfl rfl (Or.inr (Or.inr (Or.inr (Or.inr ⟨rfl, rfl, rfl⟩)))) own_d4_34 (by decide) (by decide) (⟨a29, rfl, K58, ⟨ga31, gk45⟩, F53, F54, F55, F56⟩)
set_option maxRecDepth 65536 in
set_option maxHeartbeats 40000000 in
theorem own_m5 {l : Launch} {Z : State} {a0 : Array Value} (hw : ∀ d ∈ tables_1, d.before a0 Z = true) {n0 : Nat} {ws : List Jvm.Cond} {h : Heap} (a : Addr) (w : Int64) (Z0 : n0 ≤ h.size) (f0 : Fld Z h a "com/example/moirai/moirai/partitions/PartitionUsage" "items" "J" (.long w)) :
    own_Met l Z n0 (⟨"com/example/moirai/moirai/partitions/PartitionUsage", "items", "()J"⟩ : MethodName) prog_17_method_7_code 1 (some .long) ({ frames := 0, cells := 0, slots := 0, locals := 0 } : Room) ws #[(.ref a)] h (fun v h' => (v = some (.long w)) ∧ (h = h')) := by
  refine own_met own_pn1 #[.val (.ref a)] (fun m => by first | (simp [entryFrame, mkF, argsToLocals, Value.category]; done) | rfl) ?_
  intro p_ e_ s_ m_ b_ mt_ c_ C
  replace C : own_Ctx p_ s_ m_ mt_ c_ Z "com/example/moirai/moirai/partitions/PartitionUsage" "items" prog_17_method_7_code 1 (some .long) := C
  refine own_aloadN C (pc' := 1) own_d5_0 rfl rfl rfl ?_
  refine own_getF C (pc' := 4) (hw _ (List.mem_of_getElem? (i := 14) rfl)) f0 own_d5_1 rfl ?_
  exact own_ret C (t := .long) rfl rfl (Or.inr (Or.inl ⟨rfl, rfl, _, rfl⟩)) own_d5_4 (by decide) (by decide) (⟨rfl, rfl⟩)
set_option maxRecDepth 65536 in
set_option maxHeartbeats 40000000 in
theorem own_m6 {l : Launch} {Z : State} {a0 : Array Value} (hw : ∀ d ∈ tables_1, d.before a0 Z = true) {n0 : Nat} {ws : List Jvm.Cond} {h : Heap} (a : Addr) (w : Int64) (Z0 : n0 ≤ h.size) (f0 : Fld Z h a "com/example/moirai/moirai/partitions/PartitionUsage" "logicalPartitions" "J" (.long w)) :
    own_Met l Z n0 (⟨"com/example/moirai/moirai/partitions/PartitionUsage", "logicalPartitions", "()J"⟩ : MethodName) prog_17_method_8_code 1 (some .long) ({ frames := 0, cells := 0, slots := 0, locals := 0 } : Room) ws #[(.ref a)] h (fun v h' => (v = some (.long w)) ∧ (h = h')) := by
  refine own_met own_pn1 #[.val (.ref a)] (fun m => by first | (simp [entryFrame, mkF, argsToLocals, Value.category]; done) | rfl) ?_
  intro p_ e_ s_ m_ b_ mt_ c_ C
  replace C : own_Ctx p_ s_ m_ mt_ c_ Z "com/example/moirai/moirai/partitions/PartitionUsage" "logicalPartitions" prog_17_method_8_code 1 (some .long) := C
  refine own_aloadN C (pc' := 1) own_d6_0 rfl rfl rfl ?_
  refine own_getF C (pc' := 4) (hw _ (List.mem_of_getElem? (i := 16) rfl)) f0 own_d6_1 rfl ?_
  exact own_ret C (t := .long) rfl rfl (Or.inr (Or.inl ⟨rfl, rfl, _, rfl⟩)) own_d6_4 (by decide) (by decide) (⟨rfl, rfl⟩)
set_option maxRecDepth 65536 in
set_option maxHeartbeats 40000000 in
theorem own_m7 {l : Launch} {Z : State} {a0 : Array Value} (hw : ∀ d ∈ tables_1, d.before a0 Z = true) {n0 : Nat} {ws : List Jvm.Cond} {h : Heap} (a : Addr) (w : Int64) (Z0 : n0 ≤ h.size) (f0 : Fld Z h a "com/example/moirai/moirai/partitions/PartitionUsage" "bytes" "J" (.long w)) :
    own_Met l Z n0 (⟨"com/example/moirai/moirai/partitions/PartitionUsage", "bytes", "()J"⟩ : MethodName) prog_17_method_9_code 1 (some .long) ({ frames := 0, cells := 0, slots := 0, locals := 0 } : Room) ws #[(.ref a)] h (fun v h' => (v = some (.long w)) ∧ (h = h')) := by
  refine own_met own_pn1 #[.val (.ref a)] (fun m => by first | (simp [entryFrame, mkF, argsToLocals, Value.category]; done) | rfl) ?_
  intro p_ e_ s_ m_ b_ mt_ c_ C
  replace C : own_Ctx p_ s_ m_ mt_ c_ Z "com/example/moirai/moirai/partitions/PartitionUsage" "bytes" prog_17_method_9_code 1 (some .long) := C
  refine own_aloadN C (pc' := 1) own_d7_0 rfl rfl rfl ?_
  refine own_getF C (pc' := 4) (hw _ (List.mem_of_getElem? (i := 18) rfl)) f0 own_d7_1 rfl ?_
  exact own_ret C (t := .long) rfl rfl (Or.inr (Or.inl ⟨rfl, rfl, _, rfl⟩)) own_d7_4 (by decide) (by decide) (⟨rfl, rfl⟩)
set_option maxRecDepth 65536 in
set_option maxHeartbeats 40000000 in
theorem own_law {l : Launch} {Z : State} {a0 : Array Value} (hw : ∀ d ∈ tables_1, d.before a0 Z = true) {n0 : Nat} {ws : List Jvm.Cond} {h : Heap} (p0 : Int64) (p1 : Int64) (p2 : Int64) (p3 : Int64) (p4 : Int64) (p5 : Int64) (Z0 : n0 ≤ h.size) :
    own_Met l Z n0 x code maxLocals ret room_1 ws #[(.long p0), (.long p1), (.long p2), (.long p3), (.long p4), (.long p5)] h (fun v h' => v = some (.int 1)) := by
  refine own_met own_pn2 #[.val (.long p0), .second, .val (.long p1), .second, .val (.long p2), .second, .val (.long p3), .second, .val (.long p4), .second, .val (.long p5), .second, .unset, .unset, .unset, .unset, .unset, .unset] (fun m => by first | (simp [entryFrame, mkF, argsToLocals, Value.category, maxLocals]; done) | rfl) ?_
  intro p_ e_ s_ m_ b_ mt_ c_ C
  replace C : own_Ctx p_ s_ m_ mt_ c_ Z "com/example/moirai/moirai/partitions/PartitionUsageMinusPinLaw" "law" code maxLocals ret := C
  refine own_new C (pc' := 3) (hw _ (List.mem_of_getElem? (i := 0) rfl)) (hw _ (List.mem_of_getElem? (i := 1) rfl)) (hw _ (List.mem_of_getElem? (i := 2) rfl)) Z0 at_0 rfl (by decide) (by decide) (fun h67 a68 ea69 ga70 Z71 E72 A73 D74 => ?_)
  have F75 : Fld Z h67 a68 "com/example/moirai/moirai/partitions/PartitionUsage" "items" "J" (.long (0 : Int64)) := D74 (Or.inr (hw _ (List.mem_of_getElem? (i := 15) rfl))) (ty := .long) (by decide)
  have F76 : Fld Z h67 a68 "com/example/moirai/moirai/partitions/PartitionUsage" "logicalPartitions" "J" (.long (0 : Int64)) := D74 (Or.inr (hw _ (List.mem_of_getElem? (i := 17) rfl))) (ty := .long) (by decide)
  have F77 : Fld Z h67 a68 "com/example/moirai/moirai/partitions/PartitionUsage" "bytes" "J" (.long (0 : Int64)) := D74 (Or.inr (hw _ (List.mem_of_getElem? (i := 19) rfl))) (ty := .long) (by decide)
  refine own_dup C (pc' := 4) at_3 rfl rfl ?_
  refine own_lloadN C (pc' := 5) at_4 rfl rfl ?_
  refine own_lloadN C (pc' := 6) at_5 rfl rfl ?_
  refine own_lload C (pc' := 8) at_6 rfl rfl ?_
  refine own_callN C (pc' := 11) (y := (⟨"com/example/moirai/moirai/partitions/PartitionUsage", "<init>", "(JJJ)V"⟩ : MethodName)) (a := a68) (argsL := [(.long p0), (.long p1), (.long p2)]) (rest := [(.ref a68)]) 1 rfl (hw _ (List.mem_of_getElem? (i := 3) rfl)) (hw _ (List.mem_of_getElem? (i := 4) rfl)) (hw _ (List.mem_of_getElem? (i := 5) rfl)) (hw _ (List.mem_of_getElem? (i := 2) rfl)) (by decide) (own_m1 hw a68 p0 p1 p2 Z71 A73 ga70 F75 F76 F77 ) (by decide) (by decide) (lenOf own_pd1 rfl) rfl (Nat.le_of_eq rfl) at_8 rfl rfl (by decide) (by decide) (fun v78 h79 hq80 => ?_)
  obtain ⟨rfl, K81, F82, F83, F84, F85⟩ := hq80
  have Z87 : n0 ≤ h79.size := Nat.le_trans Z71 K81.1
  have F88 : Exa Z h79 a68 "com/example/moirai/moirai/partitions/PartitionUsage" := Exa.keep A73 K81
  show own_Run p_ l e_ _ s_ m_ _ b_ mt_ c_ n0 _ h79 _ _ (mkF m_ 11 #[.val (.long p0), .second, .val (.long p1), .second, .val (.long p2), .second, .val (.long p3), .second, .val (.long p4), .second, .val (.long p5), .second, .unset, .unset, .unset, .unset, .unset, .unset] [(.ref a68)])
  refine own_astore C (pc' := 13) (Ls' := #[.val (.long p0), .second, .val (.long p1), .second, .val (.long p2), .second, .val (.long p3), .second, .val (.long p4), .second, .val (.long p5), .second, .val (.ref a68), .unset, .unset, .unset, .unset, .unset]) at_11 rfl rfl rfl ?_
  refine own_new C (pc' := 16) (hw _ (List.mem_of_getElem? (i := 0) rfl)) (hw _ (List.mem_of_getElem? (i := 1) rfl)) (hw _ (List.mem_of_getElem? (i := 2) rfl)) Z87 at_13 rfl (by decide) (by decide) (fun h89 a90 ea91 ga92 Z93 E94 A95 D96 => ?_)
  have ne97 : a68 ≠ a90 := by rw [ea91]; exact Nat.ne_of_lt (Exa.lt F82)
  have F98 : Exa Z h89 a68 "com/example/moirai/moirai/partitions/PartitionUsage" := Exa.ext E94 F82
  have F99 : Fld Z h89 a68 "com/example/moirai/moirai/partitions/PartitionUsage" "items" "J" (.long p0) := Fld.ext E94 F83
  have F100 : Fld Z h89 a68 "com/example/moirai/moirai/partitions/PartitionUsage" "logicalPartitions" "J" (.long p1) := Fld.ext E94 F84
  have F101 : Fld Z h89 a68 "com/example/moirai/moirai/partitions/PartitionUsage" "bytes" "J" (.long p2) := Fld.ext E94 F85
  have F102 : Fld Z h89 a90 "com/example/moirai/moirai/partitions/PartitionUsage" "items" "J" (.long (0 : Int64)) := D96 (Or.inr (hw _ (List.mem_of_getElem? (i := 15) rfl))) (ty := .long) (by decide)
  have F103 : Fld Z h89 a90 "com/example/moirai/moirai/partitions/PartitionUsage" "logicalPartitions" "J" (.long (0 : Int64)) := D96 (Or.inr (hw _ (List.mem_of_getElem? (i := 17) rfl))) (ty := .long) (by decide)
  have F104 : Fld Z h89 a90 "com/example/moirai/moirai/partitions/PartitionUsage" "bytes" "J" (.long (0 : Int64)) := D96 (Or.inr (hw _ (List.mem_of_getElem? (i := 19) rfl))) (ty := .long) (by decide)
  refine own_dup C (pc' := 17) at_16 rfl rfl ?_
  refine own_lload C (pc' := 19) at_17 rfl rfl ?_
  refine own_lload C (pc' := 21) at_19 rfl rfl ?_
  refine own_lload C (pc' := 23) at_21 rfl rfl ?_
  refine own_callN C (pc' := 26) (y := (⟨"com/example/moirai/moirai/partitions/PartitionUsage", "<init>", "(JJJ)V"⟩ : MethodName)) (a := a90) (argsL := [(.long p3), (.long p4), (.long p5)]) (rest := [(.ref a90)]) 1 rfl (hw _ (List.mem_of_getElem? (i := 3) rfl)) (hw _ (List.mem_of_getElem? (i := 4) rfl)) (hw _ (List.mem_of_getElem? (i := 5) rfl)) (hw _ (List.mem_of_getElem? (i := 2) rfl)) (by decide) (own_m1 hw a90 p3 p4 p5 Z93 A95 ga92 F102 F103 F104 ) (by decide) (by decide) (lenOf own_pd1 rfl) rfl (Nat.le_of_eq rfl) at_23 rfl rfl (by decide) (by decide) (fun v105 h106 hq107 => ?_)
  obtain ⟨rfl, K108, F109, F110, F111, F112⟩ := hq107
  have Z114 : n0 ≤ h106.size := Nat.le_trans Z93 K108.1
  have F115 : Exa Z h106 a68 "com/example/moirai/moirai/partitions/PartitionUsage" := Exa.keep F98 K108
  have F116 : Fld Z h106 a68 "com/example/moirai/moirai/partitions/PartitionUsage" "items" "J" (.long p0) := Fld.keep F99 K108 (ninS ne97 nin0)
  have F117 : Fld Z h106 a68 "com/example/moirai/moirai/partitions/PartitionUsage" "logicalPartitions" "J" (.long p1) := Fld.keep F100 K108 (ninS ne97 nin0)
  have F118 : Fld Z h106 a68 "com/example/moirai/moirai/partitions/PartitionUsage" "bytes" "J" (.long p2) := Fld.keep F101 K108 (ninS ne97 nin0)
  have F119 : Exa Z h106 a90 "com/example/moirai/moirai/partitions/PartitionUsage" := Exa.keep A95 K108
  show own_Run p_ l e_ _ s_ m_ _ b_ mt_ c_ n0 _ h106 _ _ (mkF m_ 26 #[.val (.long p0), .second, .val (.long p1), .second, .val (.long p2), .second, .val (.long p3), .second, .val (.long p4), .second, .val (.long p5), .second, .val (.ref a68), .unset, .unset, .unset, .unset, .unset] [(.ref a90)])
  refine own_astore C (pc' := 28) (Ls' := #[.val (.long p0), .second, .val (.long p1), .second, .val (.long p2), .second, .val (.long p3), .second, .val (.long p4), .second, .val (.long p5), .second, .val (.ref a68), .val (.ref a90), .unset, .unset, .unset, .unset]) at_26 rfl rfl rfl ?_
  refine own_aload C (pc' := 30) at_28 rfl rfl rfl ?_
  refine own_aload C (pc' := 32) at_30 rfl rfl rfl ?_
  refine own_callV C (pc' := 35) (y := (⟨"com/example/moirai/moirai/partitions/PartitionUsage", "minus", "(Lcom/example/moirai/moirai/partitions/PartitionUsage;)Lcom/example/moirai/moirai/partitions/PartitionUsage;"⟩ : MethodName)) (a := a68) (argsL := [(.ref a90)]) (rest := []) 0 F115 (hw _ (List.mem_of_getElem? (i := 20) rfl)) (hw _ (List.mem_of_getElem? (i := 21) rfl)) (hw _ (List.mem_of_getElem? (i := 23) rfl)) (hw _ (List.mem_of_getElem? (i := 22) rfl)) (hw _ (List.mem_of_getElem? (i := 24) rfl)) (hw _ (List.mem_of_getElem? (i := 2) rfl)) (by decide) (own_m4 hw a68 a90 p0 p1 p2 p3 p4 p5 Z114 F116 F117 F118 F110 F111 F112 ) (by decide) (by decide) (lenOf own_pd2 rfl) rfl (Nat.le_of_eq rfl) at_32 rfl rfl (by decide) (by decide) (fun v120 h121 hq122 => ?_)
  obtain ⟨a123, rfl, K124, ⟨ga125, gk126⟩, F127, F128, F129, F130⟩ := hq122
  have ne131 : a68 ≠ a123 := Nat.ne_of_lt (Nat.lt_of_lt_of_le (Exa.lt F115) gk126)
  have ne132 : a90 ≠ a123 := Nat.ne_of_lt (Nat.lt_of_lt_of_le (Exa.lt F109) gk126)
  have Z134 : n0 ≤ h121.size := Nat.le_trans Z114 K124.1
  have F135 : Exa Z h121 a68 "com/example/moirai/moirai/partitions/PartitionUsage" := Exa.keep F115 K124
  have F136 : Fld Z h121 a68 "com/example/moirai/moirai/partitions/PartitionUsage" "items" "J" (.long p0) := Fld.keep F116 K124 nin0
  have F137 : Fld Z h121 a68 "com/example/moirai/moirai/partitions/PartitionUsage" "logicalPartitions" "J" (.long p1) := Fld.keep F117 K124 nin0
  have F138 : Fld Z h121 a68 "com/example/moirai/moirai/partitions/PartitionUsage" "bytes" "J" (.long p2) := Fld.keep F118 K124 nin0
  have F139 : Exa Z h121 a90 "com/example/moirai/moirai/partitions/PartitionUsage" := Exa.keep F109 K124
  have F140 : Fld Z h121 a90 "com/example/moirai/moirai/partitions/PartitionUsage" "items" "J" (.long p3) := Fld.keep F110 K124 nin0
  have F141 : Fld Z h121 a90 "com/example/moirai/moirai/partitions/PartitionUsage" "logicalPartitions" "J" (.long p4) := Fld.keep F111 K124 nin0
  have F142 : Fld Z h121 a90 "com/example/moirai/moirai/partitions/PartitionUsage" "bytes" "J" (.long p5) := Fld.keep F112 K124 nin0
  show own_Run p_ l e_ _ s_ m_ _ b_ mt_ c_ n0 _ h121 _ _ (mkF m_ 35 #[.val (.long p0), .second, .val (.long p1), .second, .val (.long p2), .second, .val (.long p3), .second, .val (.long p4), .second, .val (.long p5), .second, .val (.ref a68), .val (.ref a90), .unset, .unset, .unset, .unset] [(.ref a123)])
  refine own_astore C (pc' := 37) (Ls' := #[.val (.long p0), .second, .val (.long p1), .second, .val (.long p2), .second, .val (.long p3), .second, .val (.long p4), .second, .val (.long p5), .second, .val (.ref a68), .val (.ref a90), .val (.ref a123), .unset, .unset, .unset]) at_35 rfl rfl rfl ?_
  refine own_aload C (pc' := 39) at_37 rfl rfl rfl ?_
  refine own_callV C (pc' := 42) (y := (⟨"com/example/moirai/moirai/partitions/PartitionUsage", "items", "()J"⟩ : MethodName)) (a := a123) (argsL := []) (rest := []) 0 F127 (hw _ (List.mem_of_getElem? (i := 27) rfl)) (hw _ (List.mem_of_getElem? (i := 28) rfl)) (hw _ (List.mem_of_getElem? (i := 30) rfl)) (hw _ (List.mem_of_getElem? (i := 29) rfl)) (hw _ (List.mem_of_getElem? (i := 31) rfl)) (hw _ (List.mem_of_getElem? (i := 2) rfl)) (by decide) (own_m5 hw a123 (p0 - p3) Z134 F128 ) (by decide) (by decide) (lenOf own_pd3 rfl) rfl (Nat.le_of_eq rfl) at_39 rfl rfl (by decide) (by decide) (fun v143 h144 hq145 => ?_)
  obtain ⟨rfl, rfl⟩ := hq145
  show own_Run p_ l e_ _ s_ m_ _ b_ mt_ c_ n0 _ h121 _ _ (mkF m_ 42 #[.val (.long p0), .second, .val (.long p1), .second, .val (.long p2), .second, .val (.long p3), .second, .val (.long p4), .second, .val (.long p5), .second, .val (.ref a68), .val (.ref a90), .val (.ref a123), .unset, .unset, .unset] [(.long (p0 - p3))])
  refine own_lload C (pc' := 44) at_42 rfl rfl ?_
  refine own_ladd C (pc' := 45) at_44 rfl ?_
  refine own_lloadN C (pc' := 46) at_45 rfl rfl ?_
  refine own_lcmp C (pc' := 47) at_46 rfl ?_
  refine own_ll_ne C (pc1 := 54) (pc2 := 50) at_47 rfl rfl (fun c146 => ?_) (fun c146 => ?_)
  · skip
    refine own_iconst C (pc' := 55) (v := (0 : Int32)) at_54 rfl (by decide) ?_
    refine own_istore C (pc' := 57) (Ls' := #[.val (.long p0), .second, .val (.long p1), .second, .val (.long p2), .second, .val (.long p3), .second, .val (.long p4), .second, .val (.long p5), .second, .val (.ref a68), .val (.ref a90), .val (.ref a123), .val (.int (0 : Int32)), .unset, .unset]) at_55 rfl rfl ?_
    refine own_aload C (pc' := 59) at_57 rfl rfl rfl ?_
    refine own_callV C (pc' := 62) (y := (⟨"com/example/moirai/moirai/partitions/PartitionUsage", "logicalPartitions", "()J"⟩ : MethodName)) (a := a123) (argsL := []) (rest := []) 0 F127 (hw _ (List.mem_of_getElem? (i := 32) rfl)) (hw _ (List.mem_of_getElem? (i := 33) rfl)) (hw _ (List.mem_of_getElem? (i := 35) rfl)) (hw _ (List.mem_of_getElem? (i := 34) rfl)) (hw _ (List.mem_of_getElem? (i := 36) rfl)) (hw _ (List.mem_of_getElem? (i := 2) rfl)) (by decide) (own_m6 hw a123 (p1 - p4) Z134 F129 ) (by decide) (by decide) (lenOf own_pd3 rfl) rfl (Nat.le_of_eq rfl) at_59 rfl rfl (by decide) (by decide) (fun v147 h148 hq149 => ?_)
    obtain ⟨rfl, rfl⟩ := hq149
    show own_Run p_ l e_ _ s_ m_ _ b_ mt_ c_ n0 _ h121 _ _ (mkF m_ 62 #[.val (.long p0), .second, .val (.long p1), .second, .val (.long p2), .second, .val (.long p3), .second, .val (.long p4), .second, .val (.long p5), .second, .val (.ref a68), .val (.ref a90), .val (.ref a123), .val (.int (0 : Int32)), .unset, .unset] [(.long (p1 - p4))])
    refine own_lload C (pc' := 64) at_62 rfl rfl ?_
    refine own_ladd C (pc' := 65) at_64 rfl ?_
    refine own_lloadN C (pc' := 66) at_65 rfl rfl ?_
    refine own_lcmp C (pc' := 67) at_66 rfl ?_
    refine own_ll_ne C (pc1 := 74) (pc2 := 70) at_67 rfl rfl (fun c150 => ?_) (fun c150 => ?_)
    · skip
      refine own_iconst C (pc' := 75) (v := (0 : Int32)) at_74 rfl (by decide) ?_
      refine own_istore C (pc' := 77) (Ls' := #[.val (.long p0), .second, .val (.long p1), .second, .val (.long p2), .second, .val (.long p3), .second, .val (.long p4), .second, .val (.long p5), .second, .val (.ref a68), .val (.ref a90), .val (.ref a123), .val (.int (0 : Int32)), .val (.int (0 : Int32)), .unset]) at_75 rfl rfl ?_
      refine own_aload C (pc' := 79) at_77 rfl rfl rfl ?_
      refine own_callV C (pc' := 82) (y := (⟨"com/example/moirai/moirai/partitions/PartitionUsage", "bytes", "()J"⟩ : MethodName)) (a := a123) (argsL := []) (rest := []) 0 F127 (hw _ (List.mem_of_getElem? (i := 37) rfl)) (hw _ (List.mem_of_getElem? (i := 38) rfl)) (hw _ (List.mem_of_getElem? (i := 40) rfl)) (hw _ (List.mem_of_getElem? (i := 39) rfl)) (hw _ (List.mem_of_getElem? (i := 41) rfl)) (hw _ (List.mem_of_getElem? (i := 2) rfl)) (by decide) (own_m7 hw a123 (p2 - p5) Z134 F130 ) (by decide) (by decide) (lenOf own_pd3 rfl) rfl (Nat.le_of_eq rfl) at_79 rfl rfl (by decide) (by decide) (fun v151 h152 hq153 => ?_)
      obtain ⟨rfl, rfl⟩ := hq153
      show own_Run p_ l e_ _ s_ m_ _ b_ mt_ c_ n0 _ h121 _ _ (mkF m_ 82 #[.val (.long p0), .second, .val (.long p1), .second, .val (.long p2), .second, .val (.long p3), .second, .val (.long p4), .second, .val (.long p5), .second, .val (.ref a68), .val (.ref a90), .val (.ref a123), .val (.int (0 : Int32)), .val (.int (0 : Int32)), .unset] [(.long (p2 - p5))])
      refine own_lload C (pc' := 84) at_82 rfl rfl ?_
      refine own_ladd C (pc' := 85) at_84 rfl ?_
      refine own_lload C (pc' := 87) at_85 rfl rfl ?_
      refine own_lcmp C (pc' := 88) at_87 rfl ?_
      refine own_ll_ne C (pc1 := 95) (pc2 := 91) at_88 rfl rfl (fun c154 => ?_) (fun c154 => ?_)
      · skip
        refine own_iconst C (pc' := 96) (v := (0 : Int32)) at_95 rfl (by decide) ?_
        refine own_istore C (pc' := 98) (Ls' := #[.val (.long p0), .second, .val (.long p1), .second, .val (.long p2), .second, .val (.long p3), .second, .val (.long p4), .second, .val (.long p5), .second, .val (.ref a68), .val (.ref a90), .val (.ref a123), .val (.int (0 : Int32)), .val (.int (0 : Int32)), .val (.int (0 : Int32))]) at_96 rfl rfl ?_
        refine own_iload C (pc' := 100) at_98 rfl rfl ?_
        refine own_i0_eq C (pc1 := 117) (pc2 := 103) at_100 rfl rfl (fun c155 => ?_) (fun c155 => absurd c155 (by decide))
        refine own_iconst C (pc' := 118) (v := (0 : Int32)) at_117 rfl (by decide) ?_
        exact own_ret C (t := .boolean) rfl rfl (Or.inl ⟨rfl, by simp, _, rfl⟩) at_118 (by decide) (by decide) (absurd (own_back _ _) c154)
      · skip
        refine own_iconst C (pc' := 92) (v := (1 : Int32)) at_91 rfl (by decide) ?_
        refine own_goto C (pc' := 96) at_92 rfl ?_
        refine own_istore C (pc' := 98) (Ls' := #[.val (.long p0), .second, .val (.long p1), .second, .val (.long p2), .second, .val (.long p3), .second, .val (.long p4), .second, .val (.long p5), .second, .val (.ref a68), .val (.ref a90), .val (.ref a123), .val (.int (0 : Int32)), .val (.int (0 : Int32)), .val (.int (1 : Int32))]) at_96 rfl rfl ?_
        refine own_iload C (pc' := 100) at_98 rfl rfl ?_
        refine own_i0_eq C (pc1 := 117) (pc2 := 103) at_100 rfl rfl (fun c156 => ?_) (fun c156 => absurd c156 (by decide))
        refine own_iconst C (pc' := 118) (v := (0 : Int32)) at_117 rfl (by decide) ?_
        exact own_ret C (t := .boolean) rfl rfl (Or.inl ⟨rfl, by simp, _, rfl⟩) at_118 (by decide) (by decide) (absurd (own_back _ _) c150)
    · skip
      refine own_iconst C (pc' := 71) (v := (1 : Int32)) at_70 rfl (by decide) ?_
      refine own_goto C (pc' := 75) at_71 rfl ?_
      refine own_istore C (pc' := 77) (Ls' := #[.val (.long p0), .second, .val (.long p1), .second, .val (.long p2), .second, .val (.long p3), .second, .val (.long p4), .second, .val (.long p5), .second, .val (.ref a68), .val (.ref a90), .val (.ref a123), .val (.int (0 : Int32)), .val (.int (1 : Int32)), .unset]) at_75 rfl rfl ?_
      refine own_aload C (pc' := 79) at_77 rfl rfl rfl ?_
      refine own_callV C (pc' := 82) (y := (⟨"com/example/moirai/moirai/partitions/PartitionUsage", "bytes", "()J"⟩ : MethodName)) (a := a123) (argsL := []) (rest := []) 0 F127 (hw _ (List.mem_of_getElem? (i := 37) rfl)) (hw _ (List.mem_of_getElem? (i := 38) rfl)) (hw _ (List.mem_of_getElem? (i := 40) rfl)) (hw _ (List.mem_of_getElem? (i := 39) rfl)) (hw _ (List.mem_of_getElem? (i := 41) rfl)) (hw _ (List.mem_of_getElem? (i := 2) rfl)) (by decide) (own_m7 hw a123 (p2 - p5) Z134 F130 ) (by decide) (by decide) (lenOf own_pd3 rfl) rfl (Nat.le_of_eq rfl) at_79 rfl rfl (by decide) (by decide) (fun v157 h158 hq159 => ?_)
      obtain ⟨rfl, rfl⟩ := hq159
      show own_Run p_ l e_ _ s_ m_ _ b_ mt_ c_ n0 _ h121 _ _ (mkF m_ 82 #[.val (.long p0), .second, .val (.long p1), .second, .val (.long p2), .second, .val (.long p3), .second, .val (.long p4), .second, .val (.long p5), .second, .val (.ref a68), .val (.ref a90), .val (.ref a123), .val (.int (0 : Int32)), .val (.int (1 : Int32)), .unset] [(.long (p2 - p5))])
      refine own_lload C (pc' := 84) at_82 rfl rfl ?_
      refine own_ladd C (pc' := 85) at_84 rfl ?_
      refine own_lload C (pc' := 87) at_85 rfl rfl ?_
      refine own_lcmp C (pc' := 88) at_87 rfl ?_
      refine own_ll_ne C (pc1 := 95) (pc2 := 91) at_88 rfl rfl (fun c160 => ?_) (fun c160 => ?_)
      · skip
        refine own_iconst C (pc' := 96) (v := (0 : Int32)) at_95 rfl (by decide) ?_
        refine own_istore C (pc' := 98) (Ls' := #[.val (.long p0), .second, .val (.long p1), .second, .val (.long p2), .second, .val (.long p3), .second, .val (.long p4), .second, .val (.long p5), .second, .val (.ref a68), .val (.ref a90), .val (.ref a123), .val (.int (0 : Int32)), .val (.int (1 : Int32)), .val (.int (0 : Int32))]) at_96 rfl rfl ?_
        refine own_iload C (pc' := 100) at_98 rfl rfl ?_
        refine own_i0_eq C (pc1 := 117) (pc2 := 103) at_100 rfl rfl (fun c161 => ?_) (fun c161 => absurd c161 (by decide))
        refine own_iconst C (pc' := 118) (v := (0 : Int32)) at_117 rfl (by decide) ?_
        exact own_ret C (t := .boolean) rfl rfl (Or.inl ⟨rfl, by simp, _, rfl⟩) at_118 (by decide) (by decide) (absurd (own_back _ _) c160)
      · skip
        refine own_iconst C (pc' := 92) (v := (1 : Int32)) at_91 rfl (by decide) ?_
        refine own_goto C (pc' := 96) at_92 rfl ?_
        refine own_istore C (pc' := 98) (Ls' := #[.val (.long p0), .second, .val (.long p1), .second, .val (.long p2), .second, .val (.long p3), .second, .val (.long p4), .second, .val (.long p5), .second, .val (.ref a68), .val (.ref a90), .val (.ref a123), .val (.int (0 : Int32)), .val (.int (1 : Int32)), .val (.int (1 : Int32))]) at_96 rfl rfl ?_
        refine own_iload C (pc' := 100) at_98 rfl rfl ?_
        refine own_i0_eq C (pc1 := 117) (pc2 := 103) at_100 rfl rfl (fun c162 => ?_) (fun c162 => absurd c162 (by decide))
        refine own_iconst C (pc' := 118) (v := (0 : Int32)) at_117 rfl (by decide) ?_
        exact own_ret C (t := .boolean) rfl rfl (Or.inl ⟨rfl, by simp, _, rfl⟩) at_118 (by decide) (by decide) (absurd (own_back _ _) c146)
  · skip
    refine own_iconst C (pc' := 51) (v := (1 : Int32)) at_50 rfl (by decide) ?_
    refine own_goto C (pc' := 55) at_51 rfl ?_
    refine own_istore C (pc' := 57) (Ls' := #[.val (.long p0), .second, .val (.long p1), .second, .val (.long p2), .second, .val (.long p3), .second, .val (.long p4), .second, .val (.long p5), .second, .val (.ref a68), .val (.ref a90), .val (.ref a123), .val (.int (1 : Int32)), .unset, .unset]) at_55 rfl rfl ?_
    refine own_aload C (pc' := 59) at_57 rfl rfl rfl ?_
    refine own_callV C (pc' := 62) (y := (⟨"com/example/moirai/moirai/partitions/PartitionUsage", "logicalPartitions", "()J"⟩ : MethodName)) (a := a123) (argsL := []) (rest := []) 0 F127 (hw _ (List.mem_of_getElem? (i := 32) rfl)) (hw _ (List.mem_of_getElem? (i := 33) rfl)) (hw _ (List.mem_of_getElem? (i := 35) rfl)) (hw _ (List.mem_of_getElem? (i := 34) rfl)) (hw _ (List.mem_of_getElem? (i := 36) rfl)) (hw _ (List.mem_of_getElem? (i := 2) rfl)) (by decide) (own_m6 hw a123 (p1 - p4) Z134 F129 ) (by decide) (by decide) (lenOf own_pd3 rfl) rfl (Nat.le_of_eq rfl) at_59 rfl rfl (by decide) (by decide) (fun v163 h164 hq165 => ?_)
    obtain ⟨rfl, rfl⟩ := hq165
    show own_Run p_ l e_ _ s_ m_ _ b_ mt_ c_ n0 _ h121 _ _ (mkF m_ 62 #[.val (.long p0), .second, .val (.long p1), .second, .val (.long p2), .second, .val (.long p3), .second, .val (.long p4), .second, .val (.long p5), .second, .val (.ref a68), .val (.ref a90), .val (.ref a123), .val (.int (1 : Int32)), .unset, .unset] [(.long (p1 - p4))])
    refine own_lload C (pc' := 64) at_62 rfl rfl ?_
    refine own_ladd C (pc' := 65) at_64 rfl ?_
    refine own_lloadN C (pc' := 66) at_65 rfl rfl ?_
    refine own_lcmp C (pc' := 67) at_66 rfl ?_
    refine own_ll_ne C (pc1 := 74) (pc2 := 70) at_67 rfl rfl (fun c166 => ?_) (fun c166 => ?_)
    · skip
      refine own_iconst C (pc' := 75) (v := (0 : Int32)) at_74 rfl (by decide) ?_
      refine own_istore C (pc' := 77) (Ls' := #[.val (.long p0), .second, .val (.long p1), .second, .val (.long p2), .second, .val (.long p3), .second, .val (.long p4), .second, .val (.long p5), .second, .val (.ref a68), .val (.ref a90), .val (.ref a123), .val (.int (1 : Int32)), .val (.int (0 : Int32)), .unset]) at_75 rfl rfl ?_
      refine own_aload C (pc' := 79) at_77 rfl rfl rfl ?_
      refine own_callV C (pc' := 82) (y := (⟨"com/example/moirai/moirai/partitions/PartitionUsage", "bytes", "()J"⟩ : MethodName)) (a := a123) (argsL := []) (rest := []) 0 F127 (hw _ (List.mem_of_getElem? (i := 37) rfl)) (hw _ (List.mem_of_getElem? (i := 38) rfl)) (hw _ (List.mem_of_getElem? (i := 40) rfl)) (hw _ (List.mem_of_getElem? (i := 39) rfl)) (hw _ (List.mem_of_getElem? (i := 41) rfl)) (hw _ (List.mem_of_getElem? (i := 2) rfl)) (by decide) (own_m7 hw a123 (p2 - p5) Z134 F130 ) (by decide) (by decide) (lenOf own_pd3 rfl) rfl (Nat.le_of_eq rfl) at_79 rfl rfl (by decide) (by decide) (fun v167 h168 hq169 => ?_)
      obtain ⟨rfl, rfl⟩ := hq169
      show own_Run p_ l e_ _ s_ m_ _ b_ mt_ c_ n0 _ h121 _ _ (mkF m_ 82 #[.val (.long p0), .second, .val (.long p1), .second, .val (.long p2), .second, .val (.long p3), .second, .val (.long p4), .second, .val (.long p5), .second, .val (.ref a68), .val (.ref a90), .val (.ref a123), .val (.int (1 : Int32)), .val (.int (0 : Int32)), .unset] [(.long (p2 - p5))])
      refine own_lload C (pc' := 84) at_82 rfl rfl ?_
      refine own_ladd C (pc' := 85) at_84 rfl ?_
      refine own_lload C (pc' := 87) at_85 rfl rfl ?_
      refine own_lcmp C (pc' := 88) at_87 rfl ?_
      refine own_ll_ne C (pc1 := 95) (pc2 := 91) at_88 rfl rfl (fun c170 => ?_) (fun c170 => ?_)
      · skip
        refine own_iconst C (pc' := 96) (v := (0 : Int32)) at_95 rfl (by decide) ?_
        refine own_istore C (pc' := 98) (Ls' := #[.val (.long p0), .second, .val (.long p1), .second, .val (.long p2), .second, .val (.long p3), .second, .val (.long p4), .second, .val (.long p5), .second, .val (.ref a68), .val (.ref a90), .val (.ref a123), .val (.int (1 : Int32)), .val (.int (0 : Int32)), .val (.int (0 : Int32))]) at_96 rfl rfl ?_
        refine own_iload C (pc' := 100) at_98 rfl rfl ?_
        refine own_i0_eq C (pc1 := 117) (pc2 := 103) at_100 rfl rfl (fun c171 => absurd c171 (by decide)) (fun c171 => ?_)
        refine own_iload C (pc' := 105) at_103 rfl rfl ?_
        refine own_i0_eq C (pc1 := 117) (pc2 := 108) at_105 rfl rfl (fun c172 => ?_) (fun c172 => absurd c172 (by decide))
        refine own_iconst C (pc' := 118) (v := (0 : Int32)) at_117 rfl (by decide) ?_
        exact own_ret C (t := .boolean) rfl rfl (Or.inl ⟨rfl, by simp, _, rfl⟩) at_118 (by decide) (by decide) (absurd (own_back _ _) c170)
      · skip
        refine own_iconst C (pc' := 92) (v := (1 : Int32)) at_91 rfl (by decide) ?_
        refine own_goto C (pc' := 96) at_92 rfl ?_
        refine own_istore C (pc' := 98) (Ls' := #[.val (.long p0), .second, .val (.long p1), .second, .val (.long p2), .second, .val (.long p3), .second, .val (.long p4), .second, .val (.long p5), .second, .val (.ref a68), .val (.ref a90), .val (.ref a123), .val (.int (1 : Int32)), .val (.int (0 : Int32)), .val (.int (1 : Int32))]) at_96 rfl rfl ?_
        refine own_iload C (pc' := 100) at_98 rfl rfl ?_
        refine own_i0_eq C (pc1 := 117) (pc2 := 103) at_100 rfl rfl (fun c173 => absurd c173 (by decide)) (fun c173 => ?_)
        refine own_iload C (pc' := 105) at_103 rfl rfl ?_
        refine own_i0_eq C (pc1 := 117) (pc2 := 108) at_105 rfl rfl (fun c174 => ?_) (fun c174 => absurd c174 (by decide))
        refine own_iconst C (pc' := 118) (v := (0 : Int32)) at_117 rfl (by decide) ?_
        exact own_ret C (t := .boolean) rfl rfl (Or.inl ⟨rfl, by simp, _, rfl⟩) at_118 (by decide) (by decide) (absurd (own_back _ _) c166)
    · skip
      refine own_iconst C (pc' := 71) (v := (1 : Int32)) at_70 rfl (by decide) ?_
      refine own_goto C (pc' := 75) at_71 rfl ?_
      refine own_istore C (pc' := 77) (Ls' := #[.val (.long p0), .second, .val (.long p1), .second, .val (.long p2), .second, .val (.long p3), .second, .val (.long p4), .second, .val (.long p5), .second, .val (.ref a68), .val (.ref a90), .val (.ref a123), .val (.int (1 : Int32)), .val (.int (1 : Int32)), .unset]) at_75 rfl rfl ?_
      refine own_aload C (pc' := 79) at_77 rfl rfl rfl ?_
      refine own_callV C (pc' := 82) (y := (⟨"com/example/moirai/moirai/partitions/PartitionUsage", "bytes", "()J"⟩ : MethodName)) (a := a123) (argsL := []) (rest := []) 0 F127 (hw _ (List.mem_of_getElem? (i := 37) rfl)) (hw _ (List.mem_of_getElem? (i := 38) rfl)) (hw _ (List.mem_of_getElem? (i := 40) rfl)) (hw _ (List.mem_of_getElem? (i := 39) rfl)) (hw _ (List.mem_of_getElem? (i := 41) rfl)) (hw _ (List.mem_of_getElem? (i := 2) rfl)) (by decide) (own_m7 hw a123 (p2 - p5) Z134 F130 ) (by decide) (by decide) (lenOf own_pd3 rfl) rfl (Nat.le_of_eq rfl) at_79 rfl rfl (by decide) (by decide) (fun v175 h176 hq177 => ?_)
      obtain ⟨rfl, rfl⟩ := hq177
      show own_Run p_ l e_ _ s_ m_ _ b_ mt_ c_ n0 _ h121 _ _ (mkF m_ 82 #[.val (.long p0), .second, .val (.long p1), .second, .val (.long p2), .second, .val (.long p3), .second, .val (.long p4), .second, .val (.long p5), .second, .val (.ref a68), .val (.ref a90), .val (.ref a123), .val (.int (1 : Int32)), .val (.int (1 : Int32)), .unset] [(.long (p2 - p5))])
      refine own_lload C (pc' := 84) at_82 rfl rfl ?_
      refine own_ladd C (pc' := 85) at_84 rfl ?_
      refine own_lload C (pc' := 87) at_85 rfl rfl ?_
      refine own_lcmp C (pc' := 88) at_87 rfl ?_
      refine own_ll_ne C (pc1 := 95) (pc2 := 91) at_88 rfl rfl (fun c178 => ?_) (fun c178 => ?_)
      · skip
        refine own_iconst C (pc' := 96) (v := (0 : Int32)) at_95 rfl (by decide) ?_
        refine own_istore C (pc' := 98) (Ls' := #[.val (.long p0), .second, .val (.long p1), .second, .val (.long p2), .second, .val (.long p3), .second, .val (.long p4), .second, .val (.long p5), .second, .val (.ref a68), .val (.ref a90), .val (.ref a123), .val (.int (1 : Int32)), .val (.int (1 : Int32)), .val (.int (0 : Int32))]) at_96 rfl rfl ?_
        refine own_iload C (pc' := 100) at_98 rfl rfl ?_
        refine own_i0_eq C (pc1 := 117) (pc2 := 103) at_100 rfl rfl (fun c179 => absurd c179 (by decide)) (fun c179 => ?_)
        refine own_iload C (pc' := 105) at_103 rfl rfl ?_
        refine own_i0_eq C (pc1 := 117) (pc2 := 108) at_105 rfl rfl (fun c180 => absurd c180 (by decide)) (fun c180 => ?_)
        refine own_iload C (pc' := 110) at_108 rfl rfl ?_
        refine own_i0_eq C (pc1 := 117) (pc2 := 113) at_110 rfl rfl (fun c181 => ?_) (fun c181 => absurd c181 (by decide))
        refine own_iconst C (pc' := 118) (v := (0 : Int32)) at_117 rfl (by decide) ?_
        exact own_ret C (t := .boolean) rfl rfl (Or.inl ⟨rfl, by simp, _, rfl⟩) at_118 (by decide) (by decide) (absurd (own_back _ _) c178)
      · skip
        refine own_iconst C (pc' := 92) (v := (1 : Int32)) at_91 rfl (by decide) ?_
        refine own_goto C (pc' := 96) at_92 rfl ?_
        refine own_istore C (pc' := 98) (Ls' := #[.val (.long p0), .second, .val (.long p1), .second, .val (.long p2), .second, .val (.long p3), .second, .val (.long p4), .second, .val (.long p5), .second, .val (.ref a68), .val (.ref a90), .val (.ref a123), .val (.int (1 : Int32)), .val (.int (1 : Int32)), .val (.int (1 : Int32))]) at_96 rfl rfl ?_
        refine own_iload C (pc' := 100) at_98 rfl rfl ?_
        refine own_i0_eq C (pc1 := 117) (pc2 := 103) at_100 rfl rfl (fun c182 => absurd c182 (by decide)) (fun c182 => ?_)
        refine own_iload C (pc' := 105) at_103 rfl rfl ?_
        refine own_i0_eq C (pc1 := 117) (pc2 := 108) at_105 rfl rfl (fun c183 => absurd c183 (by decide)) (fun c183 => ?_)
        refine own_iload C (pc' := 110) at_108 rfl rfl ?_
        refine own_i0_eq C (pc1 := 117) (pc2 := 113) at_110 rfl rfl (fun c184 => absurd c184 (by decide)) (fun c184 => ?_)
        refine own_iconst C (pc' := 114) (v := (1 : Int32)) at_113 rfl (by decide) ?_
        refine own_goto C (pc' := 118) at_114 rfl ?_
        exact own_ret C (t := .boolean) rfl rfl (Or.inl ⟨rfl, by simp, _, rfl⟩) at_118 (by decide) (by decide) (rfl)
set_option maxRecDepth 65536 in
set_option maxHeartbeats 40000000 in
theorem own_comes {Post : Tables → Env → Array Value → State → Outcome → State → Prop} (hpost : ∀ tb e args s v u, (limb_1_1.after args s (.returned v) u = true ∧ limb_1_2.after args s (.returned v) u = true ∧ True) → FrameEnd s (.returned v) u (Jvm.fieldLocs frame_1_writes args s ++ Jvm.arrayLocs frame_1_arrays args s ++ Jvm.staticLocs frame_1_statics s) 16 128 → Post tb e args s (.returned v) u) :
    ArmFor flags0 classFile x code maxLocals ret World_1 tables_1 room_1 Calls_1 rest_1 Pre_1 Post := by
  intro l hfl _ _ p e ha hc hk s m args below hf hA hF happ hP
  obtain ⟨hcalls, hrest, hpre⟩ := hP
  obtain ⟨-, -, -, hnamed, -, -, -, hat⟩ := (Spec.applies_iff hf).mp happ
  obtain ⟨hg, hn⟩ := and_e (Cond.before_iff.mp (show (Jvm.Cond.and given_1 narrow_1).before args s = true from hpre))
  obtain ⟨g0, r0⟩ := and_e hg
  obtain ⟨q0, r1⟩ := and_e r0
  obtain ⟨q1, r2⟩ := and_e r1
  obtain ⟨q2, r3⟩ := and_e r2
  obtain ⟨q3, r4⟩ := and_e r3
  obtain ⟨q4, r5⟩ := and_e r4
  obtain ⟨w0, w1, w2, w3, w4, w5, rfl⟩ : ∃ w0 w1 w2 w3 w4 w5 : Value, args = #[w0, w1, w2, w3, w4, w5] := by
    have hs : args.size = 6 := by simpa [Cond.value, given_1] using g0
    obtain ⟨L⟩ := args
    match L, hs with
    | [w0, w1, w2, w3, w4, w5], _ => exact ⟨w0, w1, w2, w3, w4, w5, rfl⟩
  have hw := fun d (hd : d ∈ tables_1) => atoms_spec (ws := Jvm.Cond.code x code maxLocals ret :: tables_1) hat d (List.mem_cons_of_mem _ hd)
  obtain ⟨i0, ei0⟩ := isL_v q0
  obtain rfl : w0 = (.long i0) := Option.some.inj ei0
  obtain ⟨i1, ei1⟩ := isL_v q1
  obtain rfl : w1 = (.long i1) := Option.some.inj ei1
  obtain ⟨i2, ei2⟩ := isL_v q2
  obtain rfl : w2 = (.long i2) := Option.some.inj ei2
  obtain ⟨i3, ei3⟩ := isL_v q3
  obtain rfl : w3 = (.long i3) := Option.some.inj ei3
  obtain ⟨i4, ei4⟩ := isL_v q4
  obtain rfl : w4 = (.long i4) := Option.some.inj ei4
  obtain ⟨i5, ei5⟩ := isL_v r5
  obtain rfl : w5 = (.long i5) := Option.some.inj ei5
  obtain ⟨n, o, h1, h2, h3, _, L, rfl, ⟨N, rfl⟩, hq⟩ := own_law (l := l) (Z := s) hw (n0 := s.heap.size) (ws := tables_1) (h := s.heap) i0 i1 i2 i3 i4 i5 (Nat.le_refl _)  p e ha hc hk s m _ below hf ((Spec.applies_iff_loose hf).mp happ).1 ⟨rfl, State.Warmed39.refl s, rfl⟩ trivial
  refine ⟨n, _, h1, h2, h3, hpost _ _ _ _ _ _ ⟨Cond.after_iff.mpr rfl, Cond.after_iff.mpr (eq_i res_at (Term.int_eval (1)) rfl), trivial⟩ ⟨hq.1, hq.2.1, (hq.2.2.sift fun y hy => Or.inr (N y hy)).mono (by decide) (by decide)⟩⟩
theorem main_1_1 : Claimed_1_1 := own_comes fun _ _ _ _ _ _ h hF => ⟨h.1, hF⟩
theorem main_1_2 : Claimed_1_2 := own_comes fun _ _ _ _ _ _ h hF => ⟨h.2.1, hF⟩
end Jvm.Pilot.@@N@@
namespace Jvm.Pilot.@@N@@
open Jvm Jvm.ClassFile Sem Op Lib Jvm.Free Jvm.Stand Jvm.Pilot.@@N@@.Jvm.D
/-! MADE BY PROGRAM (witnessworld.py) out of the Statement's table words and the real class files: 10 classes; the members and pool entries that the words name. The judged class is class 1, her method 1. -/
namespace start1
open Jvm.ClassFile
def u (s : String) : CpInfo := .utf8 (stringToUtf16 s)
/-- a pool by its gaps: so many unusable entries, then the entry; so many at the end -/
def gap : Nat → List CpInfo → List CpInfo
  | 0, r => r
  | n + 1, r => .unusable :: gap n r
def poolList (es : List (Nat × CpInfo)) (last : Nat) : List CpInfo := es.foldr (fun e r => gap e.1 (e.2 :: r)) (gap last [])
def pool (es : List (Nat × CpInfo)) (last : Nat) : Array CpInfo := ⟨poolList es last⟩
def fileOf (pool : Array CpInfo) (this : Nat) (attrs : Array Attribute := #[]) (ms : Array MethodInfo := #[]) (fl : Nat := 33) (sup : Nat := 0) (ifs : Array Nat := #[]) (fds : Array FieldInfo := #[]) : ClassFile where
  minorVersion := 0
  majorVersion := 65
  constantPool := pool
  accessFlags := fl
  thisClass := this
  superClass := sup
  interfaces := ifs
  fields := fds
  methods := ms
  attributes := attrs
def plain (name : String) (sup : Option ClassId) : Class where
  name := name
  kind := .ordinary
  loader := none
  accessFlags := 33
  super := sup
  interfaces := #[]
  cf := none
  fields := #[]
  methods := #[]
  instanceTypes := #[]
  staticTypes := #[]
  resolved := #[]
  callSites := []
  init := .initialized
  statics := none
  mirror := none

def pool0 : Array CpInfo := pool [(5, u "<init>"), (0, u "()V"), (1, .class_ 10), (1, u "java/lang/Object")] 113

def k0c0 : Code := { maxStack := 0, maxLocals := 1, code := object_method_1_code, exceptionTable := #[], attributes := #[] }
def k0m0 : Method := { name := "<init>", desc := "()V", sig := { parameters := [], returnType := none }, accessFlags := 1, code := some k0c0 }
/-- java/lang/Object -/
def k0 : Class := { plain "java/lang/Object" none with
  accessFlags := 33
  interfaces := #[]
  cf := some (fileOf pool0 8 #[] #[{ accessFlags := 1, nameIndex := 5, descriptorIndex := 6, attributes := #[] }] 33 0 #[] #[])
  fields := #[]
  methods := #[k0m0]
  instanceTypes := #[]
  staticTypes := #[]
  resolved := Array.replicate 124 none
  statics := none }

def pool1 : Array CpInfo := pool [(2, .class_ 4), (1, u "java/lang/Object"), (0, u "<init>"), (0, u "()V"), (0, .class_ 8), (0, u "com/example/moirai/moirai/partitions/PartitionUsage"), (0, .methodref 7 10), (0, .nameAndType 5 11), (0, u "(JJJ)V"), (0, .methodref 7 13), (0, .nameAndType 14 15), (0, u "minus"), (0, u "(Lcom/example/moirai/moirai/partitions/PartitionUsage;)Lcom/example/moirai/moirai/partitions/PartitionUsage;"), (0, .methodref 7 17), (0, .nameAndType 18 19), (0, u "items"), (0, u "()J"), (0, .methodref 7 21), (0, .nameAndType 22 19), (0, u "logicalPartitions"), (0, .methodref 7 24), (0, .nameAndType 25 19), (0, u "bytes"), (0, .class_ 27), (0, u "com/example/moirai/moirai/partitions/PartitionUsageMinusPinLaw"), (2, u "law"), (0, u "(JJJJJJ)Z")] 3

def k1m0 : Method := { name := "<init>", desc := "()V", sig := { parameters := [], returnType := none }, accessFlags := 1, code := none }
def k1c1 : Code := { maxStack := 8, maxLocals := 18, code := code, exceptionTable := #[], attributes := #[] }
def k1m1 : Method := { name := "law", desc := "(JJJJJJ)Z", sig := { parameters := [.long, .long, .long, .long, .long, .long], returnType := some .boolean }, accessFlags := 9, code := some k1c1 }
/-- com/example/moirai/moirai/partitions/PartitionUsageMinusPinLaw -/
def k1 : Class := { plain "com/example/moirai/moirai/partitions/PartitionUsageMinusPinLaw" (some 0) with
  accessFlags := 49
  interfaces := #[]
  cf := some (fileOf pool1 26 #[] #[{ accessFlags := 1, nameIndex := 5, descriptorIndex := 6, attributes := #[] }, { accessFlags := 9, nameIndex := 30, descriptorIndex := 31, attributes := #[] }] 49 2 #[] #[])
  fields := #[]
  methods := #[k1m0, k1m1]
  instanceTypes := #[]
  staticTypes := #[]
  resolved := Array.replicate 35 none
  statics := none }

def pool2 : Array CpInfo := pool [(1, .methodref 2 3), (0, .class_ 4), (0, .nameAndType 5 6), (0, u "java/lang/Object"), (0, u "<init>"), (0, u "()V"), (0, .class_ 8), (0, u "java/lang/Record")] 13

def k2c0 : Code := { maxStack := 1, maxLocals := 1, code := jdk_30_method_1_code, exceptionTable := #[], attributes := #[] }
def k2m0 : Method := { name := "<init>", desc := "()V", sig := { parameters := [], returnType := none }, accessFlags := 4, code := some k2c0 }
/-- java/lang/Record -/
def k2 : Class := { plain "java/lang/Record" (some 0) with
  accessFlags := 1057
  interfaces := #[]
  cf := some (fileOf pool2 7 #[] #[{ accessFlags := 4, nameIndex := 5, descriptorIndex := 6, attributes := #[] }] 1057 2 #[] #[])
  fields := #[]
  methods := #[k2m0]
  instanceTypes := #[]
  staticTypes := #[]
  resolved := Array.replicate 22 none
  statics := none }

def pool3 : Array CpInfo := pool [(1, .methodref 2 3), (0, .class_ 4), (0, .nameAndType 5 6), (0, u "java/lang/Record"), (0, u "<init>"), (0, u "()V"), (0, .fieldref 8 9), (0, .class_ 10), (0, .nameAndType 11 12), (0, u "com/example/moirai/moirai/partitions/PartitionUsage"), (0, u "items"), (0, u "J"), (0, .fieldref 8 14), (0, .nameAndType 15 12), (0, u "logicalPartitions"), (0, .fieldref 8 17), (0, .nameAndType 18 12), (0, u "bytes"), (0, .methodref 8 20), (0, .nameAndType 5 21), (0, u "(JJJ)V"), (14, u "NONE"), (0, u "Lcom/example/moirai/moirai/partitions/PartitionUsage;"), (4, u "(Lcom/example/moirai/moirai/partitions/PartitionUsage;)Lcom/example/moirai/moirai/partitions/PartitionUsage;"), (0, u "minus"), (3, u "()J")] 23

def k3c0 : Code := { maxStack := 3, maxLocals := 7, code := prog_17_method_1_code, exceptionTable := #[], attributes := #[] }
def k3m0 : Method := { name := "<init>", desc := "(JJJ)V", sig := { parameters := [.long, .long, .long], returnType := none }, accessFlags := 1, code := some k3c0 }
def k3c1 : Code := { maxStack := 10, maxLocals := 2, code := prog_17_method_3_code, exceptionTable := #[], attributes := #[] }
def k3m1 : Method := { name := "minus", desc := "(Lcom/example/moirai/moirai/partitions/PartitionUsage;)Lcom/example/moirai/moirai/partitions/PartitionUsage;", sig := { parameters := [(.object "com/example/moirai/moirai/partitions/PartitionUsage")], returnType := some (.object "com/example/moirai/moirai/partitions/PartitionUsage") }, accessFlags := 1, code := some k3c1 }
def k3c2 : Code := { maxStack := 2, maxLocals := 1, code := prog_17_method_7_code, exceptionTable := #[], attributes := #[] }
def k3m2 : Method := { name := "items", desc := "()J", sig := { parameters := [], returnType := some .long }, accessFlags := 1, code := some k3c2 }
def k3c3 : Code := { maxStack := 2, maxLocals := 1, code := prog_17_method_8_code, exceptionTable := #[], attributes := #[] }
def k3m3 : Method := { name := "logicalPartitions", desc := "()J", sig := { parameters := [], returnType := some .long }, accessFlags := 1, code := some k3c3 }
def k3c4 : Code := { maxStack := 2, maxLocals := 1, code := prog_17_method_9_code, exceptionTable := #[], attributes := #[] }
def k3m4 : Method := { name := "bytes", desc := "()J", sig := { parameters := [], returnType := some .long }, accessFlags := 1, code := some k3c4 }
/-- com/example/moirai/moirai/partitions/PartitionUsage -/
def k3 : Class := { plain "com/example/moirai/moirai/partitions/PartitionUsage" (some 2) with
  accessFlags := 49
  interfaces := #[]
  cf := some (fileOf pool3 8 #[] #[{ accessFlags := 1, nameIndex := 5, descriptorIndex := 21, attributes := #[] }, { accessFlags := 1, nameIndex := 43, descriptorIndex := 42, attributes := #[] }, { accessFlags := 1, nameIndex := 11, descriptorIndex := 47, attributes := #[] }, { accessFlags := 1, nameIndex := 15, descriptorIndex := 47, attributes := #[] }, { accessFlags := 1, nameIndex := 18, descriptorIndex := 47, attributes := #[] }] 49 2 #[] #[{ accessFlags := 18, nameIndex := 11, descriptorIndex := 12, attributes := #[] }, { accessFlags := 18, nameIndex := 15, descriptorIndex := 12, attributes := #[] }, { accessFlags := 18, nameIndex := 18, descriptorIndex := 12, attributes := #[] }, { accessFlags := 25, nameIndex := 36, descriptorIndex := 37, attributes := #[] }])
  fields := #[{ name := "items", type := .long, accessFlags := 18, slot := 0, constantValue := 0 }, { name := "logicalPartitions", type := .long, accessFlags := 18, slot := 1, constantValue := 0 }, { name := "bytes", type := .long, accessFlags := 18, slot := 2, constantValue := 0 }, { name := "NONE", type := (.object "com/example/moirai/moirai/partitions/PartitionUsage"), accessFlags := 25, slot := 0, constantValue := 0 }]
  methods := #[k3m0, k3m1, k3m2, k3m3, k3m4]
  instanceTypes := #[.long, .long, .long]
  staticTypes := #[(.object "com/example/moirai/moirai/partitions/PartitionUsage")]
  resolved := Array.replicate 71 none
  statics := none }

def pool4 : Array CpInfo := pool [(1, u "java/lang/Cloneable"), (0, .class_ 1), (0, u "java/lang/Object"), (0, .class_ 3)] 3

/-- java/lang/Cloneable -/
def k4 : Class := { plain "java/lang/Cloneable" (some 0) with
  accessFlags := 1537
  interfaces := #[]
  cf := some (fileOf pool4 2 #[] #[] 1537 4 #[] #[])
  fields := #[]
  methods := #[]
  instanceTypes := #[]
  staticTypes := #[]
  resolved := Array.replicate 8 none
  statics := none }

def pool5 : Array CpInfo := pool [(1, u "java/io/Serializable"), (0, .class_ 1), (0, u "java/lang/Object"), (0, .class_ 3)] 3

/-- java/io/Serializable -/
def k5 : Class := { plain "java/io/Serializable" (some 0) with
  accessFlags := 1537
  interfaces := #[]
  cf := some (fileOf pool5 2 #[] #[] 1537 4 #[] #[])
  fields := #[]
  methods := #[]
  instanceTypes := #[]
  staticTypes := #[]
  resolved := Array.replicate 8 none
  statics := none }

/-- the primitive byte -/
def k6 : Class := { plain "byte" none with kind := .primitive 'B', accessFlags := 0x411 }
/-- [B -/
def k7 : Class := { plain "[B" (some 0) with kind := .array 6 .byte, interfaces := #[4, 5], accessFlags := 1041 }

/-- the primitive int -/
def k8 : Class := { plain "int" none with kind := .primitive 'I', accessFlags := 0x411 }
/-- [I -/
def k9 : Class := { plain "[I" (some 0) with kind := .array 8 .int, interfaces := #[4, 5], accessFlags := 1041 }

def heap : Heap := #[]
def classes : Array Class := #[k0, k1, k2, k3, k4, k5, k6, k7, k8, k9]
def interned : List (Array UInt16 × Addr) := []
def slotsUsed : Nat := 0
def theMethod : MethodId := ⟨1, 1⟩
def args0 : Array Value := #[.long 0, .long 1, .long 2, .long 3, .long 4, .long 5]
def aboutOver (below : List Frame) : State where
  vm := { classes := classes, interned := interned.toArray }
  heap := heap
  slotsUsed := slotsUsed
  threads := #[{ frames := .invoking theMethod args0 :: below }]
def below0 : List Frame := [.native { method := ⟨0, 0⟩, args := #[] }]
def about1 : State := aboutOver below0
def p0 : Program := .bare "" "" ""
def e0 : Env := launch0.env 0 0 0
theorem w_frames : about1.frames = Frame.invoking theMethod args0 :: below0 := rfl
set_option maxRecDepth 65536 in
theorem w_args : argsFit about1.vm theMethod args0 = true := by decide +kernel
set_option maxRecDepth 65536 in
theorem w_heap : heapFits about1 = true := by decide +kernel
set_option maxRecDepth 65536 in
theorem w_runnable : about1.curStatus? = some .runnable := by decide +kernel
set_option maxRecDepth 65536 in
theorem w_alone : about1.alone = true := by decide +kernel
set_option maxRecDepth 65536 in
theorem w_named : about1.methodNamed? x = some theMethod := by decide +kernel
set_option maxRecDepth 65536 in
theorem w_hears : about1.hears theMethod below0 = true := by decide +kernel
set_option maxRecDepth 65536 in
theorem w_ripe : about1.ripe theMethod args0 below0 = true := by decide +kernel
theorem w_running : about1.status = .running := rfl
set_option maxRecDepth 65536 in
theorem w_room : about1.hasRoom e0.platform room_1 = true :=
  launch0.hasRoom_least _ room_1 (by decide +kernel) (by decide +kernel) (by decide +kernel) (by decide +kernel) (by decide +kernel) (by decide +kernel)
theorem allAtoms_all (ts : List Jvm.Cond) (a : Array Jvm.Value) (st : Jvm.State) : (allAtoms ts).before a st = ts.all (fun c => c.before a st) := by
  induction ts with
  | nil => rfl
  | cons c t ih =>
    show (Jvm.Cond.and c (allAtoms t)).before a st = _
    rw [Jvm.Cond.before_and, ih, List.all_cons]
def words1 : List Jvm.Cond := Jvm.Cond.code x code maxLocals ret :: tables_1
/-- a 'code' word, met by the world's own term for the bytes: nothing is compared byte by byte -/
theorem code_word {y : MethodName} {bytes : ByteArray} {mx : Nat} {rt : Option FieldType} {a : Array Value} {s : State} {m : MethodId} {meth : Method} {c : Code} (h1 : s.methodNamed? y = some m) (h2 : s.vm.method? m = some meth) (h3 : meth.code = some c) (h4 : c.code = bytes)
    (h5 : (c.maxLocals == mx && c.exceptionTable.isEmpty && decide (c.maxStack ≤ mostOperands) && decide (meth.sig.returnType = rt) && !meth.locks && decide (parseMethodDescriptor y.desc = some meth.sig)) = true) : (Jvm.Cond.code y bytes mx rt).before a s = true := by
  simp only [Bool.and_eq_true, beq_iff_eq, Bool.not_eq_true', decide_eq_true_eq] at h5
  obtain ⟨⟨⟨⟨⟨g1, g2⟩, g3⟩, g4⟩, g5⟩, g6⟩ := h5
  simp [Cond.before, Cond.holds, Cond.value, h1, h2, h3, h4, g1, g2, g3, g4, g5, g6]
def isCode : Jvm.Cond → Bool
  | .code _ _ _ _ => true
  | _ => false
theorem all_split {L : List Jvm.Cond} {P : Jvm.Cond → Bool} (h1 : L.all (fun c => isCode c || P c) = true) (h2 : ∀ c ∈ L.filter isCode, P c = true) : L.all P = true := by
  refine List.all_eq_true.mpr fun c hc => ?_
  have h := List.all_eq_true.mp h1 c hc
  rcases Bool.eq_false_or_eq_true (isCode c) with hi | hi
  · exact h2 c (List.mem_filter.mpr ⟨hc, hi⟩)
  · simpa [hi] using h
set_option maxRecDepth 65536 in
theorem w_c0 : (Jvm.Cond.code x code maxLocals ret).before args0 about1 = true := code_word (m := ⟨1, 1⟩) (meth := k1m1) (c := k1c1) (by decide +kernel) rfl rfl rfl (by decide +kernel)
set_option maxRecDepth 65536 in
theorem w_c1 : (Jvm.Cond.code ({ cls := "com/example/moirai/moirai/partitions/PartitionUsage", name := "<init>", desc := "(JJJ)V" } : Jvm.MethodName) prog_17_method_1_code (7 : Nat) (Option.none : Option Jvm.ClassFile.FieldType)).before args0 about1 = true := code_word (m := ⟨3, 0⟩) (meth := k3m0) (c := k3c0) (by decide +kernel) rfl rfl rfl (by decide +kernel)
set_option maxRecDepth 65536 in
theorem w_c2 : (Jvm.Cond.code ({ cls := "java/lang/Record", name := "<init>", desc := "()V" } : Jvm.MethodName) jdk_30_method_1_code (1 : Nat) (Option.none : Option Jvm.ClassFile.FieldType)).before args0 about1 = true := code_word (m := ⟨2, 0⟩) (meth := k2m0) (c := k2c0) (by decide +kernel) rfl rfl rfl (by decide +kernel)
set_option maxRecDepth 65536 in
theorem w_c3 : (Jvm.Cond.code ({ cls := "java/lang/Object", name := "<init>", desc := "()V" } : Jvm.MethodName) object_method_1_code (1 : Nat) (Option.none : Option Jvm.ClassFile.FieldType)).before args0 about1 = true := code_word (m := ⟨0, 0⟩) (meth := k0m0) (c := k0c0) (by decide +kernel) rfl rfl rfl (by decide +kernel)
set_option maxRecDepth 65536 in
theorem w_c4 : (Jvm.Cond.code ({ cls := "com/example/moirai/moirai/partitions/PartitionUsage", name := "minus", desc := "(Lcom/example/moirai/moirai/partitions/PartitionUsage;)Lcom/example/moirai/moirai/partitions/PartitionUsage;" } : Jvm.MethodName) prog_17_method_3_code (2 : Nat) (Option.some (Jvm.ClassFile.FieldType.object "com/example/moirai/moirai/partitions/PartitionUsage"))).before args0 about1 = true := code_word (m := ⟨3, 1⟩) (meth := k3m1) (c := k3c1) (by decide +kernel) rfl rfl rfl (by decide +kernel)
set_option maxRecDepth 65536 in
theorem w_c5 : (Jvm.Cond.code ({ cls := "com/example/moirai/moirai/partitions/PartitionUsage", name := "items", desc := "()J" } : Jvm.MethodName) prog_17_method_7_code (1 : Nat) (Option.some Jvm.ClassFile.FieldType.long)).before args0 about1 = true := code_word (m := ⟨3, 2⟩) (meth := k3m2) (c := k3c2) (by decide +kernel) rfl rfl rfl (by decide +kernel)
set_option maxRecDepth 65536 in
theorem w_c6 : (Jvm.Cond.code ({ cls := "com/example/moirai/moirai/partitions/PartitionUsage", name := "logicalPartitions", desc := "()J" } : Jvm.MethodName) prog_17_method_8_code (1 : Nat) (Option.some Jvm.ClassFile.FieldType.long)).before args0 about1 = true := code_word (m := ⟨3, 3⟩) (meth := k3m3) (c := k3c3) (by decide +kernel) rfl rfl rfl (by decide +kernel)
set_option maxRecDepth 65536 in
theorem w_c7 : (Jvm.Cond.code ({ cls := "com/example/moirai/moirai/partitions/PartitionUsage", name := "bytes", desc := "()J" } : Jvm.MethodName) prog_17_method_9_code (1 : Nat) (Option.some Jvm.ClassFile.FieldType.long)).before args0 about1 = true := code_word (m := ⟨3, 4⟩) (meth := k3m4) (c := k3c4) (by decide +kernel) rfl rfl rfl (by decide +kernel)
def codes1 : List Jvm.Cond := [Jvm.Cond.code x code maxLocals ret, Jvm.Cond.code ({ cls := "com/example/moirai/moirai/partitions/PartitionUsage", name := "<init>", desc := "(JJJ)V" } : Jvm.MethodName) prog_17_method_1_code (7 : Nat) (Option.none : Option Jvm.ClassFile.FieldType), Jvm.Cond.code ({ cls := "java/lang/Record", name := "<init>", desc := "()V" } : Jvm.MethodName) jdk_30_method_1_code (1 : Nat) (Option.none : Option Jvm.ClassFile.FieldType), Jvm.Cond.code ({ cls := "java/lang/Object", name := "<init>", desc := "()V" } : Jvm.MethodName) object_method_1_code (1 : Nat) (Option.none : Option Jvm.ClassFile.FieldType), Jvm.Cond.code ({ cls := "com/example/moirai/moirai/partitions/PartitionUsage", name := "minus", desc := "(Lcom/example/moirai/moirai/partitions/PartitionUsage;)Lcom/example/moirai/moirai/partitions/PartitionUsage;" } : Jvm.MethodName) prog_17_method_3_code (2 : Nat) (Option.some (Jvm.ClassFile.FieldType.object "com/example/moirai/moirai/partitions/PartitionUsage")), Jvm.Cond.code ({ cls := "com/example/moirai/moirai/partitions/PartitionUsage", name := "items", desc := "()J" } : Jvm.MethodName) prog_17_method_7_code (1 : Nat) (Option.some Jvm.ClassFile.FieldType.long), Jvm.Cond.code ({ cls := "com/example/moirai/moirai/partitions/PartitionUsage", name := "logicalPartitions", desc := "()J" } : Jvm.MethodName) prog_17_method_8_code (1 : Nat) (Option.some Jvm.ClassFile.FieldType.long), Jvm.Cond.code ({ cls := "com/example/moirai/moirai/partitions/PartitionUsage", name := "bytes", desc := "()J" } : Jvm.MethodName) prog_17_method_9_code (1 : Nat) (Option.some Jvm.ClassFile.FieldType.long)]
set_option maxRecDepth 65536 in
theorem codes_eq : words1.filter isCode = codes1 := rfl
theorem w_codes : ∀ c ∈ words1.filter isCode, c.before args0 about1 = true := by
  rw [codes_eq]
  intro c hc
  simp only [codes1, List.mem_cons, List.not_mem_nil, or_false] at hc
  rcases hc with rfl | rfl | rfl | rfl | rfl | rfl | rfl | rfl
  · exact w_c0
  · exact w_c1
  · exact w_c2
  · exact w_c3
  · exact w_c4
  · exact w_c5
  · exact w_c6
  · exact w_c7
set_option maxRecDepth 65536 in
theorem w_t1 : (words1.take 24).all (fun c => isCode c || c.before args0 about1) = true := by decide +kernel
set_option maxRecDepth 65536 in
theorem w_t2 : (words1.drop 24).all (fun c => isCode c || c.before args0 about1) = true := by decide +kernel
theorem w_tables : (allAtoms (Jvm.Cond.code x code maxLocals ret :: tables_1)).before args0 about1 = true := by
  rw [allAtoms_all]
  show words1.all (fun c => c.before args0 about1) = true
  refine all_split ?_ w_codes
  rw [← List.take_append_drop 24 words1, List.all_append, w_t1, w_t2]
  rfl
set_option maxRecDepth 65536 in
theorem w_case : (Jvm.Cond.and given_1 narrow_1).before args0 about1 = true := by decide +kernel
theorem w_applies : (headSpec (Jvm.Cond.code x code maxLocals ret :: tables_1) room_1).applies x e0.platform about1 = true :=
  (Spec.applies_iff w_frames).mpr ⟨w_running, w_runnable, w_alone, w_named, w_hears, w_ripe, w_room, w_tables⟩
theorem atStart : AtStart classFile x code maxLocals ret World_1 tables_1 room_1 Calls_1 rest_1 Pre_1 launch0 p0 e0 about1 theMethod args0 below0 :=
  ⟨lists_1, trivial, launch0.admits_env _ _ _, launch0.least_env, fairChoices_fair.cas, fairChoices_fair.clock, w_frames, w_args, w_heap, w_applies, trivial, trivial, w_case⟩
end start1
theorem witness_1 : WitnessClaimed_1 := ⟨start1.p0, start1.e0, start1.about1, start1.theMethod, start1.args0, start1.below0, start1.atStart⟩
end Jvm.Pilot.@@N@@
