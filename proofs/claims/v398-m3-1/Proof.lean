import JvmDerived
import JvmDerived.Pilot.@@N@@Statement
import JvmDerived.Pilot.@@N@@Code
set_option linter.unusedVariables false
set_option linter.unusedSimpArgs false
namespace Jvm.Pilot.@@N@@
open Jvm Jvm.ClassFile Sem Op Lib Jvm.Free Jvm.Stand Jvm.LawKit Jvm.RoadKit Bundle Jvm.Pilot.@@N@@.Jvm.D
section Own
variable {p : Program} {l : Launch} {e : Env} {R : Room} {s : State} {m : MethodId} {args : Array Value} {below : List Frame} {meth : Method} {c : Code} {Z : State} {a0 : Array Value} {n0 : Nat} {Q : Option Value → Heap → Prop} {Kf : State → Outcome → Prop} {h : Heap} {k q : Nat} {own nm : String} {bytes : ByteArray} {maxL : Nat} {ret : Option FieldType} {pc pc' pc1 pc2 : Nat} {Ls Ls' : Array Slot} {rest : List Value}
/-- how a run of the body ends: it returns, nothing old is written, and Q holds of what is returned and of the heap -/
def own_K (below : List Frame) (R : Room) (s : State) (n0 : Nat) (Q : Option Value → Heap → Prop) (t : State) (o : Outcome) : Prop :=
  t.status = .running ∧ Ended t below o ∧ ∃ v L, o = .returned v ∧ (Fr n0 L ∧ Q v t.heap) ∧ FrameEnd s o t L R.cells R.slots
/-- from the frame g, with the heap h, k cells and q slots made so far: the run ends as own_K says -/
def own_Run (p : Program) (l : Launch) (e : Env) (R : Room) (s : State) (m : MethodId) (args : Array Value) (below : List Frame) (meth : Method) (c : Code) (n0 : Nat) (Kf : State → Outcome → Prop) (h : Heap) (k q : Nat) (g : JFrame) : Prop :=
  ∀ (T : State) (locs : List Loc), Stand p l e R s m args below meth c T locs k q → T.heap = h → Fr n0 locs → ∃ t o, Steps p.tables e below (T.setTop g) t ∧ Kf t o
/-- what stands fast through a body -/
def own_Ctx (p : Program) (s : State) (m : MethodId) (meth : Method) (c : Code) (Z : State) (own nm : String) (bytes : ByteArray) (maxL : Nat) (ret : Option FieldType) : Prop :=
  p.tables.exec = Jvm.exec ∧ Z.Warmed39 s.vm ∧ s.vm.findClass own = some m.cls ∧ c.code = bytes ∧ c.maxLocals = maxL ∧ meth.sig.returnType = ret ∧ meth.locks = false ∧ meth.name = nm
theorem own_Ctx.g_x (C : own_Ctx p s m meth c Z own nm bytes maxL ret) : p.tables.exec = Jvm.exec := C.1
theorem own_Ctx.g_z (C : own_Ctx p s m meth c Z own nm bytes maxL ret) : Z.Warmed39 s.vm := C.2.1
theorem own_Ctx.g_own (C : own_Ctx p s m meth c Z own nm bytes maxL ret) : s.vm.findClass own = some m.cls := C.2.2.1
theorem own_Ctx.g_by (C : own_Ctx p s m meth c Z own nm bytes maxL ret) : c.code = bytes := C.2.2.2.1
theorem own_Ctx.g_ml (C : own_Ctx p s m meth c Z own nm bytes maxL ret) : c.maxLocals = maxL := C.2.2.2.2.1
theorem own_Ctx.g_rt (C : own_Ctx p s m meth c Z own nm bytes maxL ret) : meth.sig.returnType = ret := C.2.2.2.2.2.1
theorem own_Ctx.g_lk (C : own_Ctx p s m meth c Z own nm bytes maxL ret) : meth.locks = false := C.2.2.2.2.2.2.1
theorem own_Ctx.g_nm (C : own_Ctx p s m meth c Z own nm bytes maxL ret) : meth.name = nm := C.2.2.2.2.2.2.2
/-- a method's contract: called with these arguments at the heap h, it returns as Q says -/
def own_Met (l : Launch) (Z : State) (n0 : Nat) (y : MethodName) (bytes : ByteArray) (maxL : Nat) (ret : Option FieldType) (rm : Room) (ws : List Jvm.Cond) (as' : Array Value) (h : Heap) (Q : Option Value → Heap → Prop) : Prop :=
  MetFree l y (head1 (Jvm.Cond.code y bytes maxL ret :: ws) rm) (fun a U => a = as' ∧ Z.Warmed39 U.vm ∧ U.heap = h) (fun _ _ _ _ _ => True) (fun _ U o U' => ∃ v L, o = .returned v ∧ (Fr n0 L ∧ Q v U'.heap) ∧ FrameEnd U o U' L rm.cells rm.slots)
theorem own_met {y : MethodName} {rm : Room} {ws : List Jvm.Cond} {as' : Array Value} (hn : plainName y.cls = true) (Ls : Array Slot) (hef : ∀ m : MethodId, entryFrame m as' maxL = mkF m 0 Ls [])
    (body : ∀ (p : Program) (e : Env) (s : State) (m : MethodId) (below : List Frame) (meth : Method) (c : Code), own_Ctx p s m meth c Z y.cls y.name bytes maxL ret → own_Run p l e rm s m as' below meth c n0 (own_K below rm s n0 Q) h 0 0 (mkF m 0 Ls [])) :
    own_Met l Z n0 y bytes maxL ret rm ws as' h Q := by
  refine MetFree.of_bodySF (plainFor_of_name hn) hisR ?_
  intro p e s m args below meth c s₁ Bd hml0 hP hK
  obtain ⟨rfl, hZ, hh⟩ := hP
  have C : own_Ctx p s m meth c Z y.cls y.name bytes maxL ret := ⟨Bd.exec, hZ, findClass_of_methodNamed Bd.named, Bd.bytes, hml0, Bd.returns, BodyLoose.notSynchronized Bd, (name_of_methodNamed Bd.named Bd.method).1⟩
  obtain ⟨t, o, h1, h2, h3, h4⟩ := body p e s m below meth c C s₁ [] (Stand.of_body Bd) (by rw [← hh, Bd.state]; rfl) (Fr.nil n0)
  exact ⟨t, o, castTop (hef m) h1, h2, h3, h4⟩
theorem own_st {g g' : JFrame} (h1 : ∀ (T : State) (locs : List Loc), Stand p l e R s m args below meth c T locs k q → T.heap = h → ∀ target, Steps p.tables e below (T.setTop g') target → Steps p.tables e below (T.setTop g) target) (r : own_Run p l e R s m args below meth c n0 Kf h k q g') : own_Run p l e R s m args below meth c n0 Kf h k q g := fun T locs X eT N => by
  obtain ⟨t, o, h2, h3⟩ := r T locs X eT N
  exact ⟨t, o, h1 T locs X eT t h2, h3⟩
theorem own_more {k' q' : Nat} {g : JFrame} (hk : k ≤ k') (hq : q ≤ q') (r : own_Run p l e R s m args below meth c n0 Kf h k' q' g) : own_Run p l e R s m args below meth c n0 Kf h k q g := fun T locs X eT N => r T locs (X.more hk hq) eT N
theorem own_iloadN (C : own_Ctx p s m meth c Z own nm bytes maxL ret) {i : Fin 4} {v : Int32} (hd : decode bytes pc = .ok (.iload_n i, 1)) (hp : pc + 1 = pc') (hl : Ls[i.val]? = some (.val (.int v))) (r : own_Run p l e R s m args below meth c n0 Kf h k q (mkF m pc' Ls (.int v :: rest))) : own_Run p l e R s m args below meth c n0 Kf h k q (mkF m pc Ls (rest)) :=
  own_st (fun T locs X eT t kk => by subst hp; exact Jvm.Free.XS.iloadN X.here C.g_x rfl (hb C.g_by hd) hl kk) r
theorem own_iload (C : own_Ctx p s m meth c Z own nm bytes maxL ret) {i : Nat} {v : Int32} (hd : decode bytes pc = .ok (.iload i, 2)) (hp : pc + 2 = pc') (hl : Ls[i]? = some (.val (.int v))) (r : own_Run p l e R s m args below meth c n0 Kf h k q (mkF m pc' Ls (.int v :: rest))) : own_Run p l e R s m args below meth c n0 Kf h k q (mkF m pc Ls (rest)) :=
  own_st (fun T locs X eT t kk => by subst hp; exact Jvm.Free.XS.iload X.here C.g_x rfl (hb C.g_by hd) hl kk) r
theorem own_lloadN (C : own_Ctx p s m meth c Z own nm bytes maxL ret) {i : Fin 4} {v : Int64} (hd : decode bytes pc = .ok (.lload_n i, 1)) (hp : pc + 1 = pc') (hl : Ls[i.val]? = some (.val (.long v))) (r : own_Run p l e R s m args below meth c n0 Kf h k q (mkF m pc' Ls (.long v :: rest))) : own_Run p l e R s m args below meth c n0 Kf h k q (mkF m pc Ls (rest)) :=
  own_st (fun T locs X eT t kk => by subst hp; exact Jvm.Free.XT.lloadN X.here C.g_x rfl (hb C.g_by hd) hl kk) r
theorem own_lload (C : own_Ctx p s m meth c Z own nm bytes maxL ret) {i : Nat} {v : Int64} (hd : decode bytes pc = .ok (.lload i, 2)) (hp : pc + 2 = pc') (hl : Ls[i]? = some (.val (.long v))) (r : own_Run p l e R s m args below meth c n0 Kf h k q (mkF m pc' Ls (.long v :: rest))) : own_Run p l e R s m args below meth c n0 Kf h k q (mkF m pc Ls (rest)) :=
  own_st (fun T locs X eT t kk => by subst hp; exact Jvm.Free.XT.lload X.here C.g_x rfl (hb C.g_by hd) hl kk) r
theorem own_aloadN (C : own_Ctx p s m meth c Z own nm bytes maxL ret) {i : Fin 4} {v : Value} (hd : decode bytes pc = .ok (.aload_n i, 1)) (hp : pc + 1 = pc') (hl : Ls[i.val]? = some (.val v)) (hv : v.isRef = true) (r : own_Run p l e R s m args below meth c n0 Kf h k q (mkF m pc' Ls (v :: rest))) : own_Run p l e R s m args below meth c n0 Kf h k q (mkF m pc Ls (rest)) :=
  own_st (fun T locs X eT t kk => by subst hp; exact Jvm.Free.XS.aloadN X.here C.g_x rfl (hb C.g_by hd) hl hv kk) r
theorem own_aload (C : own_Ctx p s m meth c Z own nm bytes maxL ret) {i : Nat} {v : Value} (hd : decode bytes pc = .ok (.aload i, 2)) (hp : pc + 2 = pc') (hl : Ls[i]? = some (.val v)) (hv : v.isRef = true) (r : own_Run p l e R s m args below meth c n0 Kf h k q (mkF m pc' Ls (v :: rest))) : own_Run p l e R s m args below meth c n0 Kf h k q (mkF m pc Ls (rest)) :=
  own_st (fun T locs X eT t kk => by subst hp; exact Jvm.Free.XS.aload X.here C.g_x rfl (hb C.g_by hd) hl hv kk) r
theorem own_istoreN (C : own_Ctx p s m meth c Z own nm bytes maxL ret) {i : Fin 4} {v : Int32} (hd : decode bytes pc = .ok (.istore_n i, 1)) (hp : pc + 1 = pc') (hl : storeLocals Ls i.val (.int v) = some Ls') (r : own_Run p l e R s m args below meth c n0 Kf h k q (mkF m pc' Ls' (rest))) : own_Run p l e R s m args below meth c n0 Kf h k q (mkF m pc Ls (.int v :: rest)) :=
  own_st (fun T locs X eT t kk => by subst hp; exact Jvm.Free.XS.istoreN X.here C.g_x rfl (hb C.g_by hd) rfl hl kk) r
theorem own_istore (C : own_Ctx p s m meth c Z own nm bytes maxL ret) {i : Nat} {v : Int32} (hd : decode bytes pc = .ok (.istore i, 2)) (hp : pc + 2 = pc') (hl : storeLocals Ls i (.int v) = some Ls') (r : own_Run p l e R s m args below meth c n0 Kf h k q (mkF m pc' Ls' (rest))) : own_Run p l e R s m args below meth c n0 Kf h k q (mkF m pc Ls (.int v :: rest)) :=
  own_st (fun T locs X eT t kk => by subst hp; exact Jvm.Free.XS.istore X.here C.g_x rfl (hb C.g_by hd) rfl hl kk) r
theorem own_lstoreN (C : own_Ctx p s m meth c Z own nm bytes maxL ret) {i : Fin 4} {v : Int64} (hd : decode bytes pc = .ok (.lstore_n i, 1)) (hp : pc + 1 = pc') (hl : storeLocals Ls i.val (.long v) = some Ls') (r : own_Run p l e R s m args below meth c n0 Kf h k q (mkF m pc' Ls' (rest))) : own_Run p l e R s m args below meth c n0 Kf h k q (mkF m pc Ls (.long v :: rest)) :=
  own_st (fun T locs X eT t kk => by subst hp; exact Jvm.Free.XT.lstoreN X.here C.g_x rfl (hb C.g_by hd) rfl hl kk) r
theorem own_lstore (C : own_Ctx p s m meth c Z own nm bytes maxL ret) {i : Nat} {v : Int64} (hd : decode bytes pc = .ok (.lstore i, 2)) (hp : pc + 2 = pc') (hl : storeLocals Ls i (.long v) = some Ls') (r : own_Run p l e R s m args below meth c n0 Kf h k q (mkF m pc' Ls' (rest))) : own_Run p l e R s m args below meth c n0 Kf h k q (mkF m pc Ls (.long v :: rest)) :=
  own_st (fun T locs X eT t kk => by subst hp; exact Jvm.Free.XT.lstore X.here C.g_x rfl (hb C.g_by hd) rfl hl kk) r
theorem own_astoreN (C : own_Ctx p s m meth c Z own nm bytes maxL ret) {i : Fin 4} {v : Value} (hd : decode bytes pc = .ok (.astore_n i, 1)) (hp : pc + 1 = pc') (hv : v.isRef = true) (hl : storeLocals Ls i.val v = some Ls') (r : own_Run p l e R s m args below meth c n0 Kf h k q (mkF m pc' Ls' (rest))) : own_Run p l e R s m args below meth c n0 Kf h k q (mkF m pc Ls (v :: rest)) :=
  own_st (fun T locs X eT t kk => by subst hp; exact Jvm.Free.XS.astoreN X.here C.g_x rfl (hb C.g_by hd) rfl hv hl kk) r
theorem own_astore (C : own_Ctx p s m meth c Z own nm bytes maxL ret) {i : Nat} {v : Value} (hd : decode bytes pc = .ok (.astore i, 2)) (hp : pc + 2 = pc') (hv : v.isRef = true) (hl : storeLocals Ls i v = some Ls') (r : own_Run p l e R s m args below meth c n0 Kf h k q (mkF m pc' Ls' (rest))) : own_Run p l e R s m args below meth c n0 Kf h k q (mkF m pc Ls (v :: rest)) :=
  own_st (fun T locs X eT t kk => by subst hp; exact Jvm.Free.XS.astore X.here C.g_x rfl (hb C.g_by hd) rfl hv hl kk) r
theorem own_iinc (C : own_Ctx p s m meth c Z own nm bytes maxL ret) {i : Nat} {cst : Int} {v w : Int32} (hd : decode bytes pc = .ok (.iinc i cst, 3)) (hp : pc + 3 = pc') (hv : Int32.ofInt cst = w) (hl : Ls[i]? = some (.val (.int v))) (hl' : storeLocals Ls i (.int (v + w)) = some Ls') (r : own_Run p l e R s m args below meth c n0 Kf h k q (mkF m pc' Ls' (rest))) : own_Run p l e R s m args below meth c n0 Kf h k q (mkF m pc Ls (rest)) :=
  own_st (fun T locs X eT t kk => by subst hp; exact Jvm.Free.XT.iincV X.here C.g_x rfl w (hb C.g_by hd) hv hl hl' kk) r
theorem own_iincV (C : own_Ctx p s m meth c Z own nm bytes maxL ret) {i : Nat} {cst : Int} {v w x : Int32} (hd : decode bytes pc = .ok (.iinc i cst, 3)) (hp : pc + 3 = pc') (hv : Int32.ofInt cst = w) (hs : v + w = x) (hl : Ls[i]? = some (.val (.int v))) (hl' : storeLocals Ls i (.int x) = some Ls') (r : own_Run p l e R s m args below meth c n0 Kf h k q (mkF m pc' Ls' (rest))) : own_Run p l e R s m args below meth c n0 Kf h k q (mkF m pc Ls (rest)) :=
  own_st (fun T locs X eT t kk => by subst hp; exact Jvm.Free.XT.iincV X.here C.g_x rfl w (hb C.g_by hd) hv hl (by rw [hs]; exact hl') kk) r
theorem own_iconst (C : own_Ctx p s m meth c Z own nm bytes maxL ret) {i : Int} {v : Int32} (hd : decode bytes pc = .ok (.iconst i, 1)) (hp : pc + 1 = pc') (hv : Int32.ofInt i = v) (r : own_Run p l e R s m args below meth c n0 Kf h k q (mkF m pc' Ls (.int v :: rest))) : own_Run p l e R s m args below meth c n0 Kf h k q (mkF m pc Ls (rest)) :=
  own_st (fun T locs X eT t kk => by subst hp; exact Jvm.Free.XT.iconstV X.here C.g_x rfl v (hb C.g_by hd) hv kk) r
theorem own_bipush (C : own_Ctx p s m meth c Z own nm bytes maxL ret) {i : Int} {v : Int32} (hd : decode bytes pc = .ok (.bipush i, 2)) (hp : pc + 2 = pc') (hv : (Int8.ofInt i).toInt32 = v) (r : own_Run p l e R s m args below meth c n0 Kf h k q (mkF m pc' Ls (.int v :: rest))) : own_Run p l e R s m args below meth c n0 Kf h k q (mkF m pc Ls (rest)) :=
  own_st (fun T locs X eT t kk => by subst hp; exact Jvm.Free.XT.bipushV X.here C.g_x rfl v (hb C.g_by hd) hv kk) r
theorem own_sipush (C : own_Ctx p s m meth c Z own nm bytes maxL ret) {i : Int} {v : Int32} (hd : decode bytes pc = .ok (.sipush i, 3)) (hp : pc + 3 = pc') (hv : (Int16.ofInt i).toInt32 = v) (r : own_Run p l e R s m args below meth c n0 Kf h k q (mkF m pc' Ls (.int v :: rest))) : own_Run p l e R s m args below meth c n0 Kf h k q (mkF m pc Ls (rest)) :=
  own_st (fun T locs X eT t kk => by subst hp; exact Jvm.Free.XT.sipushV X.here C.g_x rfl v (hb C.g_by hd) hv kk) r
theorem own_lconst (C : own_Ctx p s m meth c Z own nm bytes maxL ret) {i : Fin 2} {v : Int64} (hd : decode bytes pc = .ok (.lconst i, 1)) (hp : pc + 1 = pc') (hv : Int64.ofNat i = v) (r : own_Run p l e R s m args below meth c n0 Kf h k q (mkF m pc' Ls (.long v :: rest))) : own_Run p l e R s m args below meth c n0 Kf h k q (mkF m pc Ls (rest)) :=
  own_st (fun T locs X eT t kk => by subst hp; exact Jvm.Free.XT.lconstV X.here C.g_x rfl v (hb C.g_by hd) hv kk) r
theorem own_aconst (C : own_Ctx p s m meth c Z own nm bytes maxL ret)  (hd : decode bytes pc = .ok (.aconst_null, 1)) (hp : pc + 1 = pc')  (r : own_Run p l e R s m args below meth c n0 Kf h k q (mkF m pc' Ls (.null :: rest))) : own_Run p l e R s m args below meth c n0 Kf h k q (mkF m pc Ls (rest)) :=
  own_st (fun T locs X eT t kk => by subst hp; exact Jvm.Free.XS.aconstNull X.here C.g_x rfl (hb C.g_by hd) kk) r
theorem own_ldc (C : own_Ctx p s m meth c Z own nm bytes maxL ret) {i : Nat} {v : Int32} (hd : decode bytes pc = .ok (.ldc i, 2)) (hp : pc + 2 = pc') (hc : (Jvm.Cond.constant own i v).before a0 Z = true) (r : own_Run p l e R s m args below meth c n0 Kf h k q (mkF m pc' Ls (.int v :: rest))) : own_Run p l e R s m args below meth c n0 Kf h k q (mkF m pc Ls (rest)) :=
  own_st (fun T locs X eT t kk => by subst hp; exact X.ldcI C.g_x C.g_own (mvT C.g_z hc) rfl (hb C.g_by hd) kk) r
theorem own_ldc2 (C : own_Ctx p s m meth c Z own nm bytes maxL ret) {i : Nat} {v : Int64} (hd : decode bytes pc = .ok (.ldc2_w i, 3)) (hp : pc + 3 = pc') (hc : (Jvm.Cond.constantLong own i v).before a0 Z = true) (r : own_Run p l e R s m args below meth c n0 Kf h k q (mkF m pc' Ls (.long v :: rest))) : own_Run p l e R s m args below meth c n0 Kf h k q (mkF m pc Ls (rest)) :=
  own_st (fun T locs X eT t kk => by subst hp; exact X.ldc2J C.g_x C.g_own (mvT C.g_z hc) rfl (hb C.g_by hd) kk) r
theorem own_dup (C : own_Ctx p s m meth c Z own nm bytes maxL ret) {v : Value} (hd : decode bytes pc = .ok (.dup, 1)) (hp : pc + 1 = pc') (hc : v.category = 1) (r : own_Run p l e R s m args below meth c n0 Kf h k q (mkF m pc' Ls (v :: v :: rest))) : own_Run p l e R s m args below meth c n0 Kf h k q (mkF m pc Ls (v :: rest)) :=
  own_st (fun T locs X eT t kk => by subst hp; exact Jvm.Free.XS.dup X.here C.g_x rfl (hb C.g_by hd) rfl hc kk) r
theorem own_pop (C : own_Ctx p s m meth c Z own nm bytes maxL ret) {v : Value} (hd : decode bytes pc = .ok (.pop, 1)) (hp : pc + 1 = pc') (hc : v.category = 1) (r : own_Run p l e R s m args below meth c n0 Kf h k q (mkF m pc' Ls (rest))) : own_Run p l e R s m args below meth c n0 Kf h k q (mkF m pc Ls (v :: rest)) :=
  own_st (fun T locs X eT t kk => by subst hp; exact Jvm.Free.XT.pop X.here C.g_x rfl (hb C.g_by hd) rfl hc kk) r
theorem own_dupX1 (C : own_Ctx p s m meth c Z own nm bytes maxL ret) {v w : Value} (hd : decode bytes pc = .ok (.dup_x1, 1)) (hp : pc + 1 = pc') (hc : v.category = 1) (hc' : w.category = 1) (r : own_Run p l e R s m args below meth c n0 Kf h k q (mkF m pc' Ls (v :: w :: v :: rest))) : own_Run p l e R s m args below meth c n0 Kf h k q (mkF m pc Ls (v :: w :: rest)) :=
  own_st (fun T locs X eT t kk => by subst hp; exact Jvm.Free.XT.dupX1 X.here C.g_x rfl (hb C.g_by hd) rfl hc hc' kk) r
theorem own_dup2 (C : own_Ctx p s m meth c Z own nm bytes maxL ret) {v w : Value} (hd : decode bytes pc = .ok (.dup2, 1)) (hp : pc + 1 = pc') (hc : v.category = 1) (hc' : w.category = 1) (r : own_Run p l e R s m args below meth c n0 Kf h k q (mkF m pc' Ls (v :: w :: v :: w :: rest))) : own_Run p l e R s m args below meth c n0 Kf h k q (mkF m pc Ls (v :: w :: rest)) :=
  own_st (fun T locs X eT t kk => by subst hp; exact Jvm.Free.XT.dup2 X.here C.g_x rfl (hb C.g_by hd) rfl hc hc' kk) r
theorem own_iadd (C : own_Ctx p s m meth c Z own nm bytes maxL ret) {x y : Int32} (hd : decode bytes pc = .ok (.iadd, 1)) (hp : pc + 1 = pc')  (r : own_Run p l e R s m args below meth c n0 Kf h k q (mkF m pc' Ls (.int (x + y) :: rest))) : own_Run p l e R s m args below meth c n0 Kf h k q (mkF m pc Ls (.int y :: .int x :: rest)) :=
  own_st (fun T locs X eT t kk => by subst hp; exact Jvm.Free.XS.iadd X.here C.g_x rfl (hb C.g_by hd) rfl kk) r
theorem own_isub (C : own_Ctx p s m meth c Z own nm bytes maxL ret) {x y : Int32} (hd : decode bytes pc = .ok (.isub, 1)) (hp : pc + 1 = pc')  (r : own_Run p l e R s m args below meth c n0 Kf h k q (mkF m pc' Ls (.int (x - y) :: rest))) : own_Run p l e R s m args below meth c n0 Kf h k q (mkF m pc Ls (.int y :: .int x :: rest)) :=
  own_st (fun T locs X eT t kk => by subst hp; exact Jvm.Free.XS.isub X.here C.g_x rfl (hb C.g_by hd) rfl kk) r
theorem own_iand (C : own_Ctx p s m meth c Z own nm bytes maxL ret) {x y : Int32} (hd : decode bytes pc = .ok (.iand, 1)) (hp : pc + 1 = pc')  (r : own_Run p l e R s m args below meth c n0 Kf h k q (mkF m pc' Ls (.int (x &&& y) :: rest))) : own_Run p l e R s m args below meth c n0 Kf h k q (mkF m pc Ls (.int y :: .int x :: rest)) :=
  own_st (fun T locs X eT t kk => by subst hp; exact Jvm.Free.XS.iand X.here C.g_x rfl (hb C.g_by hd) rfl kk) r
theorem own_imul (C : own_Ctx p s m meth c Z own nm bytes maxL ret) {x y : Int32} (hd : decode bytes pc = .ok (.imul, 1)) (hp : pc + 1 = pc')  (r : own_Run p l e R s m args below meth c n0 Kf h k q (mkF m pc' Ls (.int (x * y) :: rest))) : own_Run p l e R s m args below meth c n0 Kf h k q (mkF m pc Ls (.int y :: .int x :: rest)) :=
  own_st (fun T locs X eT t kk => by subst hp; exact Jvm.Free.XS.imul X.here C.g_x rfl (hb C.g_by hd) rfl kk) r
theorem own_ior (C : own_Ctx p s m meth c Z own nm bytes maxL ret) {x y : Int32} (hd : decode bytes pc = .ok (.ior, 1)) (hp : pc + 1 = pc')  (r : own_Run p l e R s m args below meth c n0 Kf h k q (mkF m pc' Ls (.int (x ||| y) :: rest))) : own_Run p l e R s m args below meth c n0 Kf h k q (mkF m pc Ls (.int y :: .int x :: rest)) :=
  own_st (fun T locs X eT t kk => by subst hp; exact Jvm.Free.XT.ior X.here C.g_x rfl (hb C.g_by hd) rfl kk) r
theorem own_ixor (C : own_Ctx p s m meth c Z own nm bytes maxL ret) {x y : Int32} (hd : decode bytes pc = .ok (.ixor, 1)) (hp : pc + 1 = pc')  (r : own_Run p l e R s m args below meth c n0 Kf h k q (mkF m pc' Ls (.int (x ^^^ y) :: rest))) : own_Run p l e R s m args below meth c n0 Kf h k q (mkF m pc Ls (.int y :: .int x :: rest)) :=
  own_st (fun T locs X eT t kk => by subst hp; exact Jvm.Free.XT.ixor X.here C.g_x rfl (hb C.g_by hd) rfl kk) r
theorem own_ishl (C : own_Ctx p s m meth c Z own nm bytes maxL ret) {x y : Int32} (hd : decode bytes pc = .ok (.ishl, 1)) (hp : pc + 1 = pc')  (r : own_Run p l e R s m args below meth c n0 Kf h k q (mkF m pc' Ls (.int (x <<< (y &&& 31)) :: rest))) : own_Run p l e R s m args below meth c n0 Kf h k q (mkF m pc Ls (.int y :: .int x :: rest)) :=
  own_st (fun T locs X eT t kk => by subst hp; exact Jvm.Free.XT.ishl X.here C.g_x rfl (hb C.g_by hd) rfl kk) r
theorem own_ishr (C : own_Ctx p s m meth c Z own nm bytes maxL ret) {x y : Int32} (hd : decode bytes pc = .ok (.ishr, 1)) (hp : pc + 1 = pc')  (r : own_Run p l e R s m args below meth c n0 Kf h k q (mkF m pc' Ls (.int (x >>> (y &&& 31)) :: rest))) : own_Run p l e R s m args below meth c n0 Kf h k q (mkF m pc Ls (.int y :: .int x :: rest)) :=
  own_st (fun T locs X eT t kk => by subst hp; exact Jvm.Free.XT.ishr X.here C.g_x rfl (hb C.g_by hd) rfl kk) r
theorem own_iushr (C : own_Ctx p s m meth c Z own nm bytes maxL ret) {x y : Int32} (hd : decode bytes pc = .ok (.iushr, 1)) (hp : pc + 1 = pc')  (r : own_Run p l e R s m args below meth c n0 Kf h k q (mkF m pc' Ls (.int (Jvm.Free.XT.ushr x y) :: rest))) : own_Run p l e R s m args below meth c n0 Kf h k q (mkF m pc Ls (.int y :: .int x :: rest)) :=
  own_st (fun T locs X eT t kk => by subst hp; exact Jvm.Free.XT.iushr X.here C.g_x rfl (hb C.g_by hd) rfl kk) r
theorem own_irem (C : own_Ctx p s m meth c Z own nm bytes maxL ret) {x y : Int32} (hd : decode bytes pc = .ok (.irem, 1)) (hp : pc + 1 = pc') (hy : y ≠ 0) (r : own_Run p l e R s m args below meth c n0 Kf h k q (mkF m pc' Ls (.int (x % y) :: rest))) : own_Run p l e R s m args below meth c n0 Kf h k q (mkF m pc Ls (.int y :: .int x :: rest)) :=
  own_st (fun T locs X eT t kk => by subst hp; exact iremM X C.g_x rfl (hb C.g_by hd) rfl hy kk) r
theorem own_idivV (C : own_Ctx p s m meth c Z own nm bytes maxL ret) {x y v : Int32} (hd : decode bytes pc = .ok (.idiv, 1)) (hp : pc + 1 = pc') (hy : y ≠ 0) (hv : x / y = v) (r : own_Run p l e R s m args below meth c n0 Kf h k q (mkF m pc' Ls (.int v :: rest))) : own_Run p l e R s m args below meth c n0 Kf h k q (mkF m pc Ls (.int y :: .int x :: rest)) :=
  own_st (fun T locs X eT t kk => by subst hp; exact Jvm.Free.XS.idiv X.here C.g_x rfl (hb C.g_by hd) rfl hy (by rw [hv]; exact kk)) r
theorem own_ineg (C : own_Ctx p s m meth c Z own nm bytes maxL ret) {x : Int32} (hd : decode bytes pc = .ok (.ineg, 1)) (hp : pc + 1 = pc')  (r : own_Run p l e R s m args below meth c n0 Kf h k q (mkF m pc' Ls (.int (-x) :: rest))) : own_Run p l e R s m args below meth c n0 Kf h k q (mkF m pc Ls (.int x :: rest)) :=
  own_st (fun T locs X eT t kk => by subst hp; exact Jvm.Free.XS.ineg X.here C.g_x rfl (hb C.g_by hd) rfl kk) r
theorem own_ladd (C : own_Ctx p s m meth c Z own nm bytes maxL ret) {x y : Int64} (hd : decode bytes pc = .ok (.ladd, 1)) (hp : pc + 1 = pc')  (r : own_Run p l e R s m args below meth c n0 Kf h k q (mkF m pc' Ls (.long (x + y) :: rest))) : own_Run p l e R s m args below meth c n0 Kf h k q (mkF m pc Ls (.long y :: .long x :: rest)) :=
  own_st (fun T locs X eT t kk => by subst hp; exact Jvm.Free.XT.ladd X.here C.g_x rfl (hb C.g_by hd) rfl kk) r
theorem own_lsub (C : own_Ctx p s m meth c Z own nm bytes maxL ret) {x y : Int64} (hd : decode bytes pc = .ok (.lsub, 1)) (hp : pc + 1 = pc')  (r : own_Run p l e R s m args below meth c n0 Kf h k q (mkF m pc' Ls (.long (x - y) :: rest))) : own_Run p l e R s m args below meth c n0 Kf h k q (mkF m pc Ls (.long y :: .long x :: rest)) :=
  own_st (fun T locs X eT t kk => by subst hp; exact Jvm.Free.XT.lsub X.here C.g_x rfl (hb C.g_by hd) rfl kk) r
theorem own_land (C : own_Ctx p s m meth c Z own nm bytes maxL ret) {x y : Int64} (hd : decode bytes pc = .ok (.land, 1)) (hp : pc + 1 = pc')  (r : own_Run p l e R s m args below meth c n0 Kf h k q (mkF m pc' Ls (.long (x &&& y) :: rest))) : own_Run p l e R s m args below meth c n0 Kf h k q (mkF m pc Ls (.long y :: .long x :: rest)) :=
  own_st (fun T locs X eT t kk => by subst hp; exact Jvm.Free.XT.land X.here C.g_x rfl (hb C.g_by hd) rfl kk) r
theorem own_lor (C : own_Ctx p s m meth c Z own nm bytes maxL ret) {x y : Int64} (hd : decode bytes pc = .ok (.lor, 1)) (hp : pc + 1 = pc')  (r : own_Run p l e R s m args below meth c n0 Kf h k q (mkF m pc' Ls (.long (x ||| y) :: rest))) : own_Run p l e R s m args below meth c n0 Kf h k q (mkF m pc Ls (.long y :: .long x :: rest)) :=
  own_st (fun T locs X eT t kk => by subst hp; exact Jvm.Free.XT.lor X.here C.g_x rfl (hb C.g_by hd) rfl kk) r
theorem own_lxor (C : own_Ctx p s m meth c Z own nm bytes maxL ret) {x y : Int64} (hd : decode bytes pc = .ok (.lxor, 1)) (hp : pc + 1 = pc')  (r : own_Run p l e R s m args below meth c n0 Kf h k q (mkF m pc' Ls (.long (x ^^^ y) :: rest))) : own_Run p l e R s m args below meth c n0 Kf h k q (mkF m pc Ls (.long y :: .long x :: rest)) :=
  own_st (fun T locs X eT t kk => by subst hp; exact Jvm.Free.XT.lxor X.here C.g_x rfl (hb C.g_by hd) rfl kk) r
theorem own_lmul (C : own_Ctx p s m meth c Z own nm bytes maxL ret) {x y : Int64} (hd : decode bytes pc = .ok (.lmul, 1)) (hp : pc + 1 = pc')  (r : own_Run p l e R s m args below meth c n0 Kf h k q (mkF m pc' Ls (.long (x * y) :: rest))) : own_Run p l e R s m args below meth c n0 Kf h k q (mkF m pc Ls (.long y :: .long x :: rest)) :=
  own_st (fun T locs X eT t kk => by subst hp; exact Jvm.Free.XT.lmul X.here C.g_x rfl (hb C.g_by hd) rfl kk) r
theorem own_lcmp (C : own_Ctx p s m meth c Z own nm bytes maxL ret) {x y : Int64} (hd : decode bytes pc = .ok (.lcmp, 1)) (hp : pc + 1 = pc')  (r : own_Run p l e R s m args below meth c n0 Kf h k q (mkF m pc' Ls (.int (Jvm.Free.XT.cmpL x y) :: rest))) : own_Run p l e R s m args below meth c n0 Kf h k q (mkF m pc Ls (.long y :: .long x :: rest)) :=
  own_st (fun T locs X eT t kk => by subst hp; exact Jvm.Free.XT.lcmp X.here C.g_x rfl (hb C.g_by hd) rfl kk) r
theorem own_lshl (C : own_Ctx p s m meth c Z own nm bytes maxL ret) {x : Int64} {y : Int32} (hd : decode bytes pc = .ok (.lshl, 1)) (hp : pc + 1 = pc')  (r : own_Run p l e R s m args below meth c n0 Kf h k q (mkF m pc' Ls (.long (x <<< (y.toInt64 &&& 63)) :: rest))) : own_Run p l e R s m args below meth c n0 Kf h k q (mkF m pc Ls (.int y :: .long x :: rest)) :=
  own_st (fun T locs X eT t kk => by subst hp; exact Jvm.Free.XT.lshl X.here C.g_x rfl (hb C.g_by hd) rfl kk) r
theorem own_i2l (C : own_Ctx p s m meth c Z own nm bytes maxL ret) {x : Int32} (hd : decode bytes pc = .ok (.i2l, 1)) (hp : pc + 1 = pc')  (r : own_Run p l e R s m args below meth c n0 Kf h k q (mkF m pc' Ls (.long (x.toInt64) :: rest))) : own_Run p l e R s m args below meth c n0 Kf h k q (mkF m pc Ls (.int x :: rest)) :=
  own_st (fun T locs X eT t kk => by subst hp; exact Jvm.Free.XT.i2l X.here C.g_x rfl (hb C.g_by hd) rfl kk) r
theorem own_l2i (C : own_Ctx p s m meth c Z own nm bytes maxL ret) {x : Int64} (hd : decode bytes pc = .ok (.l2i, 1)) (hp : pc + 1 = pc')  (r : own_Run p l e R s m args below meth c n0 Kf h k q (mkF m pc' Ls (.int (x.toInt32) :: rest))) : own_Run p l e R s m args below meth c n0 Kf h k q (mkF m pc Ls (.long x :: rest)) :=
  own_st (fun T locs X eT t kk => by subst hp; exact Jvm.Free.XT.l2i X.here C.g_x rfl (hb C.g_by hd) rfl kk) r
theorem own_i2b (C : own_Ctx p s m meth c Z own nm bytes maxL ret) {x : Int32} (hd : decode bytes pc = .ok (.i2b, 1)) (hp : pc + 1 = pc')  (r : own_Run p l e R s m args below meth c n0 Kf h k q (mkF m pc' Ls (.int (x.toInt8.toInt32) :: rest))) : own_Run p l e R s m args below meth c n0 Kf h k q (mkF m pc Ls (.int x :: rest)) :=
  own_st (fun T locs X eT t kk => by subst hp; exact Jvm.Free.XT.i2b X.here C.g_x rfl (hb C.g_by hd) rfl kk) r
theorem own_i2c (C : own_Ctx p s m meth c Z own nm bytes maxL ret) {x : Int32} (hd : decode bytes pc = .ok (.i2c, 1)) (hp : pc + 1 = pc')  (r : own_Run p l e R s m args below meth c n0 Kf h k q (mkF m pc' Ls (.int (x.toUInt32.toUInt16.toUInt32.toInt32) :: rest))) : own_Run p l e R s m args below meth c n0 Kf h k q (mkF m pc Ls (.int x :: rest)) :=
  own_st (fun T locs X eT t kk => by subst hp; exact Jvm.Free.XT.i2c X.here C.g_x rfl (hb C.g_by hd) rfl kk) r
theorem own_iaddV (C : own_Ctx p s m meth c Z own nm bytes maxL ret) {x y v : Int32} (hd : decode bytes pc = .ok (.iadd, 1)) (hp : pc + 1 = pc') (hv : x + y = v) (r : own_Run p l e R s m args below meth c n0 Kf h k q (mkF m pc' Ls (.int v :: rest))) : own_Run p l e R s m args below meth c n0 Kf h k q (mkF m pc Ls (.int y :: .int x :: rest)) :=
  own_st (fun T locs X eT t kk => by subst hp; exact Jvm.Free.XS.iadd X.here C.g_x rfl (hb C.g_by hd) rfl (by rw [hv]; exact kk)) r
theorem own_isubV (C : own_Ctx p s m meth c Z own nm bytes maxL ret) {x y v : Int32} (hd : decode bytes pc = .ok (.isub, 1)) (hp : pc + 1 = pc') (hv : x - y = v) (r : own_Run p l e R s m args below meth c n0 Kf h k q (mkF m pc' Ls (.int v :: rest))) : own_Run p l e R s m args below meth c n0 Kf h k q (mkF m pc Ls (.int y :: .int x :: rest)) :=
  own_st (fun T locs X eT t kk => by subst hp; exact Jvm.Free.XS.isub X.here C.g_x rfl (hb C.g_by hd) rfl (by rw [hv]; exact kk)) r
theorem own_imulV (C : own_Ctx p s m meth c Z own nm bytes maxL ret) {x y v : Int32} (hd : decode bytes pc = .ok (.imul, 1)) (hp : pc + 1 = pc') (hv : x * y = v) (r : own_Run p l e R s m args below meth c n0 Kf h k q (mkF m pc' Ls (.int v :: rest))) : own_Run p l e R s m args below meth c n0 Kf h k q (mkF m pc Ls (.int y :: .int x :: rest)) :=
  own_st (fun T locs X eT t kk => by subst hp; exact Jvm.Free.XS.imul X.here C.g_x rfl (hb C.g_by hd) rfl (by rw [hv]; exact kk)) r
theorem own_iandV (C : own_Ctx p s m meth c Z own nm bytes maxL ret) {x y v : Int32} (hd : decode bytes pc = .ok (.iand, 1)) (hp : pc + 1 = pc') (hv : x &&& y = v) (r : own_Run p l e R s m args below meth c n0 Kf h k q (mkF m pc' Ls (.int v :: rest))) : own_Run p l e R s m args below meth c n0 Kf h k q (mkF m pc Ls (.int y :: .int x :: rest)) :=
  own_st (fun T locs X eT t kk => by subst hp; exact Jvm.Free.XS.iand X.here C.g_x rfl (hb C.g_by hd) rfl (by rw [hv]; exact kk)) r
theorem own_goto (C : own_Ctx p s m meth c Z own nm bytes maxL ret) {o : Int} {st : List Value} (hd : decode bytes pc = .ok (.goto o, 3)) (ho : (pc : Int) + o = (pc' : Int)) (r : own_Run p l e R s m args below meth c n0 Kf h k q (mkF m pc' Ls st)) : own_Run p l e R s m args below meth c n0 Kf h k q (mkF m pc Ls st) :=
  own_st (fun T locs X eT t kk => Jvm.Free.XS.goto X.here C.g_x rfl (pc0 := pc) (pc' := pc') rfl (hb C.g_by hd) (by omega) (by omega) kk) r
theorem own_ii_eq (C : own_Ctx p s m meth c Z own nm bytes maxL ret) {o : Int} {x y : Int32} (hd : decode bytes pc = .ok (.if_icmp .eq o, 3)) (ho : (pc : Int) + o = (pc1 : Int)) (hp : pc + 3 = pc2) (r1 : x = y → own_Run p l e R s m args below meth c n0 Kf h k q (mkF m pc1 Ls rest)) (r2 : ¬ x = y → own_Run p l e R s m args below meth c n0 Kf h k q (mkF m pc2 Ls rest)) : own_Run p l e R s m args below meth c n0 Kf h k q (mkF m pc Ls (.int y :: .int x :: rest)) := by
  by_cases hc : x = y
  · exact own_st (fun T locs X eT t kk => Jvm.Free.XS.icmpYes X.here C.g_x rfl (pc0 := pc) (pc' := pc1) rfl (hb C.g_by hd) rfl (Jvm.Free.XT.ii_eq_t hc) (by omega) (by omega) kk) (r1 hc)
  · subst hp; exact own_st (fun T locs X eT t kk => Jvm.Free.XS.icmpNo X.here C.g_x rfl (hb C.g_by hd) rfl (Jvm.Free.XT.ii_eq_f hc) kk) (r2 hc)
theorem own_i0_eq (C : own_Ctx p s m meth c Z own nm bytes maxL ret) {o : Int} {x : Int32} (hd : decode bytes pc = .ok (.ifCond .eq o, 3)) (ho : (pc : Int) + o = (pc1 : Int)) (hp : pc + 3 = pc2) (r1 : x = 0 → own_Run p l e R s m args below meth c n0 Kf h k q (mkF m pc1 Ls rest)) (r2 : ¬ x = 0 → own_Run p l e R s m args below meth c n0 Kf h k q (mkF m pc2 Ls rest)) : own_Run p l e R s m args below meth c n0 Kf h k q (mkF m pc Ls (.int x :: rest)) := by
  by_cases hc : x = 0
  · exact own_st (fun T locs X eT t kk => Jvm.Free.XS.ifYes X.here C.g_x rfl (pc0 := pc) (pc' := pc1) rfl (hb C.g_by hd) rfl (Jvm.Free.XT.i0_eq_t hc) (by omega) (by omega) kk) (r1 hc)
  · subst hp; exact own_st (fun T locs X eT t kk => Jvm.Free.XS.ifNo X.here C.g_x rfl (hb C.g_by hd) rfl (Jvm.Free.XT.i0_eq_f hc) kk) (r2 hc)
theorem own_ll_eq (C : own_Ctx p s m meth c Z own nm bytes maxL ret) {o : Int} {x y : Int64} (hd : decode bytes pc = .ok (.ifCond .eq o, 3)) (ho : (pc : Int) + o = (pc1 : Int)) (hp : pc + 3 = pc2) (r1 : x = y → own_Run p l e R s m args below meth c n0 Kf h k q (mkF m pc1 Ls rest)) (r2 : ¬ x = y → own_Run p l e R s m args below meth c n0 Kf h k q (mkF m pc2 Ls rest)) : own_Run p l e R s m args below meth c n0 Kf h k q (mkF m pc Ls (.int (Jvm.Free.XT.cmpL x y) :: rest)) := by
  by_cases hc : x = y
  · exact own_st (fun T locs X eT t kk => Jvm.Free.XS.ifYes X.here C.g_x rfl (pc0 := pc) (pc' := pc1) rfl (hb C.g_by hd) rfl (Jvm.Free.XT.ll_eq_t hc) (by omega) (by omega) kk) (r1 hc)
  · subst hp; exact own_st (fun T locs X eT t kk => Jvm.Free.XS.ifNo X.here C.g_x rfl (hb C.g_by hd) rfl (Jvm.Free.XT.ll_eq_f hc) kk) (r2 hc)
theorem own_ii_ne (C : own_Ctx p s m meth c Z own nm bytes maxL ret) {o : Int} {x y : Int32} (hd : decode bytes pc = .ok (.if_icmp .ne o, 3)) (ho : (pc : Int) + o = (pc1 : Int)) (hp : pc + 3 = pc2) (r1 : ¬ x = y → own_Run p l e R s m args below meth c n0 Kf h k q (mkF m pc1 Ls rest)) (r2 : x = y → own_Run p l e R s m args below meth c n0 Kf h k q (mkF m pc2 Ls rest)) : own_Run p l e R s m args below meth c n0 Kf h k q (mkF m pc Ls (.int y :: .int x :: rest)) := by
  by_cases hc : x = y
  · subst hp; exact own_st (fun T locs X eT t kk => Jvm.Free.XS.icmpNo X.here C.g_x rfl (hb C.g_by hd) rfl (Jvm.Free.XT.ii_ne_f hc) kk) (r2 hc)
  · exact own_st (fun T locs X eT t kk => Jvm.Free.XS.icmpYes X.here C.g_x rfl (pc0 := pc) (pc' := pc1) rfl (hb C.g_by hd) rfl (Jvm.Free.XT.ii_ne_t hc) (by omega) (by omega) kk) (r1 hc)
theorem own_i0_ne (C : own_Ctx p s m meth c Z own nm bytes maxL ret) {o : Int} {x : Int32} (hd : decode bytes pc = .ok (.ifCond .ne o, 3)) (ho : (pc : Int) + o = (pc1 : Int)) (hp : pc + 3 = pc2) (r1 : ¬ x = 0 → own_Run p l e R s m args below meth c n0 Kf h k q (mkF m pc1 Ls rest)) (r2 : x = 0 → own_Run p l e R s m args below meth c n0 Kf h k q (mkF m pc2 Ls rest)) : own_Run p l e R s m args below meth c n0 Kf h k q (mkF m pc Ls (.int x :: rest)) := by
  by_cases hc : x = 0
  · subst hp; exact own_st (fun T locs X eT t kk => Jvm.Free.XS.ifNo X.here C.g_x rfl (hb C.g_by hd) rfl (Jvm.Free.XT.i0_ne_f hc) kk) (r2 hc)
  · exact own_st (fun T locs X eT t kk => Jvm.Free.XS.ifYes X.here C.g_x rfl (pc0 := pc) (pc' := pc1) rfl (hb C.g_by hd) rfl (Jvm.Free.XT.i0_ne_t hc) (by omega) (by omega) kk) (r1 hc)
theorem own_ll_ne (C : own_Ctx p s m meth c Z own nm bytes maxL ret) {o : Int} {x y : Int64} (hd : decode bytes pc = .ok (.ifCond .ne o, 3)) (ho : (pc : Int) + o = (pc1 : Int)) (hp : pc + 3 = pc2) (r1 : ¬ x = y → own_Run p l e R s m args below meth c n0 Kf h k q (mkF m pc1 Ls rest)) (r2 : x = y → own_Run p l e R s m args below meth c n0 Kf h k q (mkF m pc2 Ls rest)) : own_Run p l e R s m args below meth c n0 Kf h k q (mkF m pc Ls (.int (Jvm.Free.XT.cmpL x y) :: rest)) := by
  by_cases hc : x = y
  · subst hp; exact own_st (fun T locs X eT t kk => Jvm.Free.XS.ifNo X.here C.g_x rfl (hb C.g_by hd) rfl (Jvm.Free.XT.ll_ne_f hc) kk) (r2 hc)
  · exact own_st (fun T locs X eT t kk => Jvm.Free.XS.ifYes X.here C.g_x rfl (pc0 := pc) (pc' := pc1) rfl (hb C.g_by hd) rfl (Jvm.Free.XT.ll_ne_t hc) (by omega) (by omega) kk) (r1 hc)
theorem own_ii_lt (C : own_Ctx p s m meth c Z own nm bytes maxL ret) {o : Int} {x y : Int32} (hd : decode bytes pc = .ok (.if_icmp .lt o, 3)) (ho : (pc : Int) + o = (pc1 : Int)) (hp : pc + 3 = pc2) (r1 : x < y → own_Run p l e R s m args below meth c n0 Kf h k q (mkF m pc1 Ls rest)) (r2 : ¬ x < y → own_Run p l e R s m args below meth c n0 Kf h k q (mkF m pc2 Ls rest)) : own_Run p l e R s m args below meth c n0 Kf h k q (mkF m pc Ls (.int y :: .int x :: rest)) := by
  by_cases hc : x < y
  · exact own_st (fun T locs X eT t kk => Jvm.Free.XS.icmpYes X.here C.g_x rfl (pc0 := pc) (pc' := pc1) rfl (hb C.g_by hd) rfl (Jvm.Free.XT.ii_lt_t hc) (by omega) (by omega) kk) (r1 hc)
  · subst hp; exact own_st (fun T locs X eT t kk => Jvm.Free.XS.icmpNo X.here C.g_x rfl (hb C.g_by hd) rfl (Jvm.Free.XT.ii_lt_f hc) kk) (r2 hc)
theorem own_i0_lt (C : own_Ctx p s m meth c Z own nm bytes maxL ret) {o : Int} {x : Int32} (hd : decode bytes pc = .ok (.ifCond .lt o, 3)) (ho : (pc : Int) + o = (pc1 : Int)) (hp : pc + 3 = pc2) (r1 : x < 0 → own_Run p l e R s m args below meth c n0 Kf h k q (mkF m pc1 Ls rest)) (r2 : ¬ x < 0 → own_Run p l e R s m args below meth c n0 Kf h k q (mkF m pc2 Ls rest)) : own_Run p l e R s m args below meth c n0 Kf h k q (mkF m pc Ls (.int x :: rest)) := by
  by_cases hc : x < 0
  · exact own_st (fun T locs X eT t kk => Jvm.Free.XS.ifYes X.here C.g_x rfl (pc0 := pc) (pc' := pc1) rfl (hb C.g_by hd) rfl (Jvm.Free.XT.i0_lt_t hc) (by omega) (by omega) kk) (r1 hc)
  · subst hp; exact own_st (fun T locs X eT t kk => Jvm.Free.XS.ifNo X.here C.g_x rfl (hb C.g_by hd) rfl (Jvm.Free.XT.i0_lt_f hc) kk) (r2 hc)
theorem own_ll_lt (C : own_Ctx p s m meth c Z own nm bytes maxL ret) {o : Int} {x y : Int64} (hd : decode bytes pc = .ok (.ifCond .lt o, 3)) (ho : (pc : Int) + o = (pc1 : Int)) (hp : pc + 3 = pc2) (r1 : x < y → own_Run p l e R s m args below meth c n0 Kf h k q (mkF m pc1 Ls rest)) (r2 : ¬ x < y → own_Run p l e R s m args below meth c n0 Kf h k q (mkF m pc2 Ls rest)) : own_Run p l e R s m args below meth c n0 Kf h k q (mkF m pc Ls (.int (Jvm.Free.XT.cmpL x y) :: rest)) := by
  by_cases hc : x < y
  · exact own_st (fun T locs X eT t kk => Jvm.Free.XS.ifYes X.here C.g_x rfl (pc0 := pc) (pc' := pc1) rfl (hb C.g_by hd) rfl (Jvm.Free.XT.ll_lt_t hc) (by omega) (by omega) kk) (r1 hc)
  · subst hp; exact own_st (fun T locs X eT t kk => Jvm.Free.XS.ifNo X.here C.g_x rfl (hb C.g_by hd) rfl (Jvm.Free.XT.ll_lt_f hc) kk) (r2 hc)
theorem own_ii_ge (C : own_Ctx p s m meth c Z own nm bytes maxL ret) {o : Int} {x y : Int32} (hd : decode bytes pc = .ok (.if_icmp .ge o, 3)) (ho : (pc : Int) + o = (pc1 : Int)) (hp : pc + 3 = pc2) (r1 : ¬ x < y → own_Run p l e R s m args below meth c n0 Kf h k q (mkF m pc1 Ls rest)) (r2 : x < y → own_Run p l e R s m args below meth c n0 Kf h k q (mkF m pc2 Ls rest)) : own_Run p l e R s m args below meth c n0 Kf h k q (mkF m pc Ls (.int y :: .int x :: rest)) := by
  by_cases hc : x < y
  · subst hp; exact own_st (fun T locs X eT t kk => Jvm.Free.XS.icmpNo X.here C.g_x rfl (hb C.g_by hd) rfl (Jvm.Free.XT.ii_ge_f hc) kk) (r2 hc)
  · exact own_st (fun T locs X eT t kk => Jvm.Free.XS.icmpYes X.here C.g_x rfl (pc0 := pc) (pc' := pc1) rfl (hb C.g_by hd) rfl (Jvm.Free.XT.ii_ge_t hc) (by omega) (by omega) kk) (r1 hc)
theorem own_i0_ge (C : own_Ctx p s m meth c Z own nm bytes maxL ret) {o : Int} {x : Int32} (hd : decode bytes pc = .ok (.ifCond .ge o, 3)) (ho : (pc : Int) + o = (pc1 : Int)) (hp : pc + 3 = pc2) (r1 : ¬ x < 0 → own_Run p l e R s m args below meth c n0 Kf h k q (mkF m pc1 Ls rest)) (r2 : x < 0 → own_Run p l e R s m args below meth c n0 Kf h k q (mkF m pc2 Ls rest)) : own_Run p l e R s m args below meth c n0 Kf h k q (mkF m pc Ls (.int x :: rest)) := by
  by_cases hc : x < 0
  · subst hp; exact own_st (fun T locs X eT t kk => Jvm.Free.XS.ifNo X.here C.g_x rfl (hb C.g_by hd) rfl (Jvm.Free.XT.i0_ge_f hc) kk) (r2 hc)
  · exact own_st (fun T locs X eT t kk => Jvm.Free.XS.ifYes X.here C.g_x rfl (pc0 := pc) (pc' := pc1) rfl (hb C.g_by hd) rfl (Jvm.Free.XT.i0_ge_t hc) (by omega) (by omega) kk) (r1 hc)
theorem own_ll_ge (C : own_Ctx p s m meth c Z own nm bytes maxL ret) {o : Int} {x y : Int64} (hd : decode bytes pc = .ok (.ifCond .ge o, 3)) (ho : (pc : Int) + o = (pc1 : Int)) (hp : pc + 3 = pc2) (r1 : ¬ x < y → own_Run p l e R s m args below meth c n0 Kf h k q (mkF m pc1 Ls rest)) (r2 : x < y → own_Run p l e R s m args below meth c n0 Kf h k q (mkF m pc2 Ls rest)) : own_Run p l e R s m args below meth c n0 Kf h k q (mkF m pc Ls (.int (Jvm.Free.XT.cmpL x y) :: rest)) := by
  by_cases hc : x < y
  · subst hp; exact own_st (fun T locs X eT t kk => Jvm.Free.XS.ifNo X.here C.g_x rfl (hb C.g_by hd) rfl (Jvm.Free.XT.ll_ge_f hc) kk) (r2 hc)
  · exact own_st (fun T locs X eT t kk => Jvm.Free.XS.ifYes X.here C.g_x rfl (pc0 := pc) (pc' := pc1) rfl (hb C.g_by hd) rfl (Jvm.Free.XT.ll_ge_t hc) (by omega) (by omega) kk) (r1 hc)
theorem own_ii_gt (C : own_Ctx p s m meth c Z own nm bytes maxL ret) {o : Int} {x y : Int32} (hd : decode bytes pc = .ok (.if_icmp .gt o, 3)) (ho : (pc : Int) + o = (pc1 : Int)) (hp : pc + 3 = pc2) (r1 : y < x → own_Run p l e R s m args below meth c n0 Kf h k q (mkF m pc1 Ls rest)) (r2 : ¬ y < x → own_Run p l e R s m args below meth c n0 Kf h k q (mkF m pc2 Ls rest)) : own_Run p l e R s m args below meth c n0 Kf h k q (mkF m pc Ls (.int y :: .int x :: rest)) := by
  by_cases hc : y < x
  · exact own_st (fun T locs X eT t kk => Jvm.Free.XS.icmpYes X.here C.g_x rfl (pc0 := pc) (pc' := pc1) rfl (hb C.g_by hd) rfl (Jvm.Free.XT.ii_gt_t hc) (by omega) (by omega) kk) (r1 hc)
  · subst hp; exact own_st (fun T locs X eT t kk => Jvm.Free.XS.icmpNo X.here C.g_x rfl (hb C.g_by hd) rfl (Jvm.Free.XT.ii_gt_f hc) kk) (r2 hc)
theorem own_i0_gt (C : own_Ctx p s m meth c Z own nm bytes maxL ret) {o : Int} {x : Int32} (hd : decode bytes pc = .ok (.ifCond .gt o, 3)) (ho : (pc : Int) + o = (pc1 : Int)) (hp : pc + 3 = pc2) (r1 : 0 < x → own_Run p l e R s m args below meth c n0 Kf h k q (mkF m pc1 Ls rest)) (r2 : ¬ 0 < x → own_Run p l e R s m args below meth c n0 Kf h k q (mkF m pc2 Ls rest)) : own_Run p l e R s m args below meth c n0 Kf h k q (mkF m pc Ls (.int x :: rest)) := by
  by_cases hc : 0 < x
  · exact own_st (fun T locs X eT t kk => Jvm.Free.XS.ifYes X.here C.g_x rfl (pc0 := pc) (pc' := pc1) rfl (hb C.g_by hd) rfl (Jvm.Free.XT.i0_gt_t hc) (by omega) (by omega) kk) (r1 hc)
  · subst hp; exact own_st (fun T locs X eT t kk => Jvm.Free.XS.ifNo X.here C.g_x rfl (hb C.g_by hd) rfl (Jvm.Free.XT.i0_gt_f hc) kk) (r2 hc)
theorem own_ll_gt (C : own_Ctx p s m meth c Z own nm bytes maxL ret) {o : Int} {x y : Int64} (hd : decode bytes pc = .ok (.ifCond .gt o, 3)) (ho : (pc : Int) + o = (pc1 : Int)) (hp : pc + 3 = pc2) (r1 : y < x → own_Run p l e R s m args below meth c n0 Kf h k q (mkF m pc1 Ls rest)) (r2 : ¬ y < x → own_Run p l e R s m args below meth c n0 Kf h k q (mkF m pc2 Ls rest)) : own_Run p l e R s m args below meth c n0 Kf h k q (mkF m pc Ls (.int (Jvm.Free.XT.cmpL x y) :: rest)) := by
  by_cases hc : y < x
  · exact own_st (fun T locs X eT t kk => Jvm.Free.XS.ifYes X.here C.g_x rfl (pc0 := pc) (pc' := pc1) rfl (hb C.g_by hd) rfl (Jvm.Free.XT.ll_gt_t hc) (by omega) (by omega) kk) (r1 hc)
  · subst hp; exact own_st (fun T locs X eT t kk => Jvm.Free.XS.ifNo X.here C.g_x rfl (hb C.g_by hd) rfl (Jvm.Free.XT.ll_gt_f hc) kk) (r2 hc)
theorem own_ii_le (C : own_Ctx p s m meth c Z own nm bytes maxL ret) {o : Int} {x y : Int32} (hd : decode bytes pc = .ok (.if_icmp .le o, 3)) (ho : (pc : Int) + o = (pc1 : Int)) (hp : pc + 3 = pc2) (r1 : ¬ y < x → own_Run p l e R s m args below meth c n0 Kf h k q (mkF m pc1 Ls rest)) (r2 : y < x → own_Run p l e R s m args below meth c n0 Kf h k q (mkF m pc2 Ls rest)) : own_Run p l e R s m args below meth c n0 Kf h k q (mkF m pc Ls (.int y :: .int x :: rest)) := by
  by_cases hc : y < x
  · subst hp; exact own_st (fun T locs X eT t kk => Jvm.Free.XS.icmpNo X.here C.g_x rfl (hb C.g_by hd) rfl (Jvm.Free.XT.ii_le_f hc) kk) (r2 hc)
  · exact own_st (fun T locs X eT t kk => Jvm.Free.XS.icmpYes X.here C.g_x rfl (pc0 := pc) (pc' := pc1) rfl (hb C.g_by hd) rfl (Jvm.Free.XT.ii_le_t hc) (by omega) (by omega) kk) (r1 hc)
theorem own_i0_le (C : own_Ctx p s m meth c Z own nm bytes maxL ret) {o : Int} {x : Int32} (hd : decode bytes pc = .ok (.ifCond .le o, 3)) (ho : (pc : Int) + o = (pc1 : Int)) (hp : pc + 3 = pc2) (r1 : ¬ 0 < x → own_Run p l e R s m args below meth c n0 Kf h k q (mkF m pc1 Ls rest)) (r2 : 0 < x → own_Run p l e R s m args below meth c n0 Kf h k q (mkF m pc2 Ls rest)) : own_Run p l e R s m args below meth c n0 Kf h k q (mkF m pc Ls (.int x :: rest)) := by
  by_cases hc : 0 < x
  · subst hp; exact own_st (fun T locs X eT t kk => Jvm.Free.XS.ifNo X.here C.g_x rfl (hb C.g_by hd) rfl (Jvm.Free.XT.i0_le_f hc) kk) (r2 hc)
  · exact own_st (fun T locs X eT t kk => Jvm.Free.XS.ifYes X.here C.g_x rfl (pc0 := pc) (pc' := pc1) rfl (hb C.g_by hd) rfl (Jvm.Free.XT.i0_le_t hc) (by omega) (by omega) kk) (r1 hc)
theorem own_ll_le (C : own_Ctx p s m meth c Z own nm bytes maxL ret) {o : Int} {x y : Int64} (hd : decode bytes pc = .ok (.ifCond .le o, 3)) (ho : (pc : Int) + o = (pc1 : Int)) (hp : pc + 3 = pc2) (r1 : ¬ y < x → own_Run p l e R s m args below meth c n0 Kf h k q (mkF m pc1 Ls rest)) (r2 : y < x → own_Run p l e R s m args below meth c n0 Kf h k q (mkF m pc2 Ls rest)) : own_Run p l e R s m args below meth c n0 Kf h k q (mkF m pc Ls (.int (Jvm.Free.XT.cmpL x y) :: rest)) := by
  by_cases hc : y < x
  · subst hp; exact own_st (fun T locs X eT t kk => Jvm.Free.XS.ifNo X.here C.g_x rfl (hb C.g_by hd) rfl (Jvm.Free.XT.ll_le_f hc) kk) (r2 hc)
  · exact own_st (fun T locs X eT t kk => Jvm.Free.XS.ifYes X.here C.g_x rfl (pc0 := pc) (pc' := pc1) rfl (hb C.g_by hd) rfl (Jvm.Free.XT.ll_le_t hc) (by omega) (by omega) kk) (r1 hc)
theorem own_aa_eq (C : own_Ctx p s m meth c Z own nm bytes maxL ret) {o : Int} {x y : Value} (hx1 : x.isRef = true) (hy1 : y.isRef = true) (hd : decode bytes pc = .ok (.if_acmp .eq o, 3)) (ho : (pc : Int) + o = (pc1 : Int)) (hp : pc + 3 = pc2) (r1 : x = y → own_Run p l e R s m args below meth c n0 Kf h k q (mkF m pc1 Ls rest)) (r2 : ¬ x = y → own_Run p l e R s m args below meth c n0 Kf h k q (mkF m pc2 Ls rest)) : own_Run p l e R s m args below meth c n0 Kf h k q (mkF m pc Ls (y :: x :: rest)) := by
  by_cases hc : x = y
  · exact own_st (fun T locs X eT t kk => Jvm.Free.XT.acmpYes X.here C.g_x rfl (pc0 := pc) (pc' := pc1) rfl (hb C.g_by hd) rfl hx1 hy1 (Jvm.Free.XT.aa_eq_t hc) (by omega) (by omega) kk) (r1 hc)
  · subst hp; exact own_st (fun T locs X eT t kk => Jvm.Free.XT.acmpNo X.here C.g_x rfl (hb C.g_by hd) rfl hx1 hy1 (Jvm.Free.XT.aa_eq_f hc) kk) (r2 hc)
theorem own_aa_ne (C : own_Ctx p s m meth c Z own nm bytes maxL ret) {o : Int} {x y : Value} (hx1 : x.isRef = true) (hy1 : y.isRef = true) (hd : decode bytes pc = .ok (.if_acmp .ne o, 3)) (ho : (pc : Int) + o = (pc1 : Int)) (hp : pc + 3 = pc2) (r1 : ¬ x = y → own_Run p l e R s m args below meth c n0 Kf h k q (mkF m pc1 Ls rest)) (r2 : x = y → own_Run p l e R s m args below meth c n0 Kf h k q (mkF m pc2 Ls rest)) : own_Run p l e R s m args below meth c n0 Kf h k q (mkF m pc Ls (y :: x :: rest)) := by
  by_cases hc : x = y
  · subst hp; exact own_st (fun T locs X eT t kk => Jvm.Free.XT.acmpNo X.here C.g_x rfl (hb C.g_by hd) rfl hx1 hy1 (Jvm.Free.XT.aa_ne_f hc) kk) (r2 hc)
  · exact own_st (fun T locs X eT t kk => Jvm.Free.XT.acmpYes X.here C.g_x rfl (pc0 := pc) (pc' := pc1) rfl (hb C.g_by hd) rfl hx1 hy1 (Jvm.Free.XT.aa_ne_t hc) (by omega) (by omega) kk) (r1 hc)
theorem own_nullNo (C : own_Ctx p s m meth c Z own nm bytes maxL ret) {o : Int} {a : Addr} (hd : decode bytes pc = .ok (.ifnull o, 3)) (hp : pc + 3 = pc') (r : own_Run p l e R s m args below meth c n0 Kf h k q (mkF m pc' Ls rest)) : own_Run p l e R s m args below meth c n0 Kf h k q (mkF m pc Ls (.ref a :: rest)) :=
  own_st (fun T locs X eT t kk => by subst hp; exact Jvm.Free.XS.ifnullNo X.here C.g_x rfl (hb C.g_by hd) rfl kk) r
theorem own_getF (C : own_Ctx p s m meth c Z own nm bytes maxL ret) {i : Nat} {O n d : String} {a : Addr} {v : Value} (w : (Jvm.Cond.fieldLink own i O n d).before a0 Z = true) (F : Fld Z h a O n d v) (hd : decode bytes pc = .ok (.getfield i, 3)) (hp : pc + 3 = pc') (r : own_Run p l e R s m args below meth c n0 Kf h k q (mkF m pc' Ls (v :: rest))) : own_Run p l e R s m args below meth c n0 Kf h k q (mkF m pc Ls (.ref a :: rest)) := fun T locs X eT N => by
  subst hp
  obtain ⟨T1, X1, e1, st1⟩ := getF X C.g_x C.g_z C.g_own (host := "") (Or.inl w) Via.refl eT F (g := mkF m pc Ls (.ref a :: rest)) rfl rfl (hb C.g_by hd)
  obtain ⟨t, o, h1, h2⟩ := r T1 locs X1 e1 N
  exact ⟨t, o, st1 _ h1, h2⟩
theorem own_putF (C : own_Ctx p s m meth c Z own nm bytes maxL ret) {i kk : Nat} {O n d K : String} {a : Addr} {v old : Value} {ty : FieldType} (w : (Jvm.Cond.fieldLink own i O n d).before a0 Z = true) (F : Fld Z h a O n d old) (E : Exa Z h a K) (L : (Jvm.Cond.lays K O n d).before a0 Z = true ∨ ((Jvm.Cond.laysFinal K O n d).before a0 Z = true ∧ own = O ∧ nm = "<init>")) (wi : (Jvm.Cond.instantiable K kk).before a0 Z = true) (hty : parseFieldDescriptor d = some ty) (hn : narrow ty v = v) (hf : fits ty v = true) (ga : n0 ≤ a) (hd : decode bytes pc = .ok (.putfield i, 3)) (hp : pc + 3 = pc')
    (r : ∀ h', Wr h h' a (Jvm.RoadKit.slotOf Z O n d) v → own_Run p l e R s m args below meth c n0 Kf h' k q (mkF m pc' Ls rest)) : own_Run p l e R s m args below meth c n0 Kf h k q (mkF m pc Ls (v :: .ref a :: rest)) := fun T locs X eT N => by
  subst hp
  obtain ⟨T1, h1, X1, e1, W1, st1⟩ := putF X C.g_x C.g_z C.g_own (host := "") (Or.inl w) Via.refl eT F E (L.imp id fun x => ⟨x.1, x.2.1, C.g_nm.trans x.2.2⟩) wi hty hn hf (g := mkF m pc Ls (v :: .ref a :: rest)) rfl rfl (hb C.g_by hd)
  obtain ⟨t, o, h2, h3⟩ := r h1 W1 T1 _ X1 e1 (Fr.snoc X1 N ga)
  exact ⟨t, o, st1 _ h2, h3⟩
theorem own_getS (C : own_Ctx p s m meth c Z own nm bytes maxL ret) {i : Nat} {O n d : String} {v : Value} (w : (Jvm.Cond.fieldLink own i O n d).before a0 Z = true) (F : Sta Z h O n d v) (hd : decode bytes pc = .ok (.getstatic i, 3)) (hp : pc + 3 = pc') (r : own_Run p l e R s m args below meth c n0 Kf h k q (mkF m pc' Ls (v :: rest))) : own_Run p l e R s m args below meth c n0 Kf h k q (mkF m pc Ls rest) := fun T locs X eT N => by
  subst hp
  obtain ⟨T1, X1, e1, st1⟩ := getS (host := "") X C.g_x C.g_z C.g_own w Via.refl eT F (g := mkF m pc Ls rest) rfl (hb C.g_by hd)
  obtain ⟨t, o, h1, h2⟩ := r T1 locs X1 e1 N
  exact ⟨t, o, st1 _ h1, h2⟩
theorem own_new (C : own_Ctx p s m meth c Z own nm bytes maxL ret) {i n : Nat} {K : String} (w : (Jvm.Cond.classLink own i K).before a0 Z = true) (wi : (Jvm.Cond.instantiable K n).before a0 Z = true) (wz : (Jvm.Cond.initialized K).before a0 Z = true) (Z0 : n0 ≤ h.size) (hd : decode bytes pc = .ok (.new i, 3)) (hp : pc + 3 = pc') (hc : k + 1 ≤ R.cells) (hs : q + n ≤ R.slots)
    (r : ∀ h' a, a = h.size → n0 ≤ a → n0 ≤ h'.size → Ext h h' → Exa Z h' a K → (∀ {O nm d : String} {ty : FieldType}, Laid Z a0 K O nm d → parseFieldDescriptor d = some ty → Fld Z h' a O nm d (defaultValue ty)) → own_Run p l e R s m args below meth c n0 Kf h' (k + 1) (q + n) (mkF m pc' Ls (.ref a :: rest))) : own_Run p l e R s m args below meth c n0 Kf h k q (mkF m pc Ls rest) := fun T locs X eT N => by
  subst hp
  obtain ⟨T1, h1, X1, e1, E1, A1, D1, -, st1⟩ := newO X C.g_x C.g_z C.g_own w wi wz eT (g := mkF m pc Ls rest) rfl (hb C.g_by hd) hc hs
  obtain ⟨t, o, h2, h3⟩ := r h1 h.size rfl Z0 (Nat.le_trans Z0 E1.1) E1 A1 (fun L ht => D1 L ht) T1 _ X1 e1 N
  exact ⟨t, o, st1 _ h2, h3⟩
theorem own_initO (C : own_Ctx p s m meth c Z own nm bytes maxL ret) {i : Nat} {a : Addr} {W : Nat} (w1 : (Jvm.Cond.methodLink own i Lib.objectInit).before a0 Z = true) (w2 : (Jvm.Cond.instanceMethod Lib.objectInit).before a0 Z = true) (w3 : (Jvm.Cond.code Lib.objectInit ⟨#[0xb1]⟩ 1 none).before a0 Z = true) (hd : decode bytes pc = .ok (.invokespecial i, 3)) (hp : pc + 3 = pc') (hsz : Ls.size = maxL) (hf : 1 ≤ R.frames) (hW : 0 + (rest.map fun v => v.category).sum ≤ W) (hl : W + 12 ≤ R.locals)
    (r : own_Run p l e R s m args below meth c n0 Kf h k q (mkF m pc' Ls rest)) : own_Run p l e R s m args below meth c n0 Kf h k q (mkF m pc Ls (.ref a :: rest)) := fun T locs X eT N => by
  subst hp
  obtain ⟨T1, X1, e1, st1⟩ := initO X C.g_x C.g_z C.g_own w1 w2 w3 eT (g := mkF m pc Ls (.ref a :: rest)) rfl (by rw [C.g_ml]; exact hsz) rfl (hb C.g_by hd) hf (W := W) (by show 2 * 0 + _ ≤ _; exact hW) hl
  obtain ⟨t, o, h1, h2⟩ := r T1 locs X1 e1 N
  exact ⟨t, o, st1 _ h1, h2⟩
theorem own_callN (C : own_Ctx p s m meth c Z own nm bytes maxL ret) {i : Nat} {y : MethodName} {cb : ByteArray} {cm : Nat} {rm : Room} {a : Addr} {argsL : List Value} {Q' : Option Value → Heap → Prop} (W : Nat) (hy1 : y.name = "<init>") (w1 : (Jvm.Cond.methodLink own i y).before a0 Z = true) (w2 : (Jvm.Cond.instanceMethod y).before a0 Z = true) (w3 : (Jvm.Cond.code y cb cm none).before a0 Z = true) (w4 : (Jvm.Cond.initialized y.cls).before a0 Z = true) (hy : y.cls ≠ "java/lang/invoke/MethodHandle" ∧ y.cls ≠ "java/lang/invoke/VarHandle")
    (hM : own_Met l Z n0 y cb cm none rm [] (.ref a :: argsL).toArray h Q') (hf : rm.frames + 1 ≤ R.frames) (hl : W + (cm + 11) + rm.locals ≤ R.locals) (hlen : ∀ sig, parseMethodDescriptor y.desc = some sig → argsL.length = sig.parameters.length) {st : List Value} (hst : st = argsL.reverse ++ .ref a :: rest) (hW : 0 + (rest.map fun v => v.category).sum ≤ W) (hd : decode bytes pc = .ok (.invokespecial i, 3)) (hp : pc + 3 = pc') (hsz : Ls.size = maxL) (hc : k + rm.cells ≤ R.cells) (hs : q + rm.slots ≤ R.slots)
    (r : ∀ v h', Q' v h' → own_Run p l e R s m args below meth c n0 Kf h' (k + rm.cells) (q + rm.slots) (mkF m pc' Ls (v.toList ++ rest))) : own_Run p l e R s m args below meth c n0 Kf h k q (mkF m pc Ls st) := fun T locs X eT N => by
  subst hp
  obtain ⟨v, _, ⟨T1, L1, k1, n1⟩, -, X1, ⟨Lc1, hQ1, l1, y1, z1⟩, st1⟩ := X.specialBack C.g_x (y := y) hy1 C.g_own (mvT C.g_z w1) (mvT C.g_z w2) (mvT C.g_z w3) hy (backOf (W := W) (Q := fun v h L => Fr n0 L ∧ Q' v h) hM C.g_z w3 w4 hf hl) (g := mkF m pc Ls st) rfl (by rw [C.g_ml]; exact hsz) (Steps.refl _) (a := a) (argsL := argsL) (rest := rest) hlen hst (by show 2 * 0 + _ ≤ _; exact hW) (hb C.g_by hd) (fun _ _ => ⟨rfl, eT, hc, hs⟩)
  dsimp only [Pt.U, Pt.locs, Pt.cells, Pt.slots] at X1 l1 y1 z1 st1 hQ1
  subst l1 y1 z1
  obtain ⟨t, o, h2, h3⟩ := r v T1.heap hQ1.2 T1 _ X1 rfl (Fr.app N hQ1.1)
  exact ⟨t, o, st1.trans h2, h3⟩
theorem own_callV (C : own_Ctx p s m meth c Z own nm bytes maxL ret) {i : Nat} {y : MethodName} {cb : ByteArray} {cm : Nat} {cret : Option FieldType} {rm : Room} {a : Addr} {argsL : List Value} {Q' : Option Value → Heap → Prop} (W : Nat) (E : Exa Z h a y.cls) (w1 : (Jvm.Cond.methodLink own i y).before a0 Z = true) (w2 : (Jvm.Cond.declares y).before a0 Z = true) (w3 : (Jvm.Cond.selects y.cls y y).before a0 Z = true) (w4 : (Jvm.Cond.instanceMethod y).before a0 Z = true) (w5 : (Jvm.Cond.code y cb cm cret).before a0 Z = true) (w6 : (Jvm.Cond.initialized y.cls).before a0 Z = true) (hy : y.cls ≠ "java/lang/invoke/MethodHandle" ∧ y.cls ≠ "java/lang/invoke/VarHandle")
    (hM : own_Met l Z n0 y cb cm cret rm [] (.ref a :: argsL).toArray h Q') (hf : rm.frames + 1 ≤ R.frames) (hl : W + (cm + 11) + rm.locals ≤ R.locals) (hlen : ∀ sig, parseMethodDescriptor y.desc = some sig → argsL.length = sig.parameters.length) {st : List Value} (hst : st = argsL.reverse ++ .ref a :: rest) (hW : 0 + (rest.map fun v => v.category).sum ≤ W) (hd : decode bytes pc = .ok (.invokevirtual i, 3)) (hp : pc + 3 = pc') (hsz : Ls.size = maxL) (hc : k + rm.cells ≤ R.cells) (hs : q + rm.slots ≤ R.slots)
    (r : ∀ v h', Q' v h' → own_Run p l e R s m args below meth c n0 Kf h' (k + rm.cells) (q + rm.slots) (mkF m pc' Ls (v.toList ++ rest))) : own_Run p l e R s m args below meth c n0 Kf h k q (mkF m pc Ls st) := fun T locs X eT N => by
  subst hp
  obtain ⟨cq, kq, qa, qb, qc⟩ := isOf C.g_z eT E
  obtain ⟨v, _, ⟨T1, L1, k1, n1⟩, -, X1, ⟨Lc1, hQ1, l1, y1, z1⟩, st1⟩ := X.virtualBack C.g_x (y := y) (z := y) C.g_own (mvT C.g_z w1) (mvT C.g_z w2) (notFace_of_selects (args := #[]) (mvT C.g_z w3)) (mvT C.g_z w3) (mvT C.g_z w4) hy (backOf (W := W) (Q := fun v h L => Fr n0 L ∧ Q' v h) hM C.g_z w5 w6 hf hl) qa qc (g := mkF m pc Ls st) rfl (by rw [C.g_ml]; exact hsz) (Steps.refl _) (argsL := argsL) (rest := rest) hlen hst (by show 2 * 0 + _ ≤ _; exact hW) (hb C.g_by hd) (fun _ _ => ⟨rfl, eT, hc, hs⟩)
  dsimp only [Pt.U, Pt.locs, Pt.cells, Pt.slots] at X1 l1 y1 z1 st1 hQ1
  subst l1 y1 z1
  obtain ⟨t, o, h2, h3⟩ := r v T1.heap hQ1.2 T1 _ X1 rfl (Fr.app N hQ1.1)
  exact ⟨t, o, st1.trans h2, h3⟩
theorem own_callS (C : own_Ctx p s m meth c Z own nm bytes maxL ret) {i : Nat} {y : MethodName} {cb : ByteArray} {cm : Nat} {cret : Option FieldType} {rm : Room} {argsL : List Value} {Q' : Option Value → Heap → Prop} (W : Nat) (w1 : (Jvm.Cond.methodLink own i y).before a0 Z = true) (w2 : (Jvm.Cond.static y).before a0 Z = true) (w3 : (Jvm.Cond.initialized y.cls).before a0 Z = true) (w4 : (Jvm.Cond.code y cb cm cret).before a0 Z = true) (hy : y.cls ≠ "java/lang/invoke/MethodHandle" ∧ y.cls ≠ "java/lang/invoke/VarHandle")
    (hM : own_Met l Z n0 y cb cm cret rm [] argsL.toArray h Q') (hf : rm.frames + 1 ≤ R.frames) (hl : W + (cm + 11) + rm.locals ≤ R.locals) (hlen : ∀ sig, parseMethodDescriptor y.desc = some sig → argsL.length = sig.parameters.length) {st : List Value} (hst : st = argsL.reverse ++ rest) (hW : 0 + (rest.map fun v => v.category).sum ≤ W) (hd : decode bytes pc = .ok (.invokestatic i, 3)) (hp : pc + 3 = pc') (hsz : Ls.size = maxL) (hc : k + rm.cells ≤ R.cells) (hs : q + rm.slots ≤ R.slots)
    (r : ∀ v h', Q' v h' → own_Run p l e R s m args below meth c n0 Kf h' (k + rm.cells) (q + rm.slots) (mkF m pc' Ls (v.toList ++ rest))) : own_Run p l e R s m args below meth c n0 Kf h k q (mkF m pc Ls st) := fun T locs X eT N => by
  subst hp
  obtain ⟨v, _, ⟨T1, L1, k1, n1⟩, -, X1, ⟨Lc1, hQ1, l1, y1, z1⟩, st1⟩ := Jvm.LawKit.callS X C.g_x (y := y) C.g_own (mvT C.g_z w1) (mvT C.g_z w2) (mvT C.g_z w3) (mvT C.g_z w4) hy (backOf (W := W) (Q := fun v h L => Fr n0 L ∧ Q' v h) hM C.g_z w4 w3 hf hl) (g := mkF m pc Ls st) rfl (by rw [C.g_ml]; exact hsz) (argsL := argsL) (rest := rest) hlen hst (by show 2 * 0 + _ ≤ _; exact hW) (hb C.g_by hd) (fun _ _ => ⟨rfl, eT, hc, hs⟩)
  dsimp only [Pt.U, Pt.locs, Pt.cells, Pt.slots] at X1 l1 y1 z1 st1 hQ1
  subst l1 y1 z1
  obtain ⟨t, o, h2, h3⟩ := r v T1.heap hQ1.2 T1 _ X1 rfl (Fr.app N hQ1.1)
  exact ⟨t, o, st1 _ h2, h3⟩
theorem own_callP (C : own_Ctx p s m meth c Z own nm bytes maxL ret) {i nf : Nat} {y : MethodName} {cb : ByteArray} {cm : Nat} {cret : Option FieldType} {rm : Room} {a : Addr} {argsL : List Value} {K : String} {Q' : Option Value → Heap → Prop} (W : Nat) (E : Exa Z h a K) (w1 : (Jvm.Cond.methodLink own i y).before a0 Z = true) (w2 : (Jvm.Cond.instanceMethod y).before a0 Z = true) (w3 : (Jvm.Cond.privateMethod y).before a0 Z = true) (w4 : (Jvm.Cond.instantiable y.cls nf).before a0 Z = true) (w5 : (Jvm.Cond.code y cb cm cret).before a0 Z = true) (w6 : (Jvm.Cond.initialized y.cls).before a0 Z = true) (hy : y.cls ≠ "java/lang/invoke/MethodHandle" ∧ y.cls ≠ "java/lang/invoke/VarHandle")
    (hM : own_Met l Z n0 y cb cm cret rm [] (.ref a :: argsL).toArray h Q') (hf : rm.frames + 1 ≤ R.frames) (hl : W + (cm + 11) + rm.locals ≤ R.locals) (hlen : ∀ sig, parseMethodDescriptor y.desc = some sig → argsL.length = sig.parameters.length) {st : List Value} (hst : st = argsL.reverse ++ .ref a :: rest) (hW : 0 + (rest.map fun v => v.category).sum ≤ W) (hd : decode bytes pc = .ok (.invokevirtual i, 3)) (hp : pc + 3 = pc') (hsz : Ls.size = maxL) (hc : k + rm.cells ≤ R.cells) (hs : q + rm.slots ≤ R.slots)
    (r : ∀ v h', Q' v h' → own_Run p l e R s m args below meth c n0 Kf h' (k + rm.cells) (q + rm.slots) (mkF m pc' Ls (v.toList ++ rest))) : own_Run p l e R s m args below meth c n0 Kf h k q (mkF m pc Ls st) := fun T locs X eT N => by
  subst hp
  have hK := backOf (l := l) (R := R) (p := p) (e := e) (s := s) (below := below) (args := args) (len := 3) (W := W) (Q := fun v h L => Fr n0 L ∧ Q' v h) hM C.g_z w5 w6 hf hl
  obtain ⟨mk, mM, hnamed, hmM, hsta, hab⟩ := Cond.instanceMethod_spec (mvT (args := args) C.g_z w2)
  obtain ⟨mM', cM, hmM', -, -, -, -, -, -, hsig⟩ := Cond.code_spec hnamed (mvT (args := args) C.g_z w5)
  cases hmM.symm.trans hmM'
  obtain ⟨cI, kI, i1, i2, -, i4, -⟩ := Cond.instantiable_spec (mvT (args := args) C.g_z w4)
  cases i1.symm.trans (findClass_of_methodNamed hnamed)
  have hni : kI.isInterface = false := (Bool.or_eq_false_iff.mp i4).1
  obtain ⟨cell, hc1, hc2⟩ := E.cell
  have hsel := selectMethod_private (p := e.platform) (c := cell.cls) hmM (Cond.privateMethod_at (mvP C.g_z w3 (args := #[])) mk mM hnamed hmM)
  obtain ⟨vm1, X1, st1⟩ := X.invokevirtual C.g_x C.g_own (mvT C.g_z w1) hnamed hmM hsta i2 hni hy (a := a) (cell := cell) (by rw [eT]; exact hc1) hc2 hsel hmM hab i2 hni (g := mkF m pc Ls st) rfl (argsL := argsL) (rest := rest) (hlen _ hsig) hst (hb C.g_by hd)
  obtain ⟨v, ⟨T1, L1, k1, n1⟩, X2, ⟨Lc1, hQ1, l1, y1, z1⟩, st2⟩ := hK m meth c ⟨T.setVm vm1, locs, k, q⟩ (mkF m pc Ls rest) (.invokevirtual i) mk (.ref a :: argsL).toArray X1 rfl (by rw [C.g_ml]; exact hsz) (hb C.g_by hd) (by show 2 * 0 + _ ≤ _; exact hW) (X1.named hnamed) ⟨rfl, eT, hc, hs⟩
  dsimp only [Pt.U, Pt.locs, Pt.cells, Pt.slots] at X2 l1 y1 z1 st2 hQ1
  subst l1 y1 z1
  obtain ⟨t, o, h2, h3⟩ := r v T1.heap hQ1.2 T1 _ X2 rfl (Fr.app N hQ1.1)
  exact ⟨t, o, st1 _ fun acts => by rw [doInvoke_state]; exact st2.trans h2, h3⟩
theorem own_ret (C : own_Ctx p s m meth c Z own nm bytes maxL ret) {v : Value} {t : FieldType} {i : Instr} (hret : ret = some t) (hn : narrow t v = v)
    (hi : (i = .ireturn ∧ (t = .int ∨ t = .boolean ∨ t = .byte ∨ t = .char ∨ t = .short) ∧ ∃ z, v = .int z) ∨ (i = .lreturn ∧ t = .long ∧ ∃ z, v = .long z) ∨ (i = .dreturn ∧ t = .double ∧ ∃ z, v = .double z) ∨ (i = .freturn ∧ t = .float ∧ ∃ z, v = .float z) ∨ (i = .areturn ∧ t.isReference = true ∧ v.isRef = true))
    (hd : decode bytes pc = .ok (i, 1)) (hc : k ≤ R.cells) (hs : q ≤ R.slots) (hQ : Q (some v) h) : own_Run p l e R s m args below meth c n0 (own_K below R s n0 Q) h k q (mkF m pc Ls (v :: rest)) := fun T locs X eT N => by
  have hlocks := C.g_lk
  obtain ⟨fs, hr, hrun, hended, hW, hsame⟩ := X.leave (v := some v) (fun hh => by rw [C.g_rt, hret] at hh; cases hh) hlocks
  refine ⟨_, _, retOut X C.g_x (C.g_rt.trans hret) hn hi (hb C.g_by hd) hr, hrun, hended, _, _, rfl, ⟨N, ?_⟩, ⟨_, rfl⟩, hW, hsame.mono hc hs⟩
  show Q (some v) T.heap
  rw [eT]; exact hQ
theorem own_retV (C : own_Ctx p s m meth c Z own nm bytes maxL ret) (hret : ret = none) (hd : decode bytes pc = .ok (.return_, 1)) (hc : k ≤ R.cells) (hs : q ≤ R.slots) (hQ : Q none h) : own_Run p l e R s m args below meth c n0 (own_K below R s n0 Q) h k q (mkF m pc Ls []) := fun T locs X eT N => by
  have hlocks := C.g_lk
  obtain ⟨fs, hr, hrun, hended, hW, hsame⟩ := X.leave (v := none) (fun _ => rfl) hlocks
  refine ⟨_, _, X.returnOut C.g_x (C.g_rt.trans hret) (hb C.g_by hd) hr, hrun, hended, _, _, rfl, ⟨N, ?_⟩, ⟨_, rfl⟩, hW, hsame.mono hc hs⟩
  show Q none T.heap
  rw [eT]; exact hQ
theorem own_refne {a b : Addr} (hn : a ≠ b) : ¬ (Value.ref a = Value.ref b) := fun e => hn (Value.ref.inj e)
theorem own_nb {v : Int32} (hv : v = 0 ∨ v = 1) : narrow .boolean (.int v) = .int v := by rcases hv with rfl | rfl <;> rfl
theorem own_fb {v : Int32} (hv : v = 0 ∨ v = 1) : fits .boolean (.int v) = true := by rcases hv with rfl | rfl <;> rfl
theorem own_join {α : Type} {g : JFrame} (P : α → Prop) (F : α → JFrame) (j : ∀ v, P v → own_Run p l e R s m args below meth c n0 Kf h k q (F v)) (r : (∀ v, P v → own_Run p l e R s m args below meth c n0 Kf h k q (F v)) → own_Run p l e R s m args below meth c n0 Kf h k q g) : own_Run p l e R s m args below meth c n0 Kf h k q g := r j
theorem own_join2 {α β : Type} {g : JFrame} (P : α → β → Prop) (F : α → β → JFrame) (j : ∀ v w, P v w → own_Run p l e R s m args below meth c n0 Kf h k q (F v w)) (r : (∀ v w, P v w → own_Run p l e R s m args below meth c n0 Kf h k q (F v w)) → own_Run p l e R s m args below meth c n0 Kf h k q g) : own_Run p l e R s m args below meth c n0 Kf h k q g := r j
theorem own_join3 {α β γ : Type} {g : JFrame} (P : α → β → γ → Prop) (F : α → β → γ → JFrame) (j : ∀ v w x, P v w x → own_Run p l e R s m args below meth c n0 Kf h k q (F v w x)) (r : (∀ v w x, P v w x → own_Run p l e R s m args below meth c n0 Kf h k q (F v w x)) → own_Run p l e R s m args below meth c n0 Kf h k q g) : own_Run p l e R s m args below meth c n0 Kf h k q g := r j
def own_upd {α : Type} (f : Nat → α) (i : Nat) (x : α) : Nat → α := fun j => if j = i then x else f j
theorem own_upd_eq {α : Type} (f : Nat → α) (i : Nat) (x : α) : own_upd f i x i = x := if_pos rfl
theorem own_upd_ne {α : Type} (f : Nat → α) {i j : Nat} (x : α) (hne : j ≠ i) : own_upd f i x j = f j := if_neg hne
/-- an array: her length, and what each place holds -/
def own_A (Z : State) (h : Heap) (a : Addr) (ty : FieldType) (n : Nat) (f : Nat → Value) : Prop := n < 2 ^ 31 ∧ ∃ cl : Cell, Arr Z h a cl ty ∧ cl.slots.size = n ∧ ∀ j, j < n → cl.slots[j]? = some (f j)
abbrev own_AI (Z : State) (h : Heap) (a : Addr) (n : Nat) (f : Nat → Int32) : Prop := own_A Z h a .int n (fun j => .int (f j))
abbrev own_AB (Z : State) (h : Heap) (a : Addr) (n : Nat) (f : Nat → Int32) : Prop := own_A Z h a .byte n (fun j => .int (f j))
abbrev own_AZ (Z : State) (h : Heap) (a : Addr) (n : Nat) (f : Nat → Int32) : Prop := own_A Z h a .boolean n (fun j => .int (f j))
abbrev own_AJ (Z : State) (h : Heap) (a : Addr) (n : Nat) (f : Nat → Int64) : Prop := own_A Z h a .long n (fun j => .long (f j))
theorem own_A.lt {h : Heap} {a : Addr} {ty : FieldType} {n : Nat} {f : Nat → Value} (V : own_A Z h a ty n f) : a < h.size := by obtain ⟨_, cl, A, _⟩ := V; exact A.lt
theorem own_A.ext {h h' : Heap} {a : Addr} {ty : FieldType} {n : Nat} {f : Nat → Value} (V : own_A Z h a ty n f) (E : Ext h h') : own_A Z h' a ty n f := by obtain ⟨hn, cl, A, r⟩ := V; exact ⟨hn, cl, A.ext E, r⟩
theorem own_A.other {h h' : Heap} {a b : Addr} {sl : Nat} {w : Value} {ty : FieldType} {n : Nat} {f : Nat → Value} (V : own_A Z h b ty n f) (W : Wr h h' a sl w) (hne : b ≠ a) : own_A Z h' b ty n f := by obtain ⟨hn, cl, A, r⟩ := V; exact ⟨hn, cl, A.other W hne, r⟩
theorem own_A.keep {h h' : Heap} {a : Addr} {ws : List Addr} {ty : FieldType} {n : Nat} {f : Nat → Value} (V : own_A Z h a ty n f) (K : Keep h h' ws) (hne : a ∉ ws) : own_A Z h' a ty n f := by obtain ⟨hn, cl, A, r⟩ := V; exact ⟨hn, cl, ⟨K.2.1 a cl A.1 hne, A.2⟩, r⟩
theorem own_A.congr {h : Heap} {a : Addr} {ty : FieldType} {n : Nat} {f g : Nat → Value} (V : own_A Z h a ty n f) (e : ∀ j, j < n → f j = g j) : own_A Z h a ty n g := by obtain ⟨hn, cl, A, S, H⟩ := V; exact ⟨hn, cl, A, S, fun j hj => by rw [← e j hj]; exact H j hj⟩
theorem own_A.set {h h' : Heap} {a : Addr} {i : Nat} {w : Value} {ty : FieldType} {n : Nat} {f : Nat → Value} (V : own_A Z h a ty n f) (W : Wr h h' a i w) (hi : i < n) : own_A Z h' a ty n (own_upd f i w) := by
  obtain ⟨hn, cl, A, S, H⟩ := V
  refine ⟨hn, _, A.same W, by rw [sz_set]; exact S, fun j hj => ?_⟩
  by_cases e : j = i
  · subst e
    rw [own_upd_eq]; simp [Cell.setSlot, S, hj]
  · rw [own_upd_ne _ _ e]
    show (cl.slots.setIfInBounds i w)[j]? = _
    rw [Array.getElem?_setIfInBounds_ne (Ne.symm e)]; exact H j hj
theorem own_nat {j : Int32} {i : Nat} (hj : j.toInt = (i : Int)) : ¬ j < 0 ∧ j.toNatClampNeg = i := by
  have z : (0 : Int32).toInt = 0 := rfl
  refine ⟨?_, ?_⟩
  · rw [Int32.lt_iff_toInt_lt]; omega
  · simp only [Int32.toNatClampNeg]; omega
theorem own_inb {j : Int32} {i : Nat} {cl : Cell} {n : Nat} (hj : j.toInt = (i : Int)) (S : cl.slots.size = n) (hi : i < n) : ¬ (j < 0 ∨ cl.slots.size ≤ j.toNatClampNeg) := by
  obtain ⟨h1, h2⟩ := own_nat hj
  rw [S, h2]; exact fun hh => hh.elim h1 (Nat.not_le.mpr hi)
theorem own_newA (C : own_Ctx p s m meth c Z own nm bytes maxL ret) {aty : ArrayType} (w : (Jvm.Cond.arrayClass (newarray.typeOf aty)).before a0 Z = true) (Z0 : n0 ≤ h.size) (hd : decode bytes pc = .ok (.newarray aty, 2)) (hp : pc + 2 = pc') {n : Int32} {nn cap : Nat} (hn : n.toInt = (nn : Int)) (hcap : nn ≤ cap) (hbig : cap * 8 ≤ 536870912) (hc : k + 1 ≤ R.cells) (hl : q + cap ≤ R.slots)
    (r : ∀ h' a, a = h.size → n0 ≤ a → n0 ≤ h'.size → Ext h h' → own_A Z h' a (newarray.typeOf aty) nn (fun _ => defaultValue (newarray.typeOf aty)) → own_Run p l e R s m args below meth c n0 Kf h' (k + 1) (q + cap) (mkF m pc' Ls (.ref a :: rest))) : own_Run p l e R s m args below meth c n0 Kf h k q (mkF m pc Ls (.int n :: rest)) := fun T locs X eT N => by
  subst hp
  obtain ⟨p1, p2⟩ := own_nat hn
  obtain ⟨T1, h1, cA, X1, e1, E1, A1, st1⟩ := newP X C.g_x C.g_z w eT (g := mkF m pc Ls (.int n :: rest)) rfl (hb C.g_by hd) rfl p1 (cap := cap) (by rw [p2]; exact hcap) hbig hc hl
  have V : own_A Z h1 h.size (newarray.typeOf aty) nn (fun _ => defaultValue (newarray.typeOf aty)) := by
    refine ⟨by have := Int32.toInt_lt n; omega, _, A1, by rw [sz_new, p2], fun j hj => ?_⟩
    simp [newA, p2, hj]
  obtain ⟨t, o, h2, h3⟩ := r h1 h.size rfl Z0 (Nat.le_trans Z0 E1.1) E1 V T1 _ X1 e1 N
  exact ⟨t, o, st1 _ h2, h3⟩
theorem own_newAI (C : own_Ctx p s m meth c Z own nm bytes maxL ret) (w : (Jvm.Cond.arrayClass .int).before a0 Z = true) (Z0 : n0 ≤ h.size) (hd : decode bytes pc = .ok (.newarray .int, 2)) (hp : pc + 2 = pc') {n : Int32} {nn cap : Nat} (hn : n.toInt = (nn : Int)) (hcap : nn ≤ cap) (hbig : cap * 8 ≤ 536870912) (hc : k + 1 ≤ R.cells) (hl : q + cap ≤ R.slots)
    (r : ∀ h' a, a = h.size → n0 ≤ a → n0 ≤ h'.size → Ext h h' → own_AI Z h' a nn (fun _ => (0 : Int32)) → own_Run p l e R s m args below meth c n0 Kf h' (k + 1) (q + cap) (mkF m pc' Ls (.ref a :: rest))) : own_Run p l e R s m args below meth c n0 Kf h k q (mkF m pc Ls (.int n :: rest)) := own_newA C (aty := .int) w Z0 hd hp hn hcap hbig hc hl r
theorem own_stI (C : own_Ctx p s m meth c Z own nm bytes maxL ret) {a : Addr} {n : Nat} {f : Nat → Int32} (V : own_AI Z h a n f) {j : Int32} {i : Nat} {x : Int32} (hj : j.toInt = (i : Int)) (hi : i < n) (ga : n0 ≤ a) (hd : decode bytes pc = .ok (.iastore, 1)) (hp : pc + 1 = pc')
    (r : ∀ h', Wr h h' a i (.int x) → own_AI Z h' a n (own_upd f i x) → own_Run p l e R s m args below meth c n0 Kf h' k q (mkF m pc' Ls rest)) : own_Run p l e R s m args below meth c n0 Kf h k q (mkF m pc Ls (.int x :: .int j :: .ref a :: rest)) := fun T locs X eT N => by
  subst hp
  obtain ⟨p1, p2⟩ := own_nat hj
  obtain ⟨hn, cl, A, S, H⟩ := id V
  obtain ⟨T1, h1, X1, e1, W1, st1⟩ := stI X C.g_x C.g_z eT A (own_inb hj S hi) (g := mkF m pc Ls (.int x :: .int j :: .ref a :: rest)) rfl rfl (hb C.g_by hd)
  have W2 : Wr h h1 a i (.int x) := by rw [← p2]; exact W1
  obtain ⟨t, o, h2, h3⟩ := r h1 W2 ((own_A.set V W2 hi).congr fun j hj => by by_cases e : j = i <;> simp [own_upd, e]) T1 _ X1 e1 (Fr.snoc X1 N ga)
  exact ⟨t, o, st1 _ h2, h3⟩
theorem own_lenI (C : own_Ctx p s m meth c Z own nm bytes maxL ret) {a : Addr} {n : Nat} {f : Nat → Int32} (V : own_AI Z h a n f) (hd : decode bytes pc = .ok (.arraylength, 1)) (hp : pc + 1 = pc') (r : own_Run p l e R s m args below meth c n0 Kf h k q (mkF m pc' Ls (.int (Nat.toInt32 n) :: rest))) : own_Run p l e R s m args below meth c n0 Kf h k q (mkF m pc Ls (.ref a :: rest)) := by
  obtain ⟨hn, cl, A, S, H⟩ := V
  subst hp
  rw [← S] at r
  exact own_st (fun T locs X eT t kk => X.arraylength C.g_x (by rw [eT]; exact A.1) (State.isArrayOf_alike C.g_z.alike A.2.1) (g := mkF m pc Ls (.ref a :: rest)) rfl rfl (hb C.g_by hd) t kk) r
theorem own_ldI (C : own_Ctx p s m meth c Z own nm bytes maxL ret) {a : Addr} {n : Nat} {f : Nat → Int32} (V : own_AI Z h a n f) {j : Int32} {i : Nat} (hj : j.toInt = (i : Int)) (hi : i < n) (hd : decode bytes pc = .ok (.iaload, 1)) (hp : pc + 1 = pc') (r : own_Run p l e R s m args below meth c n0 Kf h k q (mkF m pc' Ls (.int (f i) :: rest))) : own_Run p l e R s m args below meth c n0 Kf h k q (mkF m pc Ls (.int j :: .ref a :: rest)) := by
  obtain ⟨p1, p2⟩ := own_nat hj
  obtain ⟨hn, cl, A, S, H⟩ := V
  subst hp
  exact own_st (fun T locs X eT t kk => X.iaload C.g_x (by rw [eT]; exact A.1) (State.isArrayOf_alike C.g_z.alike A.2.1) A.2.2 (own_inb hj S hi) (by rw [p2]; exact H i hi) (g := mkF m pc Ls (.int j :: .ref a :: rest)) rfl rfl (hb C.g_by hd) t kk) r
theorem own_ldIV (C : own_Ctx p s m meth c Z own nm bytes maxL ret) {a : Addr} {n : Nat} {f : Nat → Int32} (V : own_AI Z h a n f) {j : Int32} {i : Nat} {v : Int32} (hj : j.toInt = (i : Int)) (hi : i < n) (hv : f i = v) (hd : decode bytes pc = .ok (.iaload, 1)) (hp : pc + 1 = pc') (r : own_Run p l e R s m args below meth c n0 Kf h k q (mkF m pc' Ls (.int v :: rest))) : own_Run p l e R s m args below meth c n0 Kf h k q (mkF m pc Ls (.int j :: .ref a :: rest)) := by
  subst hv; exact own_ldI C V hj hi hd hp r
theorem own_newAB (C : own_Ctx p s m meth c Z own nm bytes maxL ret) (w : (Jvm.Cond.arrayClass .byte).before a0 Z = true) (Z0 : n0 ≤ h.size) (hd : decode bytes pc = .ok (.newarray .byte, 2)) (hp : pc + 2 = pc') {n : Int32} {nn cap : Nat} (hn : n.toInt = (nn : Int)) (hcap : nn ≤ cap) (hbig : cap * 8 ≤ 536870912) (hc : k + 1 ≤ R.cells) (hl : q + cap ≤ R.slots)
    (r : ∀ h' a, a = h.size → n0 ≤ a → n0 ≤ h'.size → Ext h h' → own_AB Z h' a nn (fun _ => (0 : Int32)) → own_Run p l e R s m args below meth c n0 Kf h' (k + 1) (q + cap) (mkF m pc' Ls (.ref a :: rest))) : own_Run p l e R s m args below meth c n0 Kf h k q (mkF m pc Ls (.int n :: rest)) := own_newA C (aty := .byte) w Z0 hd hp hn hcap hbig hc hl r
theorem own_stB (C : own_Ctx p s m meth c Z own nm bytes maxL ret) {a : Addr} {n : Nat} {f : Nat → Int32} (V : own_AB Z h a n f) {j : Int32} {i : Nat} {x : Int32} (hj : j.toInt = (i : Int)) (hi : i < n) (ga : n0 ≤ a) (hd : decode bytes pc = .ok (.bastore, 1)) (hp : pc + 1 = pc')
    (r : ∀ h', Wr h h' a i (.int (x.toInt8.toInt32)) → own_AB Z h' a n (own_upd f i (x.toInt8.toInt32)) → own_Run p l e R s m args below meth c n0 Kf h' k q (mkF m pc' Ls rest)) : own_Run p l e R s m args below meth c n0 Kf h k q (mkF m pc Ls (.int x :: .int j :: .ref a :: rest)) := fun T locs X eT N => by
  subst hp
  obtain ⟨p1, p2⟩ := own_nat hj
  obtain ⟨hn, cl, A, S, H⟩ := id V
  obtain ⟨T1, h1, X1, e1, W1, st1⟩ := stB X C.g_x C.g_z eT A (own_inb hj S hi) (g := mkF m pc Ls (.int x :: .int j :: .ref a :: rest)) rfl rfl (hb C.g_by hd)
  have W2 : Wr h h1 a i (.int (x.toInt8.toInt32)) := by rw [← p2]; exact W1
  obtain ⟨t, o, h2, h3⟩ := r h1 W2 ((own_A.set V W2 hi).congr fun j hj => by by_cases e : j = i <;> simp [own_upd, e]) T1 _ X1 e1 (Fr.snoc X1 N ga)
  exact ⟨t, o, st1 _ h2, h3⟩
theorem own_lenB (C : own_Ctx p s m meth c Z own nm bytes maxL ret) {a : Addr} {n : Nat} {f : Nat → Int32} (V : own_AB Z h a n f) (hd : decode bytes pc = .ok (.arraylength, 1)) (hp : pc + 1 = pc') (r : own_Run p l e R s m args below meth c n0 Kf h k q (mkF m pc' Ls (.int (Nat.toInt32 n) :: rest))) : own_Run p l e R s m args below meth c n0 Kf h k q (mkF m pc Ls (.ref a :: rest)) := by
  obtain ⟨hn, cl, A, S, H⟩ := V
  subst hp
  rw [← S] at r
  exact own_st (fun T locs X eT t kk => X.arraylength C.g_x (by rw [eT]; exact A.1) (State.isArrayOf_alike C.g_z.alike A.2.1) (g := mkF m pc Ls (.ref a :: rest)) rfl rfl (hb C.g_by hd) t kk) r
theorem own_ldB (C : own_Ctx p s m meth c Z own nm bytes maxL ret) {a : Addr} {n : Nat} {f : Nat → Int32} (V : own_AB Z h a n f) {j : Int32} {i : Nat} (hj : j.toInt = (i : Int)) (hi : i < n) (hd : decode bytes pc = .ok (.baload, 1)) (hp : pc + 1 = pc') (r : own_Run p l e R s m args below meth c n0 Kf h k q (mkF m pc' Ls (.int (f i) :: rest))) : own_Run p l e R s m args below meth c n0 Kf h k q (mkF m pc Ls (.int j :: .ref a :: rest)) := by
  obtain ⟨p1, p2⟩ := own_nat hj
  obtain ⟨hn, cl, A, S, H⟩ := V
  subst hp
  exact own_st (fun T locs X eT t kk => X.baloadBytes C.g_x (by rw [eT]; exact A.1) (State.isArrayOf_alike C.g_z.alike A.2.1) A.2.2 (own_inb hj S hi) (by rw [p2]; exact H i hi) (g := mkF m pc Ls (.int j :: .ref a :: rest)) rfl rfl (hb C.g_by hd) t kk) r
theorem own_ldBV (C : own_Ctx p s m meth c Z own nm bytes maxL ret) {a : Addr} {n : Nat} {f : Nat → Int32} (V : own_AB Z h a n f) {j : Int32} {i : Nat} {v : Int32} (hj : j.toInt = (i : Int)) (hi : i < n) (hv : f i = v) (hd : decode bytes pc = .ok (.baload, 1)) (hp : pc + 1 = pc') (r : own_Run p l e R s m args below meth c n0 Kf h k q (mkF m pc' Ls (.int v :: rest))) : own_Run p l e R s m args below meth c n0 Kf h k q (mkF m pc Ls (.int j :: .ref a :: rest)) := by
  subst hv; exact own_ldB C V hj hi hd hp r
theorem own_newAZ (C : own_Ctx p s m meth c Z own nm bytes maxL ret) (w : (Jvm.Cond.arrayClass .boolean).before a0 Z = true) (Z0 : n0 ≤ h.size) (hd : decode bytes pc = .ok (.newarray .boolean, 2)) (hp : pc + 2 = pc') {n : Int32} {nn cap : Nat} (hn : n.toInt = (nn : Int)) (hcap : nn ≤ cap) (hbig : cap * 8 ≤ 536870912) (hc : k + 1 ≤ R.cells) (hl : q + cap ≤ R.slots)
    (r : ∀ h' a, a = h.size → n0 ≤ a → n0 ≤ h'.size → Ext h h' → own_AZ Z h' a nn (fun _ => (0 : Int32)) → own_Run p l e R s m args below meth c n0 Kf h' (k + 1) (q + cap) (mkF m pc' Ls (.ref a :: rest))) : own_Run p l e R s m args below meth c n0 Kf h k q (mkF m pc Ls (.int n :: rest)) := own_newA C (aty := .boolean) w Z0 hd hp hn hcap hbig hc hl r
theorem own_stZ (C : own_Ctx p s m meth c Z own nm bytes maxL ret) {a : Addr} {n : Nat} {f : Nat → Int32} (V : own_AZ Z h a n f) {j : Int32} {i : Nat} {x : Int32} (hj : j.toInt = (i : Int)) (hi : i < n) (ga : n0 ≤ a) (hd : decode bytes pc = .ok (.bastore, 1)) (hp : pc + 1 = pc')
    (r : ∀ h', Wr h h' a i (.int (x &&& 1)) → own_AZ Z h' a n (own_upd f i (x &&& 1)) → own_Run p l e R s m args below meth c n0 Kf h' k q (mkF m pc' Ls rest)) : own_Run p l e R s m args below meth c n0 Kf h k q (mkF m pc Ls (.int x :: .int j :: .ref a :: rest)) := fun T locs X eT N => by
  subst hp
  obtain ⟨p1, p2⟩ := own_nat hj
  obtain ⟨hn, cl, A, S, H⟩ := id V
  obtain ⟨T1, h1, X1, e1, W1, st1⟩ := stZ X C.g_x C.g_z eT A (own_inb hj S hi) (g := mkF m pc Ls (.int x :: .int j :: .ref a :: rest)) rfl rfl (hb C.g_by hd)
  have W2 : Wr h h1 a i (.int (x &&& 1)) := by rw [← p2]; exact W1
  obtain ⟨t, o, h2, h3⟩ := r h1 W2 ((own_A.set V W2 hi).congr fun j hj => by by_cases e : j = i <;> simp [own_upd, e]) T1 _ X1 e1 (Fr.snoc X1 N ga)
  exact ⟨t, o, st1 _ h2, h3⟩
theorem own_lenZ (C : own_Ctx p s m meth c Z own nm bytes maxL ret) {a : Addr} {n : Nat} {f : Nat → Int32} (V : own_AZ Z h a n f) (hd : decode bytes pc = .ok (.arraylength, 1)) (hp : pc + 1 = pc') (r : own_Run p l e R s m args below meth c n0 Kf h k q (mkF m pc' Ls (.int (Nat.toInt32 n) :: rest))) : own_Run p l e R s m args below meth c n0 Kf h k q (mkF m pc Ls (.ref a :: rest)) := by
  obtain ⟨hn, cl, A, S, H⟩ := V
  subst hp
  rw [← S] at r
  exact own_st (fun T locs X eT t kk => X.arraylength C.g_x (by rw [eT]; exact A.1) (State.isArrayOf_alike C.g_z.alike A.2.1) (g := mkF m pc Ls (.ref a :: rest)) rfl rfl (hb C.g_by hd) t kk) r
theorem own_newAJ (C : own_Ctx p s m meth c Z own nm bytes maxL ret) (w : (Jvm.Cond.arrayClass .long).before a0 Z = true) (Z0 : n0 ≤ h.size) (hd : decode bytes pc = .ok (.newarray .long, 2)) (hp : pc + 2 = pc') {n : Int32} {nn cap : Nat} (hn : n.toInt = (nn : Int)) (hcap : nn ≤ cap) (hbig : cap * 8 ≤ 536870912) (hc : k + 1 ≤ R.cells) (hl : q + cap ≤ R.slots)
    (r : ∀ h' a, a = h.size → n0 ≤ a → n0 ≤ h'.size → Ext h h' → own_AJ Z h' a nn (fun _ => (0 : Int64)) → own_Run p l e R s m args below meth c n0 Kf h' (k + 1) (q + cap) (mkF m pc' Ls (.ref a :: rest))) : own_Run p l e R s m args below meth c n0 Kf h k q (mkF m pc Ls (.int n :: rest)) := own_newA C (aty := .long) w Z0 hd hp hn hcap hbig hc hl r
theorem own_stJ (C : own_Ctx p s m meth c Z own nm bytes maxL ret) {a : Addr} {n : Nat} {f : Nat → Int64} (V : own_AJ Z h a n f) {j : Int32} {i : Nat} {x : Int64} (hj : j.toInt = (i : Int)) (hi : i < n) (ga : n0 ≤ a) (hd : decode bytes pc = .ok (.lastore, 1)) (hp : pc + 1 = pc')
    (r : ∀ h', Wr h h' a i (.long x) → own_AJ Z h' a n (own_upd f i x) → own_Run p l e R s m args below meth c n0 Kf h' k q (mkF m pc' Ls rest)) : own_Run p l e R s m args below meth c n0 Kf h k q (mkF m pc Ls (.long x :: .int j :: .ref a :: rest)) := fun T locs X eT N => by
  subst hp
  obtain ⟨p1, p2⟩ := own_nat hj
  obtain ⟨hn, cl, A, S, H⟩ := id V
  obtain ⟨T1, h1, X1, e1, W1, st1⟩ := stJ X C.g_x C.g_z eT A (own_inb hj S hi) (g := mkF m pc Ls (.long x :: .int j :: .ref a :: rest)) rfl rfl (hb C.g_by hd)
  have W2 : Wr h h1 a i (.long x) := by rw [← p2]; exact W1
  obtain ⟨t, o, h2, h3⟩ := r h1 W2 ((own_A.set V W2 hi).congr fun j hj => by by_cases e : j = i <;> simp [own_upd, e]) T1 _ X1 e1 (Fr.snoc X1 N ga)
  exact ⟨t, o, st1 _ h2, h3⟩
theorem own_lenJ (C : own_Ctx p s m meth c Z own nm bytes maxL ret) {a : Addr} {n : Nat} {f : Nat → Int64} (V : own_AJ Z h a n f) (hd : decode bytes pc = .ok (.arraylength, 1)) (hp : pc + 1 = pc') (r : own_Run p l e R s m args below meth c n0 Kf h k q (mkF m pc' Ls (.int (Nat.toInt32 n) :: rest))) : own_Run p l e R s m args below meth c n0 Kf h k q (mkF m pc Ls (.ref a :: rest)) := by
  obtain ⟨hn, cl, A, S, H⟩ := V
  subst hp
  rw [← S] at r
  exact own_st (fun T locs X eT t kk => X.arraylength C.g_x (by rw [eT]; exact A.1) (State.isArrayOf_alike C.g_z.alike A.2.1) (g := mkF m pc Ls (.ref a :: rest)) rfl rfl (hb C.g_by hd) t kk) r
end Own

def own_cmp (a b : Int64) : Int32 := if a < b then (-1 : Int32) else if a = b then (0 : Int32) else (1 : Int32)
theorem own_cmp_lt {a b : Int64} (h : a < b) : own_cmp a b = -1 := if_pos h
theorem own_cmp_eq {a b : Int64} (h : a = b) : own_cmp a b = 0 := by subst h; unfold own_cmp; rw [if_neg Int64.lt_irrefl, if_pos rfl]
theorem own_cmp_gt {a b : Int64} (h : b < a) : own_cmp a b = 1 := by unfold own_cmp; rw [if_neg (Int64.not_lt.mpr (Int64.le_of_lt h)), if_neg (fun e => by subst e; exact Int64.lt_irrefl h)]
theorem own_gt {a b : Int64} (h1 : ¬ a < b) (h2 : ¬ a = b) : b < a := by rw [Int64.lt_iff_toInt_lt] at *; rw [← Int64.toInt_inj] at h2; omega
theorem own_eq {a b : Int64} (h1 : ¬ a < b) (h2 : ¬ b < a) : a = b := by rw [Int64.lt_iff_toInt_lt] at *; rw [← Int64.toInt_inj]; omega
theorem own_cmp_pos {a b : Int64} : 0 < own_cmp a b ↔ b < a := by
  by_cases h1 : a < b
  · rw [own_cmp_lt h1]; rw [Int64.lt_iff_toInt_lt] at *; exact ⟨fun h => absurd h (by decide), fun h => by omega⟩
  · by_cases h2 : a = b
    · rw [own_cmp_eq h2]; subst h2; exact ⟨fun h => absurd h (by decide), fun h => absurd h h1⟩
    · have h3 := own_gt h1 h2
      rw [own_cmp_gt h3]; exact ⟨fun _ => h3, fun _ => by decide⟩
def own_u (x : Int64) : Nat := x.toBitVec.toNat
theorem own_u_lt (x : Int64) : own_u x < 18446744073709551616 := x.toBitVec.isLt
theorem own_i (x : Int64) : x.toInt = if own_u x < 9223372036854775808 then (own_u x : Int) else (own_u x : Int) - 18446744073709551616 := by
  show x.toBitVec.toInt = _
  rw [BitVec.toInt_eq_toNat_cond]
  show (if 2 * own_u x < 2 ^ 64 then (own_u x : Int) else (own_u x : Int) - ((2 ^ 64 : Nat) : Int)) = _
  split <;> split <;> omega
theorem own_pm (x : Int64) : (x + (-9223372036854775808 : Int64)).toInt = (own_u x : Int) - 9223372036854775808 := by
  have hl := own_u_lt x
  rw [Int64.toInt_add, own_i x, show (-9223372036854775808 : Int64).toInt = -9223372036854775808 from rfl]
  simp only [Int.bmod]
  split <;> split <;> omega
theorem own_xm (x : Int64) : (x ^^^ (-9223372036854775808 : Int64)).toInt = (own_u x : Int) - 9223372036854775808 := by
  have hl := own_u_lt x
  have hl2 := own_u_lt (x ^^^ (-9223372036854775808 : Int64))
  have e : own_u (x ^^^ (-9223372036854775808 : Int64)) = own_u x ^^^ 2 ^ 63 := by
    show (x.toBitVec ^^^ _).toNat = _
    rw [BitVec.toNat_xor]; rfl
  have e1 : (own_u x ^^^ 2 ^ 63) % 2 ^ 63 = own_u x % 2 ^ 63 := by rw [Nat.xor_mod_two_pow, Nat.mod_self, Nat.xor_zero]
  have e2 : (own_u x ^^^ 2 ^ 63) / 2 ^ 63 = (own_u x / 2 ^ 63) ^^^ 1 := by rw [Nat.xor_div_two_pow]
  rw [own_i, e]
  rw [e] at hl2
  generalize own_u x ^^^ 2 ^ 63 = v at *
  generalize own_u x = u at *
  have hu : u / 2 ^ 63 = 0 ∨ u / 2 ^ 63 = 1 := by omega
  rcases hu with hu | hu
  · rw [hu] at e2
    have : v / 2 ^ 63 = 1 := e2
    split <;> omega
  · rw [hu] at e2
    have : v / 2 ^ 63 = 0 := e2
    split <;> omega
theorem own_ltP (x y : Int64) : (x + (-9223372036854775808 : Int64)) < (y + (-9223372036854775808 : Int64)) ↔ own_u x < own_u y := by rw [Int64.lt_iff_toInt_lt, own_pm, own_pm]; omega
theorem own_ltX (x y : Int64) : (x ^^^ (-9223372036854775808 : Int64)) < (y ^^^ (-9223372036854775808 : Int64)) ↔ own_u x < own_u y := by rw [Int64.lt_iff_toInt_lt, own_xm, own_xm]; omega
theorem own_sub (x y : Int64) : own_u (x - y) = (18446744073709551616 - own_u y + own_u x) % 18446744073709551616 := by
  show (x.toBitVec - y.toBitVec).toNat = _
  rw [BitVec.toNat_sub]; rfl
def own_in (lo hi x : Int64) : Int32 := if 0 < (own_cmp (lo + (-9223372036854775808 : Int64)) (x + (-9223372036854775808 : Int64))) then (0 : Int32) else if 0 < (own_cmp (x + (-9223372036854775808 : Int64)) (hi + (-9223372036854775808 : Int64))) then (0 : Int32) else (1 : Int32)
theorem own_o1 {a b : Int64} (h : ¬ (b ^^^ (-9223372036854775808 : Int64)) < (a ^^^ (-9223372036854775808 : Int64))) : ¬ 0 < (own_cmp (a + (-9223372036854775808 : Int64)) (b + (-9223372036854775808 : Int64))) := by rw [own_cmp_pos, own_ltP]; rw [own_ltX] at h; exact h
theorem own_o2 {a b : Int64} (h : (b ^^^ (-9223372036854775808 : Int64)) < (a ^^^ (-9223372036854775808 : Int64))) : ¬ 0 < (own_cmp (b + (-9223372036854775808 : Int64)) (a + (-9223372036854775808 : Int64))) := by rw [own_cmp_pos, own_ltP]; rw [own_ltX] at h; omega
theorem own_k1 {lo hi x : Int64} (h0 : ¬ 0 < (own_cmp (lo + (-9223372036854775808 : Int64)) (hi + (-9223372036854775808 : Int64)))) (h : ¬ ((hi - lo) ^^^ (-9223372036854775808 : Int64)) < ((x - lo) ^^^ (-9223372036854775808 : Int64))) : own_in lo hi x = 1 := by
  rw [own_cmp_pos, own_ltP] at h0
  rw [own_ltX, own_sub, own_sub] at h
  have h1 := own_u_lt lo; have h2 := own_u_lt hi; have h3 := own_u_lt x
  unfold own_in
  rw [if_neg (by rw [own_cmp_pos, own_ltP]; omega), if_neg (by rw [own_cmp_pos, own_ltP]; omega)]
theorem own_k0 {lo hi x : Int64} (h0 : ¬ 0 < (own_cmp (lo + (-9223372036854775808 : Int64)) (hi + (-9223372036854775808 : Int64)))) (h : ((hi - lo) ^^^ (-9223372036854775808 : Int64)) < ((x - lo) ^^^ (-9223372036854775808 : Int64))) : own_in lo hi x = 0 := by
  rw [own_cmp_pos, own_ltP] at h0
  rw [own_ltX, own_sub, own_sub] at h
  have h1 := own_u_lt lo; have h2 := own_u_lt hi; have h3 := own_u_lt x
  unfold own_in
  by_cases c : own_u x < own_u lo
  · rw [if_pos (by rw [own_cmp_pos, own_ltP]; exact c)]
  · rw [if_neg (by rw [own_cmp_pos, own_ltP]; exact c), if_pos (by rw [own_cmp_pos, own_ltP]; omega)]

theorem own_d1_0 : decode prog_18_method_1_code 0 = .ok (.aload_n 0, 1) := by decide +kernel
theorem own_d1_1 : decode prog_18_method_1_code 1 = .ok (.invokespecial 1, 3) := by decide +kernel
theorem own_d1_4 : decode prog_18_method_1_code 4 = .ok (.lload_n 1, 1) := by decide +kernel
theorem own_d1_5 : decode prog_18_method_1_code 5 = .ok (.lload_n 3, 1) := by decide +kernel
theorem own_d1_6 : decode prog_18_method_1_code 6 = .ok (.invokestatic 7, 3) := by decide +kernel
theorem own_d1_9 : decode prog_18_method_1_code 9 = .ok (.ifCond .le 24, 3) := by decide +kernel
theorem own_d1_33 : decode prog_18_method_1_code 33 = .ok (.aload_n 0, 1) := by decide +kernel
theorem own_d1_34 : decode prog_18_method_1_code 34 = .ok (.lload_n 1, 1) := by decide +kernel
theorem own_d1_35 : decode prog_18_method_1_code 35 = .ok (.putfield 28, 3) := by decide +kernel
theorem own_d1_38 : decode prog_18_method_1_code 38 = .ok (.aload_n 0, 1) := by decide +kernel
theorem own_d1_39 : decode prog_18_method_1_code 39 = .ok (.lload_n 3, 1) := by decide +kernel
theorem own_d1_40 : decode prog_18_method_1_code 40 = .ok (.putfield 32, 3) := by decide +kernel
theorem own_d1_43 : decode prog_18_method_1_code 43 = .ok (.return_, 1) := by decide +kernel
theorem own_d2_0 : decode jdk_30_method_1_code 0 = .ok (.aload_n 0, 1) := by decide +kernel
theorem own_d2_1 : decode jdk_30_method_1_code 1 = .ok (.invokespecial 1, 3) := by decide +kernel
theorem own_d2_4 : decode jdk_30_method_1_code 4 = .ok (.return_, 1) := by decide +kernel
theorem own_d4_0 : decode jdk_35_method_43_code 0 = .ok (.lload_n 0, 1) := by decide +kernel
theorem own_d4_1 : decode jdk_35_method_43_code 1 = .ok (.ldc2_w 168, 3) := by decide +kernel
theorem own_d4_4 : decode jdk_35_method_43_code 4 = .ok (.ladd, 1) := by decide +kernel
theorem own_d4_5 : decode jdk_35_method_43_code 5 = .ok (.lload_n 2, 1) := by decide +kernel
theorem own_d4_6 : decode jdk_35_method_43_code 6 = .ok (.ldc2_w 168, 3) := by decide +kernel
theorem own_d4_9 : decode jdk_35_method_43_code 9 = .ok (.ladd, 1) := by decide +kernel
theorem own_d4_10 : decode jdk_35_method_43_code 10 = .ok (.invokestatic 302, 3) := by decide +kernel
theorem own_d4_13 : decode jdk_35_method_43_code 13 = .ok (.ireturn, 1) := by decide +kernel
theorem own_d5_0 : decode jdk_35_method_42_code 0 = .ok (.lload_n 0, 1) := by decide +kernel
theorem own_d5_1 : decode jdk_35_method_42_code 1 = .ok (.lload_n 2, 1) := by decide +kernel
theorem own_d5_2 : decode jdk_35_method_42_code 2 = .ok (.lcmp, 1) := by decide +kernel
theorem own_d5_3 : decode jdk_35_method_42_code 3 = .ok (.ifCond .ge 7, 3) := by decide +kernel
theorem own_d5_6 : decode jdk_35_method_42_code 6 = .ok (.iconst (-1), 1) := by decide +kernel
theorem own_d5_7 : decode jdk_35_method_42_code 7 = .ok (.goto 14, 3) := by decide +kernel
theorem own_d5_10 : decode jdk_35_method_42_code 10 = .ok (.lload_n 0, 1) := by decide +kernel
theorem own_d5_11 : decode jdk_35_method_42_code 11 = .ok (.lload_n 2, 1) := by decide +kernel
theorem own_d5_12 : decode jdk_35_method_42_code 12 = .ok (.lcmp, 1) := by decide +kernel
theorem own_d5_13 : decode jdk_35_method_42_code 13 = .ok (.ifCond .ne 7, 3) := by decide +kernel
theorem own_d5_16 : decode jdk_35_method_42_code 16 = .ok (.iconst 0, 1) := by decide +kernel
theorem own_d5_17 : decode jdk_35_method_42_code 17 = .ok (.goto 4, 3) := by decide +kernel
theorem own_d5_20 : decode jdk_35_method_42_code 20 = .ok (.iconst 1, 1) := by decide +kernel
theorem own_d5_21 : decode jdk_35_method_42_code 21 = .ok (.ireturn, 1) := by decide +kernel
theorem own_d6_0 : decode prog_18_method_5_code 0 = .ok (.aload_n 0, 1) := by decide +kernel
theorem own_d6_1 : decode prog_18_method_5_code 1 = .ok (.getfield 28, 3) := by decide +kernel
theorem own_d6_4 : decode prog_18_method_5_code 4 = .ok (.lload_n 1, 1) := by decide +kernel
theorem own_d6_5 : decode prog_18_method_5_code 5 = .ok (.invokestatic 7, 3) := by decide +kernel
theorem own_d6_8 : decode prog_18_method_5_code 8 = .ok (.ifCond .gt 18, 3) := by decide +kernel
theorem own_d6_11 : decode prog_18_method_5_code 11 = .ok (.lload_n 1, 1) := by decide +kernel
theorem own_d6_12 : decode prog_18_method_5_code 12 = .ok (.aload_n 0, 1) := by decide +kernel
theorem own_d6_13 : decode prog_18_method_5_code 13 = .ok (.getfield 32, 3) := by decide +kernel
theorem own_d6_16 : decode prog_18_method_5_code 16 = .ok (.invokestatic 7, 3) := by decide +kernel
theorem own_d6_19 : decode prog_18_method_5_code 19 = .ok (.ifCond .gt 7, 3) := by decide +kernel
theorem own_d6_22 : decode prog_18_method_5_code 22 = .ok (.iconst 1, 1) := by decide +kernel
theorem own_d6_23 : decode prog_18_method_5_code 23 = .ok (.goto 4, 3) := by decide +kernel
theorem own_d6_26 : decode prog_18_method_5_code 26 = .ok (.iconst 0, 1) := by decide +kernel
theorem own_d6_27 : decode prog_18_method_5_code 27 = .ok (.ireturn, 1) := by decide +kernel
theorem own_pn0 : plainName "java/lang/Record" = true := by first | (simp [plainName, overriddenIn]; done) | decide +kernel
theorem own_pn1 : plainName "java/lang/Long" = true := by first | (simp [plainName, overriddenIn]; done) | decide +kernel
theorem own_pn2 : plainName "com/example/moirai/moirai/placement/HashRange" = true := by first | (simp [plainName, overriddenIn]; done) | decide +kernel
theorem own_pn3 : plainName "com/example/moirai/moirai/placement/HashRangeContainsPinLaw" = true := by first | (simp [plainName, overriddenIn]; done) | decide +kernel
theorem own_pd0 : parseMethodDescriptor "(JJ)I" = some ⟨[.long, .long], some .int⟩ := by decide +kernel
theorem own_pd1 : parseMethodDescriptor "()V" = some ⟨[], none⟩ := by decide +kernel
theorem own_pd2 : parseMethodDescriptor "(JJ)V" = some ⟨[.long, .long], none⟩ := by decide +kernel
theorem own_pd3 : parseMethodDescriptor "(J)Z" = some ⟨[.long], some .boolean⟩ := by decide +kernel
set_option maxRecDepth 65536 in
set_option maxHeartbeats 40000000 in
theorem own_m2 {l : Launch} {Z : State} {a0 : Array Value} (hw : ∀ d ∈ tables_1, d.before a0 Z = true) {n0 : Nat} {ws : List Jvm.Cond} {h : Heap} (a : Addr) (Z0 : n0 ≤ h.size) :
    own_Met l Z n0 (⟨"java/lang/Record", "<init>", "()V"⟩ : MethodName) jdk_30_method_1_code 1 none ({ frames := 1, cells := 0, slots := 0, locals := 12 } : Room) ws #[(.ref a)] h (fun v h' => (v = none) ∧ (h = h')) := by
  refine own_met own_pn0 #[.val (.ref a)] (fun m => by first | (simp [entryFrame, mkF, argsToLocals, Value.category]; done) | rfl) ?_
  intro p_ e_ s_ m_ b_ mt_ c_ C
  replace C : own_Ctx p_ s_ m_ mt_ c_ Z "java/lang/Record" "<init>" jdk_30_method_1_code 1 none := C
  refine own_aloadN C (pc' := 1) own_d2_0 rfl rfl rfl ?_
  refine own_initO C (pc' := 4) (W := 0) (hw _ (List.mem_of_getElem? (i := 12) rfl)) (hw _ (List.mem_of_getElem? (i := 13) rfl)) (hw _ (List.mem_of_getElem? (i := 14) rfl)) own_d2_1 rfl rfl (by decide) (Nat.le_of_eq rfl) (by decide) ?_
  exact own_retV C rfl own_d2_4 (by decide) (by decide) (⟨rfl, rfl⟩)
set_option maxRecDepth 65536 in
set_option maxHeartbeats 40000000 in
theorem own_m5 {l : Launch} {Z : State} {a0 : Array Value} (hw : ∀ d ∈ tables_1, d.before a0 Z = true) {n0 : Nat} {ws : List Jvm.Cond} {h : Heap} (x : Int64) (y : Int64) :
    own_Met l Z n0 (⟨"java/lang/Long", "compare", "(JJ)I"⟩ : MethodName) jdk_35_method_42_code 4 (some .int) ({ frames := 0, cells := 0, slots := 0, locals := 0 } : Room) ws #[(.long x), (.long y)] h (fun v h' => (v = some (.int (own_cmp x y))) ∧ (h = h')) := by
  refine own_met own_pn1 #[.val (.long x), .second, .val (.long y), .second] (fun m => by first | (simp [entryFrame, mkF, argsToLocals, Value.category]; done) | rfl) ?_
  intro p_ e_ s_ m_ b_ mt_ c_ C
  replace C : own_Ctx p_ s_ m_ mt_ c_ Z "java/lang/Long" "compare" jdk_35_method_42_code 4 (some .int) := C
  refine own_lloadN C (pc' := 1) own_d5_0 rfl rfl ?_
  refine own_lloadN C (pc' := 2) own_d5_1 rfl rfl ?_
  refine own_lcmp C (pc' := 3) own_d5_2 rfl ?_
  refine own_ll_ge C (pc1 := 10) (pc2 := 6) own_d5_3 rfl rfl (fun c1 => ?_) (fun c1 => ?_)
  · skip
    refine own_lloadN C (pc' := 11) own_d5_10 rfl rfl ?_
    refine own_lloadN C (pc' := 12) own_d5_11 rfl rfl ?_
    refine own_lcmp C (pc' := 13) own_d5_12 rfl ?_
    refine own_ll_ne C (pc1 := 20) (pc2 := 16) own_d5_13 rfl rfl (fun c2 => ?_) (fun c2 => ?_)
    · skip
      refine own_iconst C (pc' := 21) (v := (1 : Int32)) own_d5_20 rfl (by decide) ?_
      exact own_ret C (t := .int) rfl rfl (Or.inl ⟨rfl, by simp, _, rfl⟩) own_d5_21 (by decide) (by decide) (⟨by unfold own_cmp; rw [if_neg c1, if_neg c2], rfl⟩)
    · skip
      refine own_iconst C (pc' := 17) (v := (0 : Int32)) own_d5_16 rfl (by decide) ?_
      refine own_goto C (pc' := 21) own_d5_17 rfl ?_
      exact own_ret C (t := .int) rfl rfl (Or.inl ⟨rfl, by simp, _, rfl⟩) own_d5_21 (by decide) (by decide) (⟨by unfold own_cmp; rw [if_neg c1, if_pos c2], rfl⟩)
  · skip
    refine own_iconst C (pc' := 7) (v := (-1 : Int32)) own_d5_6 rfl (by decide) ?_
    refine own_goto C (pc' := 21) own_d5_7 rfl ?_
    exact own_ret C (t := .int) rfl rfl (Or.inl ⟨rfl, by simp, _, rfl⟩) own_d5_21 (by decide) (by decide) (⟨by unfold own_cmp; rw [if_pos c1], rfl⟩)
set_option maxRecDepth 65536 in
set_option maxHeartbeats 40000000 in
theorem own_m4 {l : Launch} {Z : State} {a0 : Array Value} (hw : ∀ d ∈ tables_1, d.before a0 Z = true) {n0 : Nat} {ws : List Jvm.Cond} {h : Heap} (x : Int64) (y : Int64) :
    own_Met l Z n0 (⟨"java/lang/Long", "compareUnsigned", "(JJ)I"⟩ : MethodName) jdk_35_method_43_code 4 (some .int) ({ frames := 1, cells := 0, slots := 0, locals := 15 } : Room) ws #[(.long x), (.long y)] h (fun v h' => (v = some (.int (own_cmp (x + (-9223372036854775808 : Int64)) (y + (-9223372036854775808 : Int64))))) ∧ (h = h')) := by
  refine own_met own_pn1 #[.val (.long x), .second, .val (.long y), .second] (fun m => by first | (simp [entryFrame, mkF, argsToLocals, Value.category]; done) | rfl) ?_
  intro p_ e_ s_ m_ b_ mt_ c_ C
  replace C : own_Ctx p_ s_ m_ mt_ c_ Z "java/lang/Long" "compareUnsigned" jdk_35_method_43_code 4 (some .int) := C
  refine own_lloadN C (pc' := 1) own_d4_0 rfl rfl ?_
  refine own_ldc2 C (pc' := 4) (v := (-9223372036854775808 : Int64)) own_d4_1 rfl (hw _ (List.mem_of_getElem? (i := 19) rfl)) ?_
  refine own_ladd C (pc' := 5) own_d4_4 rfl ?_
  refine own_lloadN C (pc' := 6) own_d4_5 rfl rfl ?_
  refine own_ldc2 C (pc' := 9) (v := (-9223372036854775808 : Int64)) own_d4_6 rfl (hw _ (List.mem_of_getElem? (i := 19) rfl)) ?_
  refine own_ladd C (pc' := 10) own_d4_9 rfl ?_
  refine own_callS C (pc' := 13) (y := (⟨"java/lang/Long", "compare", "(JJ)I"⟩ : MethodName)) (argsL := [(.long (x + (-9223372036854775808 : Int64))), (.long (y + (-9223372036854775808 : Int64)))]) (rest := []) 0 (hw _ (List.mem_of_getElem? (i := 20) rfl)) (hw _ (List.mem_of_getElem? (i := 21) rfl)) (hw _ (List.mem_of_getElem? (i := 17) rfl)) (hw _ (List.mem_of_getElem? (i := 22) rfl)) (by decide) (own_m5 hw (x + (-9223372036854775808 : Int64)) (y + (-9223372036854775808 : Int64))   ) (by decide) (by decide) (lenOf own_pd0 rfl) rfl (Nat.le_of_eq rfl) own_d4_10 rfl rfl (by decide) (by decide) (fun v3 h4 hq5 => ?_)
  obtain ⟨rfl, rfl⟩ := hq5
  show own_Run p_ l e_ _ s_ m_ _ b_ mt_ c_ n0 _ h _ _ (mkF m_ 13 #[.val (.long x), .second, .val (.long y), .second] [(.int (own_cmp (x + (-9223372036854775808 : Int64)) (y + (-9223372036854775808 : Int64))))])
  exact own_ret C (t := .int) rfl rfl (Or.inl ⟨rfl, by simp, _, rfl⟩) own_d4_13 (by decide) (by decide) (⟨rfl, rfl⟩)
set_option maxRecDepth 65536 in
set_option maxHeartbeats 40000000 in
theorem own_m1 {l : Launch} {Z : State} {a0 : Array Value} (hw : ∀ d ∈ tables_1, d.before a0 Z = true) {n0 : Nat} {ws : List Jvm.Cond} {h : Heap} (a : Addr) (p0 : Int64) (p1 : Int64) (Z0 : n0 ≤ h.size) (f0 : Exa Z h a "com/example/moirai/moirai/placement/HashRange") (f1 : n0 ≤ a) (f2 : Fld Z h a "com/example/moirai/moirai/placement/HashRange" "minInclusive" "J" (.long (0 : Int64))) (f3 : Fld Z h a "com/example/moirai/moirai/placement/HashRange" "maxInclusive" "J" (.long (0 : Int64))) (hle : ¬ 0 < (own_cmp (p0 + (-9223372036854775808 : Int64)) (p1 + (-9223372036854775808 : Int64)))) :
    own_Met l Z n0 (⟨"com/example/moirai/moirai/placement/HashRange", "<init>", "(JJ)V"⟩ : MethodName) prog_18_method_1_code 5 none ({ frames := 2, cells := 0, slots := 0, locals := 30 } : Room) ws #[(.ref a), (.long p0), (.long p1)] h (fun v h' => (v = none) ∧ (Keep h h' [a]) ∧ (Exa Z h' a "com/example/moirai/moirai/placement/HashRange") ∧ (Fld Z h' a "com/example/moirai/moirai/placement/HashRange" "minInclusive" "J" (.long p0)) ∧ (Fld Z h' a "com/example/moirai/moirai/placement/HashRange" "maxInclusive" "J" (.long p1))) := by
  refine own_met own_pn2 #[.val (.ref a), .val (.long p0), .second, .val (.long p1), .second] (fun m => by first | (simp [entryFrame, mkF, argsToLocals, Value.category]; done) | rfl) ?_
  intro p_ e_ s_ m_ b_ mt_ c_ C
  replace C : own_Ctx p_ s_ m_ mt_ c_ Z "com/example/moirai/moirai/placement/HashRange" "<init>" prog_18_method_1_code 5 none := C
  have K0 : Keep h h [a] := Keep.refl _ _
  refine own_aloadN C (pc' := 1) own_d1_0 rfl rfl rfl ?_
  refine own_callN C (pc' := 4) (y := (⟨"java/lang/Record", "<init>", "()V"⟩ : MethodName)) (a := a) (argsL := []) (rest := []) 0 rfl (hw _ (List.mem_of_getElem? (i := 7) rfl)) (hw _ (List.mem_of_getElem? (i := 8) rfl)) (hw _ (List.mem_of_getElem? (i := 11) rfl)) (hw _ (List.mem_of_getElem? (i := 10) rfl)) (by decide) (own_m2 hw a Z0  ) (by decide) (by decide) (lenOf own_pd1 rfl) rfl (Nat.le_of_eq rfl) own_d1_1 rfl rfl (by decide) (by decide) (fun v6 h7 hq8 => ?_)
  obtain ⟨rfl, rfl⟩ := hq8
  show own_Run p_ l e_ _ s_ m_ _ b_ mt_ c_ n0 _ h _ _ (mkF m_ 4 #[.val (.ref a), .val (.long p0), .second, .val (.long p1), .second] [])
  refine own_lloadN C (pc' := 5) own_d1_4 rfl rfl ?_
  refine own_lloadN C (pc' := 6) own_d1_5 rfl rfl ?_
  refine own_callS C (pc' := 9) (y := (⟨"java/lang/Long", "compareUnsigned", "(JJ)I"⟩ : MethodName)) (argsL := [(.long p0), (.long p1)]) (rest := []) 0 (hw _ (List.mem_of_getElem? (i := 15) rfl)) (hw _ (List.mem_of_getElem? (i := 16) rfl)) (hw _ (List.mem_of_getElem? (i := 17) rfl)) (hw _ (List.mem_of_getElem? (i := 18) rfl)) (by decide) (own_m4 hw p0 p1   ) (by decide) (by decide) (lenOf own_pd0 rfl) rfl (Nat.le_of_eq rfl) own_d1_6 rfl rfl (by decide) (by decide) (fun v9 h10 hq11 => ?_)
  obtain ⟨rfl, rfl⟩ := hq11
  show own_Run p_ l e_ _ s_ m_ _ b_ mt_ c_ n0 _ h _ _ (mkF m_ 9 #[.val (.ref a), .val (.long p0), .second, .val (.long p1), .second] [(.int (own_cmp (p0 + (-9223372036854775808 : Int64)) (p1 + (-9223372036854775808 : Int64))))])
  refine own_i0_le C (pc1 := 33) (pc2 := 12) own_d1_9 rfl rfl (fun c12 => ?_) (fun c12 => absurd c12 hle)
  refine own_aloadN C (pc' := 34) own_d1_33 rfl rfl rfl ?_
  refine own_lloadN C (pc' := 35) own_d1_34 rfl rfl ?_
  refine own_putF C (pc' := 38) (hw _ (List.mem_of_getElem? (i := 23) rfl)) f2 f0 (Or.inr ⟨(hw _ (List.mem_of_getElem? (i := 24) rfl)), rfl, rfl⟩) (hw _ (List.mem_of_getElem? (i := 2) rfl)) (ty := .long) (by decide) rfl rfl f1 own_d1_35 rfl (fun h13 W14 => ?_)
  have Z15 : n0 ≤ h13.size := Nat.le_trans Z0 (Nat.le_of_eq (Wr.size W14).symm)
  have K16 := Keep.wr K0 W14 (Or.inl (List.mem_of_getElem? (i := 0) rfl))
  have F17 : Exa Z h13 a "com/example/moirai/moirai/placement/HashRange" := Exa.wr W14 f0
  have F18 : Fld Z h13 a "com/example/moirai/moirai/placement/HashRange" "minInclusive" "J" (.long p0) := Fld.same W14 f2
  have F19 : Fld Z h13 a "com/example/moirai/moirai/placement/HashRange" "maxInclusive" "J" (.long (0 : Int64)) := Fld.other W14 f3 (Or.inr (slot_ne (Or.inr (hw _ (List.mem_of_getElem? (i := 26) rfl))) (Or.inr (hw _ (List.mem_of_getElem? (i := 24) rfl))) (by decide) (t := .long) (t' := .long) (by decide) (by decide)))
  refine own_aloadN C (pc' := 39) own_d1_38 rfl rfl rfl ?_
  refine own_lloadN C (pc' := 40) own_d1_39 rfl rfl ?_
  refine own_putF C (pc' := 43) (hw _ (List.mem_of_getElem? (i := 25) rfl)) F19 F17 (Or.inr ⟨(hw _ (List.mem_of_getElem? (i := 26) rfl)), rfl, rfl⟩) (hw _ (List.mem_of_getElem? (i := 2) rfl)) (ty := .long) (by decide) rfl rfl f1 own_d1_40 rfl (fun h20 W21 => ?_)
  have Z22 : n0 ≤ h20.size := Nat.le_trans Z15 (Nat.le_of_eq (Wr.size W21).symm)
  have K23 := Keep.wr K16 W21 (Or.inl (List.mem_of_getElem? (i := 0) rfl))
  have F24 : Exa Z h20 a "com/example/moirai/moirai/placement/HashRange" := Exa.wr W21 F17
  have F25 : Fld Z h20 a "com/example/moirai/moirai/placement/HashRange" "minInclusive" "J" (.long p0) := Fld.other W21 F18 (Or.inr (slot_ne (Or.inr (hw _ (List.mem_of_getElem? (i := 24) rfl))) (Or.inr (hw _ (List.mem_of_getElem? (i := 26) rfl))) (by decide) (t := .long) (t' := .long) (by decide) (by decide)))
  have F26 : Fld Z h20 a "com/example/moirai/moirai/placement/HashRange" "maxInclusive" "J" (.long p1) := Fld.same W21 F19
  exact own_retV C rfl own_d1_43 (by decide) (by decide) (⟨rfl, K23, F24, F25, F26⟩)
set_option maxRecDepth 65536 in
set_option maxHeartbeats 40000000 in
theorem own_m6 {l : Launch} {Z : State} {a0 : Array Value} (hw : ∀ d ∈ tables_1, d.before a0 Z = true) {n0 : Nat} {ws : List Jvm.Cond} {h : Heap} (a : Addr) (x : Int64) (u : Int64) (w : Int64) (Z0 : n0 ≤ h.size) (f0 : Fld Z h a "com/example/moirai/moirai/placement/HashRange" "minInclusive" "J" (.long u)) (f1 : Fld Z h a "com/example/moirai/moirai/placement/HashRange" "maxInclusive" "J" (.long w)) :
    own_Met l Z n0 (⟨"com/example/moirai/moirai/placement/HashRange", "contains", "(J)Z"⟩ : MethodName) prog_18_method_5_code 3 (some .boolean) ({ frames := 2, cells := 0, slots := 0, locals := 30 } : Room) ws #[(.ref a), (.long x)] h (fun v h' => (v = some (.int (own_in u w x))) ∧ (h = h')) := by
  refine own_met own_pn2 #[.val (.ref a), .val (.long x), .second] (fun m => by first | (simp [entryFrame, mkF, argsToLocals, Value.category]; done) | rfl) ?_
  intro p_ e_ s_ m_ b_ mt_ c_ C
  replace C : own_Ctx p_ s_ m_ mt_ c_ Z "com/example/moirai/moirai/placement/HashRange" "contains" prog_18_method_5_code 3 (some .boolean) := C
  refine own_aloadN C (pc' := 1) own_d6_0 rfl rfl rfl ?_
  refine own_getF C (pc' := 4) (hw _ (List.mem_of_getElem? (i := 23) rfl)) f0 own_d6_1 rfl ?_
  refine own_lloadN C (pc' := 5) own_d6_4 rfl rfl ?_
  refine own_callS C (pc' := 8) (y := (⟨"java/lang/Long", "compareUnsigned", "(JJ)I"⟩ : MethodName)) (argsL := [(.long u), (.long x)]) (rest := []) 0 (hw _ (List.mem_of_getElem? (i := 15) rfl)) (hw _ (List.mem_of_getElem? (i := 16) rfl)) (hw _ (List.mem_of_getElem? (i := 17) rfl)) (hw _ (List.mem_of_getElem? (i := 18) rfl)) (by decide) (own_m4 hw u x   ) (by decide) (by decide) (lenOf own_pd0 rfl) rfl (Nat.le_of_eq rfl) own_d6_5 rfl rfl (by decide) (by decide) (fun v27 h28 hq29 => ?_)
  obtain ⟨rfl, rfl⟩ := hq29
  show own_Run p_ l e_ _ s_ m_ _ b_ mt_ c_ n0 _ h _ _ (mkF m_ 8 #[.val (.ref a), .val (.long x), .second] [(.int (own_cmp (u + (-9223372036854775808 : Int64)) (x + (-9223372036854775808 : Int64))))])
  refine own_i0_gt C (pc1 := 26) (pc2 := 11) own_d6_8 rfl rfl (fun c30 => ?_) (fun c30 => ?_)
  · skip
    refine own_iconst C (pc' := 27) (v := (0 : Int32)) own_d6_26 rfl (by decide) ?_
    exact own_ret C (t := .boolean) rfl rfl (Or.inl ⟨rfl, by simp, _, rfl⟩) own_d6_27 (by decide) (by decide) (⟨by unfold own_in; rw [if_pos c30], rfl⟩)
  · skip
    refine own_lloadN C (pc' := 12) own_d6_11 rfl rfl ?_
    refine own_aloadN C (pc' := 13) own_d6_12 rfl rfl rfl ?_
    refine own_getF C (pc' := 16) (hw _ (List.mem_of_getElem? (i := 25) rfl)) f1 own_d6_13 rfl ?_
    refine own_callS C (pc' := 19) (y := (⟨"java/lang/Long", "compareUnsigned", "(JJ)I"⟩ : MethodName)) (argsL := [(.long x), (.long w)]) (rest := []) 0 (hw _ (List.mem_of_getElem? (i := 15) rfl)) (hw _ (List.mem_of_getElem? (i := 16) rfl)) (hw _ (List.mem_of_getElem? (i := 17) rfl)) (hw _ (List.mem_of_getElem? (i := 18) rfl)) (by decide) (own_m4 hw x w   ) (by decide) (by decide) (lenOf own_pd0 rfl) rfl (Nat.le_of_eq rfl) own_d6_16 rfl rfl (by decide) (by decide) (fun v31 h32 hq33 => ?_)
    obtain ⟨rfl, rfl⟩ := hq33
    show own_Run p_ l e_ _ s_ m_ _ b_ mt_ c_ n0 _ h _ _ (mkF m_ 19 #[.val (.ref a), .val (.long x), .second] [(.int (own_cmp (x + (-9223372036854775808 : Int64)) (w + (-9223372036854775808 : Int64))))])
    refine own_i0_gt C (pc1 := 26) (pc2 := 22) own_d6_19 rfl rfl (fun c34 => ?_) (fun c34 => ?_)
    · skip
      refine own_iconst C (pc' := 27) (v := (0 : Int32)) own_d6_26 rfl (by decide) ?_
      exact own_ret C (t := .boolean) rfl rfl (Or.inl ⟨rfl, by simp, _, rfl⟩) own_d6_27 (by decide) (by decide) (⟨by unfold own_in; rw [if_neg c30, if_pos c34], rfl⟩)
    · skip
      refine own_iconst C (pc' := 23) (v := (1 : Int32)) own_d6_22 rfl (by decide) ?_
      refine own_goto C (pc' := 27) own_d6_23 rfl ?_
      exact own_ret C (t := .boolean) rfl rfl (Or.inl ⟨rfl, by simp, _, rfl⟩) own_d6_27 (by decide) (by decide) (⟨by unfold own_in; rw [if_neg c30, if_neg c34], rfl⟩)
set_option maxRecDepth 65536 in
set_option maxHeartbeats 40000000 in
theorem own_law {l : Launch} {Z : State} {a0 : Array Value} (hw : ∀ d ∈ tables_1, d.before a0 Z = true) {n0 : Nat} {ws : List Jvm.Cond} {h : Heap} (p0 : Int64) (p1 : Int64) (p2 : Int64) (p3 : Int32) (Z0 : n0 ≤ h.size) :
    own_Met l Z n0 x code maxLocals ret room_1 ws #[(.long p0), (.long p1), (.long p2), (.int p3)] h (fun v h' => v = some (.int 1)) := by
  refine own_met own_pn3 #[.val (.long p0), .second, .val (.long p1), .second, .val (.long p2), .second, .val (.int p3), .unset, .unset, .unset, .unset, .unset, .unset, .unset, .unset, .unset] (fun m => by first | (simp [entryFrame, mkF, argsToLocals, Value.category, maxLocals]; done) | rfl) ?_
  intro p_ e_ s_ m_ b_ mt_ c_ C
  replace C : own_Ctx p_ s_ m_ mt_ c_ Z "com/example/moirai/moirai/placement/HashRangeContainsPinLaw" "law" code maxLocals ret := C
  refine own_join (fun (z35 : Int64) => True) (fun (z35 : Int64) => (mkF m_ 11 #[.val (.long p0), .second, .val (.long z35), .second, .val (.long p2), .second, .val (.int p3), .unset, .unset, .unset, .unset, .unset, .unset, .unset, .unset, .unset] [])) (fun z35 hz36 => ?_) (fun J37 => ?_)
  · show own_Run p_ l e_ _ s_ m_ _ b_ mt_ c_ n0 _ h _ _ (mkF m_ 11 #[.val (.long p0), .second, .val (.long z35), .second, .val (.long p2), .second, .val (.int p3), .unset, .unset, .unset, .unset, .unset, .unset, .unset, .unset, .unset] [])
    refine own_join2 (fun (z38 : Int64) (z39 : Int64) => ¬ 0 < (own_cmp (z38 + (-9223372036854775808 : Int64)) (z39 + (-9223372036854775808 : Int64)))) (fun (z38 : Int64) (z39 : Int64) => (mkF m_ 40 #[.val (.long p0), .second, .val (.long z35), .second, .val (.long p2), .second, .val (.int p3), .val (.long z38), .second, .val (.long z39), .second, .unset, .unset, .unset, .unset, .unset] [])) (fun z38 z39 hz40 => ?_) (fun J41 => ?_)
    · show own_Run p_ l e_ _ s_ m_ _ b_ mt_ c_ n0 _ h _ _ (mkF m_ 40 #[.val (.long p0), .second, .val (.long z35), .second, .val (.long p2), .second, .val (.int p3), .val (.long z38), .second, .val (.long z39), .second, .unset, .unset, .unset, .unset, .unset] [])
      refine own_new C (pc' := 43) (hw _ (List.mem_of_getElem? (i := 1) rfl)) (hw _ (List.mem_of_getElem? (i := 2) rfl)) (hw _ (List.mem_of_getElem? (i := 3) rfl)) Z0 at_40 rfl (by decide) (by decide) (fun h42 a43 ea44 ga45 Z46 E47 A48 D49 => ?_)
      have F50 : Fld Z h42 a43 "com/example/moirai/moirai/placement/HashRange" "minInclusive" "J" (.long (0 : Int64)) := D49 (Or.inr (hw _ (List.mem_of_getElem? (i := 24) rfl))) (ty := .long) (by decide)
      have F51 : Fld Z h42 a43 "com/example/moirai/moirai/placement/HashRange" "maxInclusive" "J" (.long (0 : Int64)) := D49 (Or.inr (hw _ (List.mem_of_getElem? (i := 26) rfl))) (ty := .long) (by decide)
      refine own_dup C (pc' := 44) at_43 rfl rfl ?_
      refine own_lload C (pc' := 46) at_44 rfl rfl ?_
      refine own_lload C (pc' := 48) at_46 rfl rfl ?_
      refine own_callN C (pc' := 51) (y := (⟨"com/example/moirai/moirai/placement/HashRange", "<init>", "(JJ)V"⟩ : MethodName)) (a := a43) (argsL := [(.long z38), (.long z39)]) (rest := [(.ref a43)]) 1 rfl (hw _ (List.mem_of_getElem? (i := 4) rfl)) (hw _ (List.mem_of_getElem? (i := 5) rfl)) (hw _ (List.mem_of_getElem? (i := 6) rfl)) (hw _ (List.mem_of_getElem? (i := 3) rfl)) (by decide) (own_m1 hw a43 z38 z39 Z46 A48 ga45 F50 F51 hz40) (by decide) (by decide) (lenOf own_pd2 rfl) rfl (Nat.le_of_eq rfl) at_48 rfl rfl (by decide) (by decide) (fun v52 h53 hq54 => ?_)
      obtain ⟨rfl, K55, F56, F57, F58⟩ := hq54
      have Z60 : n0 ≤ h53.size := Nat.le_trans Z46 K55.1
      have F61 : Exa Z h53 a43 "com/example/moirai/moirai/placement/HashRange" := Exa.keep A48 K55
      show own_Run p_ l e_ _ s_ m_ _ b_ mt_ c_ n0 _ h53 _ _ (mkF m_ 51 #[.val (.long p0), .second, .val (.long z35), .second, .val (.long p2), .second, .val (.int p3), .val (.long z38), .second, .val (.long z39), .second, .unset, .unset, .unset, .unset, .unset] [(.ref a43)])
      refine own_astore C (pc' := 53) (Ls' := #[.val (.long p0), .second, .val (.long z35), .second, .val (.long p2), .second, .val (.int p3), .val (.long z38), .second, .val (.long z39), .second, .val (.ref a43), .unset, .unset, .unset, .unset]) at_51 rfl rfl rfl ?_
      refine own_iload C (pc' := 55) at_53 rfl rfl ?_
      refine own_bipush C (pc' := 57) (v := (7 : Int32)) at_55 rfl (by decide) ?_
      refine own_iand C (pc' := 58) at_57 rfl ?_
      refine own_istore C (pc' := 60) (Ls' := #[.val (.long p0), .second, .val (.long z35), .second, .val (.long p2), .second, .val (.int p3), .val (.long z38), .second, .val (.long z39), .second, .val (.ref a43), .val (.int (p3 &&& (7 : Int32))), .unset, .unset, .unset]) at_58 rfl rfl ?_
      refine own_lload C (pc' := 62) at_60 rfl rfl ?_
      refine own_lstore C (pc' := 64) (Ls' := #[.val (.long p0), .second, .val (.long z35), .second, .val (.long p2), .second, .val (.int p3), .val (.long z38), .second, .val (.long z39), .second, .val (.ref a43), .val (.int (p3 &&& (7 : Int32))), .val (.long p2), .second, .unset]) at_62 rfl rfl ?_
      refine own_join (fun (z62 : Int64) => True) (fun (z62 : Int64) => (mkF m_ 119 #[.val (.long p0), .second, .val (.long z35), .second, .val (.long p2), .second, .val (.int p3), .val (.long z38), .second, .val (.long z39), .second, .val (.ref a43), .val (.int (p3 &&& (7 : Int32))), .val (.long z62), .second, .unset] [])) (fun z62 hz63 => ?_) (fun J64 => ?_)
      · show own_Run p_ l e_ _ s_ m_ _ b_ mt_ c_ n0 _ h53 _ _ (mkF m_ 119 #[.val (.long p0), .second, .val (.long z35), .second, .val (.long p2), .second, .val (.int p3), .val (.long z38), .second, .val (.long z39), .second, .val (.ref a43), .val (.int (p3 &&& (7 : Int32))), .val (.long z62), .second, .unset] [])
        refine own_lload C (pc' := 121) at_119 rfl rfl ?_
        refine own_lload C (pc' := 123) at_121 rfl rfl ?_
        refine own_lsub C (pc' := 124) at_123 rfl ?_
        refine own_ldc2 C (pc' := 127) (v := (-9223372036854775808 : Int64)) at_124 rfl (hw _ (List.mem_of_getElem? (i := 0) rfl)) ?_
        refine own_lxor C (pc' := 128) at_127 rfl ?_
        refine own_lload C (pc' := 130) at_128 rfl rfl ?_
        refine own_lload C (pc' := 132) at_130 rfl rfl ?_
        refine own_lsub C (pc' := 133) at_132 rfl ?_
        refine own_ldc2 C (pc' := 136) (v := (-9223372036854775808 : Int64)) at_133 rfl (hw _ (List.mem_of_getElem? (i := 0) rfl)) ?_
        refine own_lxor C (pc' := 137) at_136 rfl ?_
        refine own_lcmp C (pc' := 138) at_137 rfl ?_
        refine own_ll_gt C (pc1 := 145) (pc2 := 141) at_138 rfl rfl (fun c65 => ?_) (fun c65 => ?_)
        · skip
          refine own_iconst C (pc' := 146) (v := (0 : Int32)) at_145 rfl (by decide) ?_
          refine own_istore C (pc' := 148) (Ls' := #[.val (.long p0), .second, .val (.long z35), .second, .val (.long p2), .second, .val (.int p3), .val (.long z38), .second, .val (.long z39), .second, .val (.ref a43), .val (.int (p3 &&& (7 : Int32))), .val (.long z62), .second, .val (.int (0 : Int32))]) at_146 rfl rfl ?_
          refine own_aload C (pc' := 150) at_148 rfl rfl rfl ?_
          refine own_lload C (pc' := 152) at_150 rfl rfl ?_
          refine own_callV C (pc' := 155) (y := (⟨"com/example/moirai/moirai/placement/HashRange", "contains", "(J)Z"⟩ : MethodName)) (a := a43) (argsL := [(.long z62)]) (rest := []) 0 F56 (hw _ (List.mem_of_getElem? (i := 27) rfl)) (hw _ (List.mem_of_getElem? (i := 28) rfl)) (hw _ (List.mem_of_getElem? (i := 30) rfl)) (hw _ (List.mem_of_getElem? (i := 29) rfl)) (hw _ (List.mem_of_getElem? (i := 31) rfl)) (hw _ (List.mem_of_getElem? (i := 3) rfl)) (by decide) (own_m6 hw a43 z62 z38 z39 Z60 F57 F58 ) (by decide) (by decide) (lenOf own_pd3 rfl) rfl (Nat.le_of_eq rfl) at_152 rfl rfl (by decide) (by decide) (fun v66 h67 hq68 => ?_)
          obtain ⟨rfl, rfl⟩ := hq68
          show own_Run p_ l e_ _ s_ m_ _ b_ mt_ c_ n0 _ h53 _ _ (mkF m_ 155 #[.val (.long p0), .second, .val (.long z35), .second, .val (.long p2), .second, .val (.int p3), .val (.long z38), .second, .val (.long z39), .second, .val (.ref a43), .val (.int (p3 &&& (7 : Int32))), .val (.long z62), .second, .val (.int (0 : Int32))] [(.int (own_in z38 z39 z62))])
          refine own_iload C (pc' := 157) at_155 rfl rfl ?_
          refine own_ii_ne C (pc1 := 164) (pc2 := 160) at_157 rfl rfl (fun c69 => ?_) (fun c69 => ?_)
          · skip
            refine own_iconst C (pc' := 165) (v := (0 : Int32)) at_164 rfl (by decide) ?_
            exact own_ret C (t := .boolean) rfl rfl (Or.inl ⟨rfl, by simp, _, rfl⟩) at_165 (by decide) (by decide) (absurd (own_k0 hz40 c65) c69)
          · skip
            refine own_iconst C (pc' := 161) (v := (1 : Int32)) at_160 rfl (by decide) ?_
            refine own_goto C (pc' := 165) at_161 rfl ?_
            exact own_ret C (t := .boolean) rfl rfl (Or.inl ⟨rfl, by simp, _, rfl⟩) at_165 (by decide) (by decide) (rfl)
        · skip
          refine own_iconst C (pc' := 142) (v := (1 : Int32)) at_141 rfl (by decide) ?_
          refine own_goto C (pc' := 146) at_142 rfl ?_
          refine own_istore C (pc' := 148) (Ls' := #[.val (.long p0), .second, .val (.long z35), .second, .val (.long p2), .second, .val (.int p3), .val (.long z38), .second, .val (.long z39), .second, .val (.ref a43), .val (.int (p3 &&& (7 : Int32))), .val (.long z62), .second, .val (.int (1 : Int32))]) at_146 rfl rfl ?_
          refine own_aload C (pc' := 150) at_148 rfl rfl rfl ?_
          refine own_lload C (pc' := 152) at_150 rfl rfl ?_
          refine own_callV C (pc' := 155) (y := (⟨"com/example/moirai/moirai/placement/HashRange", "contains", "(J)Z"⟩ : MethodName)) (a := a43) (argsL := [(.long z62)]) (rest := []) 0 F56 (hw _ (List.mem_of_getElem? (i := 27) rfl)) (hw _ (List.mem_of_getElem? (i := 28) rfl)) (hw _ (List.mem_of_getElem? (i := 30) rfl)) (hw _ (List.mem_of_getElem? (i := 29) rfl)) (hw _ (List.mem_of_getElem? (i := 31) rfl)) (hw _ (List.mem_of_getElem? (i := 3) rfl)) (by decide) (own_m6 hw a43 z62 z38 z39 Z60 F57 F58 ) (by decide) (by decide) (lenOf own_pd3 rfl) rfl (Nat.le_of_eq rfl) at_152 rfl rfl (by decide) (by decide) (fun v70 h71 hq72 => ?_)
          obtain ⟨rfl, rfl⟩ := hq72
          show own_Run p_ l e_ _ s_ m_ _ b_ mt_ c_ n0 _ h53 _ _ (mkF m_ 155 #[.val (.long p0), .second, .val (.long z35), .second, .val (.long p2), .second, .val (.int p3), .val (.long z38), .second, .val (.long z39), .second, .val (.ref a43), .val (.int (p3 &&& (7 : Int32))), .val (.long z62), .second, .val (.int (1 : Int32))] [(.int (own_in z38 z39 z62))])
          refine own_iload C (pc' := 157) at_155 rfl rfl ?_
          refine own_ii_ne C (pc1 := 164) (pc2 := 160) at_157 rfl rfl (fun c73 => ?_) (fun c73 => ?_)
          · skip
            refine own_iconst C (pc' := 165) (v := (0 : Int32)) at_164 rfl (by decide) ?_
            exact own_ret C (t := .boolean) rfl rfl (Or.inl ⟨rfl, by simp, _, rfl⟩) at_165 (by decide) (by decide) (absurd (own_k1 hz40 c65) c73)
          · skip
            refine own_iconst C (pc' := 161) (v := (1 : Int32)) at_160 rfl (by decide) ?_
            refine own_goto C (pc' := 165) at_161 rfl ?_
            exact own_ret C (t := .boolean) rfl rfl (Or.inl ⟨rfl, by simp, _, rfl⟩) at_165 (by decide) (by decide) (rfl)
      · skip
        refine own_iload C (pc' := 66) at_64 rfl rfl ?_
        refine own_iconst C (pc' := 67) (v := (4 : Int32)) at_66 rfl (by decide) ?_
        refine own_ii_ne C (pc1 := 77) (pc2 := 70) at_67 rfl rfl (fun c74 => ?_) (fun c74 => ?_)
        · skip
          refine own_iload C (pc' := 79) at_77 rfl rfl ?_
          refine own_iconst C (pc' := 80) (v := (5 : Int32)) at_79 rfl (by decide) ?_
          refine own_ii_ne C (pc1 := 90) (pc2 := 83) at_80 rfl rfl (fun c75 => ?_) (fun c75 => ?_)
          · skip
            refine own_iload C (pc' := 92) at_90 rfl rfl ?_
            refine own_bipush C (pc' := 94) (v := (6 : Int32)) at_92 rfl (by decide) ?_
            refine own_ii_ne C (pc1 := 106) (pc2 := 97) at_94 rfl rfl (fun c76 => ?_) (fun c76 => ?_)
            · skip
              refine own_iload C (pc' := 108) at_106 rfl rfl ?_
              refine own_bipush C (pc' := 110) (v := (7 : Int32)) at_108 rfl (by decide) ?_
              refine own_ii_ne C (pc1 := 119) (pc2 := 113) at_110 rfl rfl (fun c77 => ?_) (fun c77 => ?_)
              · skip
                exact J64 p2 (trivial)
              · skip
                refine own_lload C (pc' := 115) at_113 rfl rfl ?_
                refine own_lconst C (pc' := 116) (v := (1 : Int64)) at_115 rfl (by decide) ?_
                refine own_ladd C (pc' := 117) at_116 rfl ?_
                refine own_lstore C (pc' := 119) (Ls' := #[.val (.long p0), .second, .val (.long z35), .second, .val (.long p2), .second, .val (.int p3), .val (.long z38), .second, .val (.long z39), .second, .val (.ref a43), .val (.int (p3 &&& (7 : Int32))), .val (.long (z39 + (1 : Int64))), .second, .unset]) at_117 rfl rfl ?_
                exact J64 (z39 + (1 : Int64)) (trivial)
            · skip
              refine own_lload C (pc' := 99) at_97 rfl rfl ?_
              refine own_lconst C (pc' := 100) (v := (1 : Int64)) at_99 rfl (by decide) ?_
              refine own_lsub C (pc' := 101) at_100 rfl ?_
              refine own_lstore C (pc' := 103) (Ls' := #[.val (.long p0), .second, .val (.long z35), .second, .val (.long p2), .second, .val (.int p3), .val (.long z38), .second, .val (.long z39), .second, .val (.ref a43), .val (.int (p3 &&& (7 : Int32))), .val (.long (z38 - (1 : Int64))), .second, .unset]) at_101 rfl rfl ?_
              refine own_goto C (pc' := 119) at_103 rfl ?_
              exact J64 (z38 - (1 : Int64)) (trivial)
          · skip
            refine own_lload C (pc' := 85) at_83 rfl rfl ?_
            refine own_lstore C (pc' := 87) (Ls' := #[.val (.long p0), .second, .val (.long z35), .second, .val (.long p2), .second, .val (.int p3), .val (.long z38), .second, .val (.long z39), .second, .val (.ref a43), .val (.int (p3 &&& (7 : Int32))), .val (.long z39), .second, .unset]) at_85 rfl rfl ?_
            refine own_goto C (pc' := 119) at_87 rfl ?_
            exact J64 z39 (trivial)
        · skip
          refine own_lload C (pc' := 72) at_70 rfl rfl ?_
          refine own_lstore C (pc' := 74) (Ls' := #[.val (.long p0), .second, .val (.long z35), .second, .val (.long p2), .second, .val (.int p3), .val (.long z38), .second, .val (.long z39), .second, .val (.ref a43), .val (.int (p3 &&& (7 : Int32))), .val (.long z38), .second, .unset]) at_72 rfl rfl ?_
          refine own_goto C (pc' := 119) at_74 rfl ?_
          exact J64 z38 (trivial)
    · skip
      refine own_lloadN C (pc' := 12) at_11 rfl rfl ?_
      refine own_ldc2 C (pc' := 15) (v := (-9223372036854775808 : Int64)) at_12 rfl (hw _ (List.mem_of_getElem? (i := 0) rfl)) ?_
      refine own_lxor C (pc' := 16) at_15 rfl ?_
      refine own_lloadN C (pc' := 17) at_16 rfl rfl ?_
      refine own_ldc2 C (pc' := 20) (v := (-9223372036854775808 : Int64)) at_17 rfl (hw _ (List.mem_of_getElem? (i := 0) rfl)) ?_
      refine own_lxor C (pc' := 21) at_20 rfl ?_
      refine own_lcmp C (pc' := 22) at_21 rfl ?_
      refine own_ll_gt C (pc1 := 34) (pc2 := 25) at_22 rfl rfl (fun c78 => ?_) (fun c78 => ?_)
      · skip
        refine own_lloadN C (pc' := 35) at_34 rfl rfl ?_
        refine own_lstore C (pc' := 37) (Ls' := #[.val (.long p0), .second, .val (.long z35), .second, .val (.long p2), .second, .val (.int p3), .val (.long z35), .second, .unset, .unset, .unset, .unset, .unset, .unset, .unset]) at_35 rfl rfl ?_
        refine own_lloadN C (pc' := 38) at_37 rfl rfl ?_
        refine own_lstore C (pc' := 40) (Ls' := #[.val (.long p0), .second, .val (.long z35), .second, .val (.long p2), .second, .val (.int p3), .val (.long z35), .second, .val (.long p0), .second, .unset, .unset, .unset, .unset, .unset]) at_38 rfl rfl ?_
        exact J41 z35 p0 (own_o2 c78)
      · skip
        refine own_lloadN C (pc' := 26) at_25 rfl rfl ?_
        refine own_lstore C (pc' := 28) (Ls' := #[.val (.long p0), .second, .val (.long z35), .second, .val (.long p2), .second, .val (.int p3), .val (.long p0), .second, .unset, .unset, .unset, .unset, .unset, .unset, .unset]) at_26 rfl rfl ?_
        refine own_lloadN C (pc' := 29) at_28 rfl rfl ?_
        refine own_lstore C (pc' := 31) (Ls' := #[.val (.long p0), .second, .val (.long z35), .second, .val (.long p2), .second, .val (.int p3), .val (.long p0), .second, .val (.long z35), .second, .unset, .unset, .unset, .unset, .unset]) at_29 rfl rfl ?_
        refine own_goto C (pc' := 40) at_31 rfl ?_
        exact J41 p0 z35 (own_o1 c78)
  · skip
    refine own_iload C (pc' := 2) at_0 rfl rfl ?_
    refine own_iconst C (pc' := 3) (v := (3 : Int32)) at_2 rfl (by decide) ?_
    refine own_ishr C (pc' := 4) at_3 rfl ?_
    refine own_iconst C (pc' := 5) (v := (1 : Int32)) at_4 rfl (by decide) ?_
    refine own_iand C (pc' := 6) at_5 rfl ?_
    refine own_i0_eq C (pc1 := 11) (pc2 := 9) at_6 rfl rfl (fun c79 => ?_) (fun c79 => ?_)
    · skip
      exact J37 p1 (trivial)
    · skip
      refine own_lloadN C (pc' := 10) at_9 rfl rfl ?_
      refine own_lstoreN C (pc' := 11) (Ls' := #[.val (.long p0), .second, .val (.long p0), .second, .val (.long p2), .second, .val (.int p3), .unset, .unset, .unset, .unset, .unset, .unset, .unset, .unset, .unset]) at_10 rfl rfl ?_
      exact J37 p0 (trivial)
set_option maxRecDepth 65536 in
set_option maxHeartbeats 40000000 in
theorem own_comes {Post : Tables → Env → Array Value → State → Outcome → State → Prop} (hpost : ∀ tb e args s v u, (limb_1_1.after args s (.returned v) u = true ∧ limb_1_2.after args s (.returned v) u = true ∧ True) → FrameEnd s (.returned v) u (Jvm.fieldLocs frame_1_writes args s ++ Jvm.arrayLocs frame_1_arrays args s ++ Jvm.staticLocs frame_1_statics s) 16 128 → Post tb e args s (.returned v) u) :
    ArmFor flags0 classFile x code maxLocals ret World_1 tables_1 room_1 Calls_1 rest_1 Pre_1 Post := by
  intro l hfl _ _ p e ha hc hk s m args below hf hA hF happ hP
  obtain ⟨hcalls, hrest, hpre⟩ := hP
  obtain ⟨-, -, -, hnamed, -, -, -, hat⟩ := (Spec.applies_iff hf).mp happ
  obtain ⟨hg, hn⟩ := and_e (Cond.before_iff.mp (show (Jvm.Cond.and given_1 narrow_1).before args s = true from hpre))
  obtain ⟨g0, r0⟩ := and_e hg
  obtain ⟨q0, r1⟩ := and_e r0
  obtain ⟨q1, r2⟩ := and_e r1
  obtain ⟨q2, r3⟩ := and_e r2
  obtain ⟨w0, w1, w2, w3, rfl⟩ : ∃ w0 w1 w2 w3 : Value, args = #[w0, w1, w2, w3] := by
    have hs : args.size = 4 := by simpa [Cond.value, given_1] using g0
    obtain ⟨L⟩ := args
    match L, hs with
    | [w0, w1, w2, w3], _ => exact ⟨w0, w1, w2, w3, rfl⟩
  have hw := fun d (hd : d ∈ tables_1) => atoms_spec (ws := Jvm.Cond.code x code maxLocals ret :: tables_1) hat d (List.mem_cons_of_mem _ hd)
  obtain ⟨i0, ei0⟩ := isL_v q0
  obtain rfl : w0 = (.long i0) := Option.some.inj ei0
  obtain ⟨i1, ei1⟩ := isL_v q1
  obtain rfl : w1 = (.long i1) := Option.some.inj ei1
  obtain ⟨i2, ei2⟩ := isL_v q2
  obtain rfl : w2 = (.long i2) := Option.some.inj ei2
  obtain ⟨i3, ei3⟩ := is_v r3
  obtain rfl : w3 = (.int i3) := Option.some.inj ei3
  obtain ⟨n, o, h1, h2, h3, _, L, rfl, ⟨N, rfl⟩, hq⟩ := own_law (l := l) (Z := s) hw (n0 := s.heap.size) (ws := tables_1) (h := s.heap) i0 i1 i2 i3 (Nat.le_refl _)  p e ha hc hk s m _ below hf ((Spec.applies_iff_loose hf).mp happ).1 ⟨rfl, State.Warmed39.refl s, rfl⟩ trivial
  refine ⟨n, _, h1, h2, h3, hpost _ _ _ _ _ _ ⟨Cond.after_iff.mpr rfl, Cond.after_iff.mpr (eq_i res_at (Term.int_eval (1)) rfl), trivial⟩ ⟨hq.1, hq.2.1, (hq.2.2.sift fun y hy => Or.inr (N y hy)).mono (by decide) (by decide)⟩⟩
theorem main_1_1 : Claimed_1_1 := own_comes fun _ _ _ _ _ _ h hF => ⟨h.1, hF⟩
theorem main_1_2 : Claimed_1_2 := own_comes fun _ _ _ _ _ _ h hF => ⟨h.2.1, hF⟩
end Jvm.Pilot.@@N@@
namespace Jvm.Pilot.@@N@@
open Jvm Jvm.ClassFile Sem Op Lib Jvm.Free Jvm.Stand Jvm.Pilot.@@N@@.Jvm.D
/-! MADE BY PROGRAM (witnessworld.py) out of the Statement's table words and the real class files: 15 classes; the members and pool entries that the words name. The judged class is class 1, her method 1. -/
namespace start1
open Jvm.ClassFile
def u (s : String) : CpInfo := .utf8 (stringToUtf16 s)
/-- a pool by its gaps: so many unusable entries, then the entry; so many at the end -/
def gap : Nat → List CpInfo → List CpInfo
  | 0, r => r
  | n + 1, r => .unusable :: gap n r
def poolList (es : List (Nat × CpInfo)) (last : Nat) : List CpInfo := es.foldr (fun e r => gap e.1 (e.2 :: r)) (gap last [])
def pool (es : List (Nat × CpInfo)) (last : Nat) : Array CpInfo := ⟨poolList es last⟩
def fileOf (pool : Array CpInfo) (this : Nat) (attrs : Array Attribute := #[]) (ms : Array MethodInfo := #[]) (fl : Nat := 33) (sup : Nat := 0) (ifs : Array Nat := #[]) (fds : Array FieldInfo := #[]) : ClassFile where
  minorVersion := 0
  majorVersion := 65
  constantPool := pool
  accessFlags := fl
  thisClass := this
  superClass := sup
  interfaces := ifs
  fields := fds
  methods := ms
  attributes := attrs
def plain (name : String) (sup : Option ClassId) : Class where
  name := name
  kind := .ordinary
  loader := none
  accessFlags := 33
  super := sup
  interfaces := #[]
  cf := none
  fields := #[]
  methods := #[]
  instanceTypes := #[]
  staticTypes := #[]
  resolved := #[]
  callSites := []
  init := .initialized
  statics := none
  mirror := none

def pool0 : Array CpInfo := pool [(5, u "<init>"), (0, u "()V"), (1, .class_ 10), (1, u "java/lang/Object")] 113

def k0c0 : Code := { maxStack := 0, maxLocals := 1, code := object_method_1_code, exceptionTable := #[], attributes := #[] }
def k0m0 : Method := { name := "<init>", desc := "()V", sig := { parameters := [], returnType := none }, accessFlags := 1, code := some k0c0 }
/-- java/lang/Object -/
def k0 : Class := { plain "java/lang/Object" none with
  accessFlags := 33
  interfaces := #[]
  cf := some (fileOf pool0 8 #[] #[{ accessFlags := 1, nameIndex := 5, descriptorIndex := 6, attributes := #[] }] 33 0 #[] #[])
  fields := #[]
  methods := #[k0m0]
  instanceTypes := #[]
  staticTypes := #[]
  resolved := Array.replicate 124 none
  statics := none }

def pool1 : Array CpInfo := pool [(2, .class_ 4), (1, u "java/lang/Object"), (0, u "<init>"), (0, u "()V"), (0, .long 9223372036854775808), (1, .class_ 10), (0, u "com/example/moirai/moirai/placement/HashRange"), (0, .methodref 9 12), (0, .nameAndType 5 13), (0, u "(JJ)V"), (0, .methodref 9 15), (0, .nameAndType 16 17), (0, u "contains"), (0, u "(J)Z"), (0, .class_ 19), (0, u "com/example/moirai/moirai/placement/HashRangeContainsPinLaw"), (2, u "law"), (0, u "(JJJI)Z")] 3

def k1m0 : Method := { name := "<init>", desc := "()V", sig := { parameters := [], returnType := none }, accessFlags := 1, code := none }
def k1c1 : Code := { maxStack := 6, maxLocals := 16, code := code, exceptionTable := #[], attributes := #[] }
def k1m1 : Method := { name := "law", desc := "(JJJI)Z", sig := { parameters := [.long, .long, .long, .int], returnType := some .boolean }, accessFlags := 9, code := some k1c1 }
/-- com/example/moirai/moirai/placement/HashRangeContainsPinLaw -/
def k1 : Class := { plain "com/example/moirai/moirai/placement/HashRangeContainsPinLaw" (some 0) with
  accessFlags := 49
  interfaces := #[]
  cf := some (fileOf pool1 18 #[] #[{ accessFlags := 1, nameIndex := 5, descriptorIndex := 6, attributes := #[] }, { accessFlags := 9, nameIndex := 22, descriptorIndex := 23, attributes := #[] }] 49 2 #[] #[])
  fields := #[]
  methods := #[k1m0, k1m1]
  instanceTypes := #[]
  staticTypes := #[]
  resolved := Array.replicate 27 none
  statics := none }

def pool2 : Array CpInfo := pool [(1, .methodref 2 3), (0, .class_ 4), (0, .nameAndType 5 6), (0, u "java/lang/Object"), (0, u "<init>"), (0, u "()V"), (0, .class_ 8), (0, u "java/lang/Record")] 13

def k2c0 : Code := { maxStack := 1, maxLocals := 1, code := jdk_30_method_1_code, exceptionTable := #[], attributes := #[] }
def k2m0 : Method := { name := "<init>", desc := "()V", sig := { parameters := [], returnType := none }, accessFlags := 4, code := some k2c0 }
/-- java/lang/Record -/
def k2 : Class := { plain "java/lang/Record" (some 0) with
  accessFlags := 1057
  interfaces := #[]
  cf := some (fileOf pool2 7 #[] #[{ accessFlags := 4, nameIndex := 5, descriptorIndex := 6, attributes := #[] }] 1057 2 #[] #[])
  fields := #[]
  methods := #[k2m0]
  instanceTypes := #[]
  staticTypes := #[]
  resolved := Array.replicate 22 none
  statics := none }

def pool3 : Array CpInfo := pool [(1, .methodref 2 3), (0, .class_ 4), (0, .nameAndType 5 6), (0, u "java/lang/Record"), (0, u "<init>"), (0, u "()V"), (0, .methodref 8 9), (0, .class_ 10), (0, .nameAndType 11 12), (0, u "java/lang/Long"), (0, u "compareUnsigned"), (0, u "(JJ)I"), (3, .class_ 18), (1, u "com/example/moirai/moirai/placement/HashRange"), (9, .fieldref 16 29), (0, .nameAndType 30 31), (0, u "minInclusive"), (0, u "J"), (0, .fieldref 16 33), (0, .nameAndType 34 31), (0, u "maxInclusive"), (59, u "HEX"), (0, u "Ljava/util/HexFormat;"), (25, u "HASH_SPACE"), (0, u "Ljava/math/BigInteger;"), (17, u "(JJ)V"), (22, u "HEX_DIGITS"), (0, u "I"), (16, u "contains"), (0, u "(J)Z")] 63

def k3c0 : Code := { maxStack := 5, maxLocals := 5, code := prog_18_method_1_code, exceptionTable := #[], attributes := #[] }
def k3m0 : Method := { name := "<init>", desc := "(JJ)V", sig := { parameters := [.long, .long], returnType := none }, accessFlags := 1, code := some k3c0 }
def k3c1 : Code := { maxStack := 4, maxLocals := 3, code := prog_18_method_5_code, exceptionTable := #[], attributes := #[] }
def k3m1 : Method := { name := "contains", desc := "(J)Z", sig := { parameters := [.long], returnType := some .boolean }, accessFlags := 1, code := some k3c1 }
/-- com/example/moirai/moirai/placement/HashRange -/
def k3 : Class := { plain "com/example/moirai/moirai/placement/HashRange" (some 2) with
  accessFlags := 49
  interfaces := #[]
  cf := some (fileOf pool3 16 #[] #[{ accessFlags := 1, nameIndex := 5, descriptorIndex := 140, attributes := #[] }, { accessFlags := 1, nameIndex := 181, descriptorIndex := 182, attributes := #[] }] 49 2 #[] #[{ accessFlags := 18, nameIndex := 30, descriptorIndex := 31, attributes := #[] }, { accessFlags := 18, nameIndex := 34, descriptorIndex := 31, attributes := #[] }, { accessFlags := 26, nameIndex := 121, descriptorIndex := 122, attributes := #[] }, { accessFlags := 26, nameIndex := 94, descriptorIndex := 95, attributes := #[] }, { accessFlags := 26, nameIndex := 163, descriptorIndex := 164, attributes := #[] }])
  fields := #[{ name := "minInclusive", type := .long, accessFlags := 18, slot := 0, constantValue := 0 }, { name := "maxInclusive", type := .long, accessFlags := 18, slot := 1, constantValue := 0 }, { name := "HASH_SPACE", type := (.object "java/math/BigInteger"), accessFlags := 26, slot := 0, constantValue := 0 }, { name := "HEX", type := (.object "java/util/HexFormat"), accessFlags := 26, slot := 1, constantValue := 0 }, { name := "HEX_DIGITS", type := .int, accessFlags := 26, slot := 2, constantValue := 0 }]
  methods := #[k3m0, k3m1]
  instanceTypes := #[.long, .long]
  staticTypes := #[(.object "java/math/BigInteger"), (.object "java/util/HexFormat"), .int]
  resolved := Array.replicate 246 none
  statics := none }

def pool4 : Array CpInfo := pool [(1, .class_ 2), (0, u "java/io/Serializable"), (0, .class_ 4), (0, u "java/lang/Object")] 2

/-- java/io/Serializable -/
def k4 : Class := { plain "java/io/Serializable" (some 0) with
  accessFlags := 1537
  interfaces := #[]
  cf := some (fileOf pool4 1 #[] #[] 1537 3 #[] #[])
  fields := #[]
  methods := #[]
  instanceTypes := #[]
  staticTypes := #[]
  resolved := Array.replicate 7 none
  statics := none }

def pool5 : Array CpInfo := pool [(2, .class_ 4), (1, u "java/lang/Object"), (0, u "<init>"), (0, u "()V"), (1, .class_ 10), (1, u "java/lang/Number"), (2, .class_ 14), (0, u "java/io/Serializable"), (0, u "serialVersionUID"), (0, u "J")] 20

def k5m0 : Method := { name := "<init>", desc := "()V", sig := { parameters := [], returnType := none }, accessFlags := 1, code := none }
/-- java/lang/Number -/
def k5 : Class := { plain "java/lang/Number" (some 0) with
  accessFlags := 1057
  interfaces := #[4]
  cf := some (fileOf pool5 8 #[] #[{ accessFlags := 1, nameIndex := 5, descriptorIndex := 6, attributes := #[] }] 1057 2 #[13] #[{ accessFlags := 26, nameIndex := 15, descriptorIndex := 16, attributes := #[] }])
  fields := #[{ name := "serialVersionUID", type := .long, accessFlags := 26, slot := 0, constantValue := 0 }]
  methods := #[k5m0]
  instanceTypes := #[]
  staticTypes := #[.long]
  resolved := Array.replicate 37 none
  statics := none }

def pool6 : Array CpInfo := pool [(1, .class_ 2), (0, u "java/lang/Comparable"), (0, .class_ 4), (0, u "java/lang/Object")] 7

/-- java/lang/Comparable -/
def k6 : Class := { plain "java/lang/Comparable" (some 0) with
  accessFlags := 1537
  interfaces := #[]
  cf := some (fileOf pool6 1 #[] #[] 1537 3 #[] #[])
  fields := #[]
  methods := #[]
  instanceTypes := #[]
  staticTypes := #[]
  resolved := Array.replicate 12 none
  statics := none }

def pool7 : Array CpInfo := pool [(1, .class_ 2), (0, u "java/lang/constant/Constable"), (0, .class_ 4), (0, u "java/lang/Object")] 6

/-- java/lang/constant/Constable -/
def k7 : Class := { plain "java/lang/constant/Constable" (some 0) with
  accessFlags := 1537
  interfaces := #[]
  cf := some (fileOf pool7 1 #[] #[] 1537 3 #[] #[])
  fields := #[]
  methods := #[]
  instanceTypes := #[]
  staticTypes := #[]
  resolved := Array.replicate 11 none
  statics := none }

def pool8 : Array CpInfo := pool [(1, .class_ 2), (0, u "java/lang/constant/ConstantDesc"), (0, .class_ 4), (0, u "java/lang/Object")] 32

/-- java/lang/constant/ConstantDesc -/
def k8 : Class := { plain "java/lang/constant/ConstantDesc" (some 0) with
  accessFlags := 1537
  interfaces := #[]
  cf := some (fileOf pool8 1 #[] #[] 1537 3 #[] #[])
  fields := #[]
  methods := #[]
  instanceTypes := #[]
  staticTypes := #[]
  resolved := Array.replicate 37 none
  statics := none }

def pool9 : Array CpInfo := pool [(1, .class_ 2), (0, u "java/lang/Long"), (165, .long 9223372036854775808), (66, .class_ 237), (1, u "java/lang/Long$LongCache"), (33, .class_ 272), (0, u "java/lang/Number"), (2, u "value"), (0, u "J"), (25, .methodref 1 303), (0, .nameAndType 304 305), (0, u "compare"), (0, u "(JJ)I"), (55, u "TYPE"), (0, u "Ljava/lang/Class;"), (0, .class_ 364), (0, u "java/lang/Comparable"), (0, .class_ 366), (0, u "java/lang/constant/Constable"), (0, .class_ 368), (0, u "java/lang/constant/ConstantDesc"), (0, u "MIN_VALUE"), (1, u "MAX_VALUE"), (4, u "SIZE"), (0, u "I"), (1, u "BYTES"), (1, u "serialVersionUID"), (87, u "compareUnsigned")] 54

def k9c0 : Code := { maxStack := 4, maxLocals := 4, code := jdk_35_method_42_code, exceptionTable := #[], attributes := #[] }
def k9m0 : Method := { name := "compare", desc := "(JJ)I", sig := { parameters := [.long, .long], returnType := some .int }, accessFlags := 9, code := some k9c0 }
def k9c1 : Code := { maxStack := 6, maxLocals := 4, code := jdk_35_method_43_code, exceptionTable := #[], attributes := #[] }
def k9m1 : Method := { name := "compareUnsigned", desc := "(JJ)I", sig := { parameters := [.long, .long], returnType := some .int }, accessFlags := 9, code := some k9c1 }
/-- java/lang/Long -/
def k9 : Class := { plain "java/lang/Long" (some 5) with
  accessFlags := 49
  interfaces := #[6, 7, 8]
  cf := some (fileOf pool9 1 #[.nestMembers #[235]] #[{ accessFlags := 9, nameIndex := 304, descriptorIndex := 305, attributes := #[] }, { accessFlags := 9, nameIndex := 469, descriptorIndex := 305, attributes := #[] }] 49 271 #[363, 365, 367] #[{ accessFlags := 25, nameIndex := 369, descriptorIndex := 276, attributes := #[] }, { accessFlags := 25, nameIndex := 371, descriptorIndex := 276, attributes := #[] }, { accessFlags := 25, nameIndex := 361, descriptorIndex := 362, attributes := #[] }, { accessFlags := 18, nameIndex := 275, descriptorIndex := 276, attributes := #[] }, { accessFlags := 25, nameIndex := 376, descriptorIndex := 377, attributes := #[] }, { accessFlags := 25, nameIndex := 379, descriptorIndex := 377, attributes := #[] }, { accessFlags := 26, nameIndex := 381, descriptorIndex := 276, attributes := #[] }])
  fields := #[{ name := "MIN_VALUE", type := .long, accessFlags := 25, slot := 0, constantValue := 0 }, { name := "MAX_VALUE", type := .long, accessFlags := 25, slot := 1, constantValue := 0 }, { name := "TYPE", type := (.object "java/lang/Class"), accessFlags := 25, slot := 2, constantValue := 0 }, { name := "value", type := .long, accessFlags := 18, slot := 0, constantValue := 0 }, { name := "SIZE", type := .int, accessFlags := 25, slot := 3, constantValue := 0 }, { name := "BYTES", type := .int, accessFlags := 25, slot := 4, constantValue := 0 }, { name := "serialVersionUID", type := .long, accessFlags := 26, slot := 5, constantValue := 0 }]
  methods := #[k9m0, k9m1]
  instanceTypes := #[.long]
  staticTypes := #[.long, .long, (.object "java/lang/Class"), .int, .int, .long]
  resolved := Array.replicate 524 none
  statics := none }

def pool10 : Array CpInfo := pool [(1, u "java/lang/Cloneable"), (0, .class_ 1), (0, u "java/lang/Object"), (0, .class_ 3)] 3

/-- java/lang/Cloneable -/
def k10 : Class := { plain "java/lang/Cloneable" (some 0) with
  accessFlags := 1537
  interfaces := #[]
  cf := some (fileOf pool10 2 #[] #[] 1537 4 #[] #[])
  fields := #[]
  methods := #[]
  instanceTypes := #[]
  staticTypes := #[]
  resolved := Array.replicate 8 none
  statics := none }

/-- the primitive byte -/
def k11 : Class := { plain "byte" none with kind := .primitive 'B', accessFlags := 0x411 }
/-- [B -/
def k12 : Class := { plain "[B" (some 0) with kind := .array 11 .byte, interfaces := #[10, 4], accessFlags := 1041 }

/-- the primitive int -/
def k13 : Class := { plain "int" none with kind := .primitive 'I', accessFlags := 0x411 }
/-- [I -/
def k14 : Class := { plain "[I" (some 0) with kind := .array 13 .int, interfaces := #[10, 4], accessFlags := 1041 }

def heap : Heap := #[]
def classes : Array Class := #[k0, k1, k2, k3, k4, k5, k6, k7, k8, k9, k10, k11, k12, k13, k14]
def interned : List (Array UInt16 × Addr) := []
def slotsUsed : Nat := 0
def theMethod : MethodId := ⟨1, 1⟩
def args0 : Array Value := #[.long 5, .long 7, .long 6, .int 3]
def aboutOver (below : List Frame) : State where
  vm := { classes := classes, interned := interned.toArray }
  heap := heap
  slotsUsed := slotsUsed
  threads := #[{ frames := .invoking theMethod args0 :: below }]
def below0 : List Frame := [.native { method := ⟨0, 0⟩, args := #[] }]
def about1 : State := aboutOver below0
def p0 : Program := .bare "" "" ""
def e0 : Env := launch0.env 0 0 0
theorem w_frames : about1.frames = Frame.invoking theMethod args0 :: below0 := rfl
set_option maxRecDepth 65536 in
theorem w_args : argsFit about1.vm theMethod args0 = true := by decide +kernel
set_option maxRecDepth 65536 in
theorem w_heap : heapFits about1 = true := by decide +kernel
set_option maxRecDepth 65536 in
theorem w_runnable : about1.curStatus? = some .runnable := by decide +kernel
set_option maxRecDepth 65536 in
theorem w_alone : about1.alone = true := by decide +kernel
set_option maxRecDepth 65536 in
theorem w_named : about1.methodNamed? x = some theMethod := by decide +kernel
set_option maxRecDepth 65536 in
theorem w_hears : about1.hears theMethod below0 = true := by decide +kernel
set_option maxRecDepth 65536 in
theorem w_ripe : about1.ripe theMethod args0 below0 = true := by decide +kernel
theorem w_running : about1.status = .running := rfl
set_option maxRecDepth 65536 in
theorem w_room : about1.hasRoom e0.platform room_1 = true :=
  launch0.hasRoom_least _ room_1 (by decide +kernel) (by decide +kernel) (by decide +kernel) (by decide +kernel) (by decide +kernel) (by decide +kernel)
theorem allAtoms_all (ts : List Jvm.Cond) (a : Array Jvm.Value) (st : Jvm.State) : (allAtoms ts).before a st = ts.all (fun c => c.before a st) := by
  induction ts with
  | nil => rfl
  | cons c t ih =>
    show (Jvm.Cond.and c (allAtoms t)).before a st = _
    rw [Jvm.Cond.before_and, ih, List.all_cons]
def words1 : List Jvm.Cond := Jvm.Cond.code x code maxLocals ret :: tables_1
/-- a 'code' word, met by the world's own term for the bytes: nothing is compared byte by byte -/
theorem code_word {y : MethodName} {bytes : ByteArray} {mx : Nat} {rt : Option FieldType} {a : Array Value} {s : State} {m : MethodId} {meth : Method} {c : Code} (h1 : s.methodNamed? y = some m) (h2 : s.vm.method? m = some meth) (h3 : meth.code = some c) (h4 : c.code = bytes)
    (h5 : (c.maxLocals == mx && c.exceptionTable.isEmpty && decide (c.maxStack ≤ mostOperands) && decide (meth.sig.returnType = rt) && !meth.locks && decide (parseMethodDescriptor y.desc = some meth.sig)) = true) : (Jvm.Cond.code y bytes mx rt).before a s = true := by
  simp only [Bool.and_eq_true, beq_iff_eq, Bool.not_eq_true', decide_eq_true_eq] at h5
  obtain ⟨⟨⟨⟨⟨g1, g2⟩, g3⟩, g4⟩, g5⟩, g6⟩ := h5
  simp [Cond.before, Cond.holds, Cond.value, h1, h2, h3, h4, g1, g2, g3, g4, g5, g6]
def isCode : Jvm.Cond → Bool
  | .code _ _ _ _ => true
  | _ => false
theorem all_split {L : List Jvm.Cond} {P : Jvm.Cond → Bool} (h1 : L.all (fun c => isCode c || P c) = true) (h2 : ∀ c ∈ L.filter isCode, P c = true) : L.all P = true := by
  refine List.all_eq_true.mpr fun c hc => ?_
  have h := List.all_eq_true.mp h1 c hc
  rcases Bool.eq_false_or_eq_true (isCode c) with hi | hi
  · exact h2 c (List.mem_filter.mpr ⟨hc, hi⟩)
  · simpa [hi] using h
set_option maxRecDepth 65536 in
theorem w_c0 : (Jvm.Cond.code x code maxLocals ret).before args0 about1 = true := code_word (m := ⟨1, 1⟩) (meth := k1m1) (c := k1c1) (by decide +kernel) rfl rfl rfl (by decide +kernel)
set_option maxRecDepth 65536 in
theorem w_c1 : (Jvm.Cond.code ({ cls := "com/example/moirai/moirai/placement/HashRange", name := "<init>", desc := "(JJ)V" } : Jvm.MethodName) prog_18_method_1_code (5 : Nat) (Option.none : Option Jvm.ClassFile.FieldType)).before args0 about1 = true := code_word (m := ⟨3, 0⟩) (meth := k3m0) (c := k3c0) (by decide +kernel) rfl rfl rfl (by decide +kernel)
set_option maxRecDepth 65536 in
theorem w_c2 : (Jvm.Cond.code ({ cls := "java/lang/Record", name := "<init>", desc := "()V" } : Jvm.MethodName) jdk_30_method_1_code (1 : Nat) (Option.none : Option Jvm.ClassFile.FieldType)).before args0 about1 = true := code_word (m := ⟨2, 0⟩) (meth := k2m0) (c := k2c0) (by decide +kernel) rfl rfl rfl (by decide +kernel)
set_option maxRecDepth 65536 in
theorem w_c3 : (Jvm.Cond.code ({ cls := "java/lang/Object", name := "<init>", desc := "()V" } : Jvm.MethodName) object_method_1_code (1 : Nat) (Option.none : Option Jvm.ClassFile.FieldType)).before args0 about1 = true := code_word (m := ⟨0, 0⟩) (meth := k0m0) (c := k0c0) (by decide +kernel) rfl rfl rfl (by decide +kernel)
set_option maxRecDepth 65536 in
theorem w_c4 : (Jvm.Cond.code ({ cls := "java/lang/Long", name := "compareUnsigned", desc := "(JJ)I" } : Jvm.MethodName) jdk_35_method_43_code (4 : Nat) (Option.some Jvm.ClassFile.FieldType.int)).before args0 about1 = true := code_word (m := ⟨9, 1⟩) (meth := k9m1) (c := k9c1) (by decide +kernel) rfl rfl rfl (by decide +kernel)
set_option maxRecDepth 65536 in
theorem w_c5 : (Jvm.Cond.code ({ cls := "java/lang/Long", name := "compare", desc := "(JJ)I" } : Jvm.MethodName) jdk_35_method_42_code (4 : Nat) (Option.some Jvm.ClassFile.FieldType.int)).before args0 about1 = true := code_word (m := ⟨9, 0⟩) (meth := k9m0) (c := k9c0) (by decide +kernel) rfl rfl rfl (by decide +kernel)
set_option maxRecDepth 65536 in
theorem w_c6 : (Jvm.Cond.code ({ cls := "com/example/moirai/moirai/placement/HashRange", name := "contains", desc := "(J)Z" } : Jvm.MethodName) prog_18_method_5_code (3 : Nat) (Option.some Jvm.ClassFile.FieldType.boolean)).before args0 about1 = true := code_word (m := ⟨3, 1⟩) (meth := k3m1) (c := k3c1) (by decide +kernel) rfl rfl rfl (by decide +kernel)
def codes1 : List Jvm.Cond := [Jvm.Cond.code x code maxLocals ret, Jvm.Cond.code ({ cls := "com/example/moirai/moirai/placement/HashRange", name := "<init>", desc := "(JJ)V" } : Jvm.MethodName) prog_18_method_1_code (5 : Nat) (Option.none : Option Jvm.ClassFile.FieldType), Jvm.Cond.code ({ cls := "java/lang/Record", name := "<init>", desc := "()V" } : Jvm.MethodName) jdk_30_method_1_code (1 : Nat) (Option.none : Option Jvm.ClassFile.FieldType), Jvm.Cond.code ({ cls := "java/lang/Object", name := "<init>", desc := "()V" } : Jvm.MethodName) object_method_1_code (1 : Nat) (Option.none : Option Jvm.ClassFile.FieldType), Jvm.Cond.code ({ cls := "java/lang/Long", name := "compareUnsigned", desc := "(JJ)I" } : Jvm.MethodName) jdk_35_method_43_code (4 : Nat) (Option.some Jvm.ClassFile.FieldType.int), Jvm.Cond.code ({ cls := "java/lang/Long", name := "compare", desc := "(JJ)I" } : Jvm.MethodName) jdk_35_method_42_code (4 : Nat) (Option.some Jvm.ClassFile.FieldType.int), Jvm.Cond.code ({ cls := "com/example/moirai/moirai/placement/HashRange", name := "contains", desc := "(J)Z" } : Jvm.MethodName) prog_18_method_5_code (3 : Nat) (Option.some Jvm.ClassFile.FieldType.boolean)]
set_option maxRecDepth 65536 in
theorem codes_eq : words1.filter isCode = codes1 := rfl
theorem w_codes : ∀ c ∈ words1.filter isCode, c.before args0 about1 = true := by
  rw [codes_eq]
  intro c hc
  simp only [codes1, List.mem_cons, List.not_mem_nil, or_false] at hc
  rcases hc with rfl | rfl | rfl | rfl | rfl | rfl | rfl
  · exact w_c0
  · exact w_c1
  · exact w_c2
  · exact w_c3
  · exact w_c4
  · exact w_c5
  · exact w_c6
set_option maxRecDepth 65536 in
theorem w_t1 : (words1.take 24).all (fun c => isCode c || c.before args0 about1) = true := by decide +kernel
set_option maxRecDepth 65536 in
theorem w_t2 : (words1.drop 24).all (fun c => isCode c || c.before args0 about1) = true := by decide +kernel
theorem w_tables : (allAtoms (Jvm.Cond.code x code maxLocals ret :: tables_1)).before args0 about1 = true := by
  rw [allAtoms_all]
  show words1.all (fun c => c.before args0 about1) = true
  refine all_split ?_ w_codes
  rw [← List.take_append_drop 24 words1, List.all_append, w_t1, w_t2]
  rfl
set_option maxRecDepth 65536 in
theorem w_case : (Jvm.Cond.and given_1 narrow_1).before args0 about1 = true := by decide +kernel
theorem w_applies : (headSpec (Jvm.Cond.code x code maxLocals ret :: tables_1) room_1).applies x e0.platform about1 = true :=
  (Spec.applies_iff w_frames).mpr ⟨w_running, w_runnable, w_alone, w_named, w_hears, w_ripe, w_room, w_tables⟩
theorem atStart : AtStart classFile x code maxLocals ret World_1 tables_1 room_1 Calls_1 rest_1 Pre_1 launch0 p0 e0 about1 theMethod args0 below0 :=
  ⟨lists_1, trivial, launch0.admits_env _ _ _, launch0.least_env, fairChoices_fair.cas, fairChoices_fair.clock, w_frames, w_args, w_heap, w_applies, trivial, trivial, w_case⟩
end start1
theorem witness_1 : WitnessClaimed_1 := ⟨start1.p0, start1.e0, start1.about1, start1.theMethod, start1.args0, start1.below0, start1.atStart⟩
end Jvm.Pilot.@@N@@
