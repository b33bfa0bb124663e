import JvmDerived
import JvmDerived.Pilot.@@N@@Statement
import JvmDerived.Pilot.@@N@@Code
set_option linter.unusedVariables false
set_option linter.unusedSimpArgs false
namespace Jvm.Pilot.@@N@@
open Jvm Jvm.ClassFile Sem Op Lib Jvm.Free Jvm.Stand Jvm.LawKit Jvm.RoadKit Bundle Jvm.Pilot.@@N@@.Jvm.D
section Own
variable {p : Program} {l : Launch} {e : Env} {R : Room} {s : State} {m : MethodId} {args : Array Value} {below : List Frame} {meth : Method} {c : Code} {Z : State} {a0 : Array Value} {n0 : Nat} {Q : Option Value → Heap → Prop} {Kf : State → Outcome → Prop} {h : Heap} {k q : Nat} {own nm : String} {bytes : ByteArray} {maxL : Nat} {ret : Option FieldType} {pc pc' pc1 pc2 : Nat} {Ls Ls' : Array Slot} {rest : List Value}
/-- how a run of the body ends: it returns, nothing old is written, and Q holds of what is returned and of the heap -/
def own_K (below : List Frame) (R : Room) (s : State) (n0 : Nat) (Q : Option Value → Heap → Prop) (t : State) (o : Outcome) : Prop :=
  t.status = .running ∧ Ended t below o ∧ ∃ v L, o = .returned v ∧ (Fr n0 L ∧ Q v t.heap) ∧ FrameEnd s o t L R.cells R.slots
/-- from the frame g, with the heap h, k cells and q slots made so far: the run ends as own_K says -/
def own_Run (p : Program) (l : Launch) (e : Env) (R : Room) (s : State) (m : MethodId) (args : Array Value) (below : List Frame) (meth : Method) (c : Code) (n0 : Nat) (Kf : State → Outcome → Prop) (h : Heap) (k q : Nat) (g : JFrame) : Prop :=
  ∀ (T : State) (locs : List Loc), Stand p l e R s m args below meth c T locs k q → T.heap = h → Fr n0 locs → ∃ t o, Steps p.tables e below (T.setTop g) t ∧ Kf t o
/-- what stands fast through a body -/
def own_Ctx (p : Program) (s : State) (m : MethodId) (meth : Method) (c : Code) (Z : State) (own nm : String) (bytes : ByteArray) (maxL : Nat) (ret : Option FieldType) : Prop :=
  p.tables.exec = Jvm.exec ∧ Z.Warmed39 s.vm ∧ s.vm.findClass own = some m.cls ∧ c.code = bytes ∧ c.maxLocals = maxL ∧ meth.sig.returnType = ret ∧ meth.locks = false ∧ meth.name = nm
theorem own_Ctx.g_x (C : own_Ctx p s m meth c Z own nm bytes maxL ret) : p.tables.exec = Jvm.exec := C.1
theorem own_Ctx.g_z (C : own_Ctx p s m meth c Z own nm bytes maxL ret) : Z.Warmed39 s.vm := C.2.1
theorem own_Ctx.g_own (C : own_Ctx p s m meth c Z own nm bytes maxL ret) : s.vm.findClass own = some m.cls := C.2.2.1
theorem own_Ctx.g_by (C : own_Ctx p s m meth c Z own nm bytes maxL ret) : c.code = bytes := C.2.2.2.1
theorem own_Ctx.g_ml (C : own_Ctx p s m meth c Z own nm bytes maxL ret) : c.maxLocals = maxL := C.2.2.2.2.1
theorem own_Ctx.g_rt (C : own_Ctx p s m meth c Z own nm bytes maxL ret) : meth.sig.returnType = ret := C.2.2.2.2.2.1
theorem own_Ctx.g_lk (C : own_Ctx p s m meth c Z own nm bytes maxL ret) : meth.locks = false := C.2.2.2.2.2.2.1
theorem own_Ctx.g_nm (C : own_Ctx p s m meth c Z own nm bytes maxL ret) : meth.name = nm := C.2.2.2.2.2.2.2
/-- a method's contract: called with these arguments at the heap h, it returns as Q says -/
def own_Met (l : Launch) (Z : State) (n0 : Nat) (y : MethodName) (bytes : ByteArray) (maxL : Nat) (ret : Option FieldType) (rm : Room) (ws : List Jvm.Cond) (as' : Array Value) (h : Heap) (Q : Option Value → Heap → Prop) : Prop :=
  MetFree l y (head1 (Jvm.Cond.code y bytes maxL ret :: ws) rm) (fun a U => a = as' ∧ Z.Warmed39 U.vm ∧ U.heap = h) (fun _ _ _ _ _ => True) (fun _ U o U' => ∃ v L, o = .returned v ∧ (Fr n0 L ∧ Q v U'.heap) ∧ FrameEnd U o U' L rm.cells rm.slots)
theorem own_met {y : MethodName} {rm : Room} {ws : List Jvm.Cond} {as' : Array Value} (hn : plainName y.cls = true) (Ls : Array Slot) (hef : ∀ m : MethodId, entryFrame m as' maxL = mkF m 0 Ls [])
    (body : ∀ (p : Program) (e : Env) (s : State) (m : MethodId) (below : List Frame) (meth : Method) (c : Code), own_Ctx p s m meth c Z y.cls y.name bytes maxL ret → own_Run p l e rm s m as' below meth c n0 (own_K below rm s n0 Q) h 0 0 (mkF m 0 Ls [])) :
    own_Met l Z n0 y bytes maxL ret rm ws as' h Q := by
  refine MetFree.of_bodySF (plainFor_of_name hn) hisR ?_
  intro p e s m args below meth c s₁ Bd hml0 hP hK
  obtain ⟨rfl, hZ, hh⟩ := hP
  have C : own_Ctx p s m meth c Z y.cls y.name bytes maxL ret := ⟨Bd.exec, hZ, findClass_of_methodNamed Bd.named, Bd.bytes, hml0, Bd.returns, BodyLoose.notSynchronized Bd, (name_of_methodNamed Bd.named Bd.method).1⟩
  obtain ⟨t, o, h1, h2, h3, h4⟩ := body p e s m below meth c C s₁ [] (Stand.of_body Bd) (by rw [← hh, Bd.state]; rfl) (Fr.nil n0)
  exact ⟨t, o, castTop (hef m) h1, h2, h3, h4⟩
theorem own_st {g g' : JFrame} (h1 : ∀ (T : State) (locs : List Loc), Stand p l e R s m args below meth c T locs k q → T.heap = h → ∀ target, Steps p.tables e below (T.setTop g') target → Steps p.tables e below (T.setTop g) target) (r : own_Run p l e R s m args below meth c n0 Kf h k q g') : own_Run p l e R s m args below meth c n0 Kf h k q g := fun T locs X eT N => by
  obtain ⟨t, o, h2, h3⟩ := r T locs X eT N
  exact ⟨t, o, h1 T locs X eT t h2, h3⟩
theorem own_more {k' q' : Nat} {g : JFrame} (hk : k ≤ k') (hq : q ≤ q') (r : own_Run p l e R s m args below meth c n0 Kf h k' q' g) : own_Run p l e R s m args below meth c n0 Kf h k q g := fun T locs X eT N => r T locs (X.more hk hq) eT N
theorem own_iloadN (C : own_Ctx p s m meth c Z own nm bytes maxL ret) {i : Fin 4} {v : Int32} (hd : decode bytes pc = .ok (.iload_n i, 1)) (hp : pc + 1 = pc') (hl : Ls[i.val]? = some (.val (.int v))) (r : own_Run p l e R s m args below meth c n0 Kf h k q (mkF m pc' Ls (.int v :: rest))) : own_Run p l e R s m args below meth c n0 Kf h k q (mkF m pc Ls (rest)) :=
  own_st (fun T locs X eT t kk => by subst hp; exact Jvm.Free.XS.iloadN X.here C.g_x rfl (hb C.g_by hd) hl kk) r
theorem own_iload (C : own_Ctx p s m meth c Z own nm bytes maxL ret) {i : Nat} {v : Int32} (hd : decode bytes pc = .ok (.iload i, 2)) (hp : pc + 2 = pc') (hl : Ls[i]? = some (.val (.int v))) (r : own_Run p l e R s m args below meth c n0 Kf h k q (mkF m pc' Ls (.int v :: rest))) : own_Run p l e R s m args below meth c n0 Kf h k q (mkF m pc Ls (rest)) :=
  own_st (fun T locs X eT t kk => by subst hp; exact Jvm.Free.XS.iload X.here C.g_x rfl (hb C.g_by hd) hl kk) r
theorem own_lloadN (C : own_Ctx p s m meth c Z own nm bytes maxL ret) {i : Fin 4} {v : Int64} (hd : decode bytes pc = .ok (.lload_n i, 1)) (hp : pc + 1 = pc') (hl : Ls[i.val]? = some (.val (.long v))) (r : own_Run p l e R s m args below meth c n0 Kf h k q (mkF m pc' Ls (.long v :: rest))) : own_Run p l e R s m args below meth c n0 Kf h k q (mkF m pc Ls (rest)) :=
  own_st (fun T locs X eT t kk => by subst hp; exact Jvm.Free.XT.lloadN X.here C.g_x rfl (hb C.g_by hd) hl kk) r
theorem own_lload (C : own_Ctx p s m meth c Z own nm bytes maxL ret) {i : Nat} {v : Int64} (hd : decode bytes pc = .ok (.lload i, 2)) (hp : pc + 2 = pc') (hl : Ls[i]? = some (.val (.long v))) (r : own_Run p l e R s m args below meth c n0 Kf h k q (mkF m pc' Ls (.long v :: rest))) : own_Run p l e R s m args below meth c n0 Kf h k q (mkF m pc Ls (rest)) :=
  own_st (fun T locs X eT t kk => by subst hp; exact Jvm.Free.XT.lload X.here C.g_x rfl (hb C.g_by hd) hl kk) r
theorem own_aloadN (C : own_Ctx p s m meth c Z own nm bytes maxL ret) {i : Fin 4} {v : Value} (hd : decode bytes pc = .ok (.aload_n i, 1)) (hp : pc + 1 = pc') (hl : Ls[i.val]? = some (.val v)) (hv : v.isRef = true) (r : own_Run p l e R s m args below meth c n0 Kf h k q (mkF m pc' Ls (v :: rest))) : own_Run p l e R s m args below meth c n0 Kf h k q (mkF m pc Ls (rest)) :=
  own_st (fun T locs X eT t kk => by subst hp; exact Jvm.Free.XS.aloadN X.here C.g_x rfl (hb C.g_by hd) hl hv kk) r
theorem own_aload (C : own_Ctx p s m meth c Z own nm bytes maxL ret) {i : Nat} {v : Value} (hd : decode bytes pc = .ok (.aload i, 2)) (hp : pc + 2 = pc') (hl : Ls[i]? = some (.val v)) (hv : v.isRef = true) (r : own_Run p l e R s m args below meth c n0 Kf h k q (mkF m pc' Ls (v :: rest))) : own_Run p l e R s m args below meth c n0 Kf h k q (mkF m pc Ls (rest)) :=
  own_st (fun T locs X eT t kk => by subst hp; exact Jvm.Free.XS.aload X.here C.g_x rfl (hb C.g_by hd) hl hv kk) r
theorem own_istoreN (C : own_Ctx p s m meth c Z own nm bytes maxL ret) {i : Fin 4} {v : Int32} (hd : decode bytes pc = .ok (.istore_n i, 1)) (hp : pc + 1 = pc') (hl : storeLocals Ls i.val (.int v) = some Ls') (r : own_Run p l e R s m args below meth c n0 Kf h k q (mkF m pc' Ls' (rest))) : own_Run p l e R s m args below meth c n0 Kf h k q (mkF m pc Ls (.int v :: rest)) :=
  own_st (fun T locs X eT t kk => by subst hp; exact Jvm.Free.XS.istoreN X.here C.g_x rfl (hb C.g_by hd) rfl hl kk) r
theorem own_istore (C : own_Ctx p s m meth c Z own nm bytes maxL ret) {i : Nat} {v : Int32} (hd : decode bytes pc = .ok (.istore i, 2)) (hp : pc + 2 = pc') (hl : storeLocals Ls i (.int v) = some Ls') (r : own_Run p l e R s m args below meth c n0 Kf h k q (mkF m pc' Ls' (rest))) : own_Run p l e R s m args below meth c n0 Kf h k q (mkF m pc Ls (.int v :: rest)) :=
  own_st (fun T locs X eT t kk => by subst hp; exact Jvm.Free.XS.istore X.here C.g_x rfl (hb C.g_by hd) rfl hl kk) r
theorem own_lstoreN (C : own_Ctx p s m meth c Z own nm bytes maxL ret) {i : Fin 4} {v : Int64} (hd : decode bytes pc = .ok (.lstore_n i, 1)) (hp : pc + 1 = pc') (hl : storeLocals Ls i.val (.long v) = some Ls') (r : own_Run p l e R s m args below meth c n0 Kf h k q (mkF m pc' Ls' (rest))) : own_Run p l e R s m args below meth c n0 Kf h k q (mkF m pc Ls (.long v :: rest)) :=
  own_st (fun T locs X eT t kk => by subst hp; exact Jvm.Free.XT.lstoreN X.here C.g_x rfl (hb C.g_by hd) rfl hl kk) r
theorem own_lstore (C : own_Ctx p s m meth c Z own nm bytes maxL ret) {i : Nat} {v : Int64} (hd : decode bytes pc = .ok (.lstore i, 2)) (hp : pc + 2 = pc') (hl : storeLocals Ls i (.long v) = some Ls') (r : own_Run p l e R s m args below meth c n0 Kf h k q (mkF m pc' Ls' (rest))) : own_Run p l e R s m args below meth c n0 Kf h k q (mkF m pc Ls (.long v :: rest)) :=
  own_st (fun T locs X eT t kk => by subst hp; exact Jvm.Free.XT.lstore X.here C.g_x rfl (hb C.g_by hd) rfl hl kk) r
theorem own_astoreN (C : own_Ctx p s m meth c Z own nm bytes maxL ret) {i : Fin 4} {v : Value} (hd : decode bytes pc = .ok (.astore_n i, 1)) (hp : pc + 1 = pc') (hv : v.isRef = true) (hl : storeLocals Ls i.val v = some Ls') (r : own_Run p l e R s m args below meth c n0 Kf h k q (mkF m pc' Ls' (rest))) : own_Run p l e R s m args below meth c n0 Kf h k q (mkF m pc Ls (v :: rest)) :=
  own_st (fun T locs X eT t kk => by subst hp; exact Jvm.Free.XS.astoreN X.here C.g_x rfl (hb C.g_by hd) rfl hv hl kk) r
theorem own_astore (C : own_Ctx p s m meth c Z own nm bytes maxL ret) {i : Nat} {v : Value} (hd : decode bytes pc = .ok (.astore i, 2)) (hp : pc + 2 = pc') (hv : v.isRef = true) (hl : storeLocals Ls i v = some Ls') (r : own_Run p l e R s m args below meth c n0 Kf h k q (mkF m pc' Ls' (rest))) : own_Run p l e R s m args below meth c n0 Kf h k q (mkF m pc Ls (v :: rest)) :=
  own_st (fun T locs X eT t kk => by subst hp; exact Jvm.Free.XS.astore X.here C.g_x rfl (hb C.g_by hd) rfl hv hl kk) r
theorem own_iinc (C : own_Ctx p s m meth c Z own nm bytes maxL ret) {i : Nat} {cst : Int} {v w : Int32} (hd : decode bytes pc = .ok (.iinc i cst, 3)) (hp : pc + 3 = pc') (hv : Int32.ofInt cst = w) (hl : Ls[i]? = some (.val (.int v))) (hl' : storeLocals Ls i (.int (v + w)) = some Ls') (r : own_Run p l e R s m args below meth c n0 Kf h k q (mkF m pc' Ls' (rest))) : own_Run p l e R s m args below meth c n0 Kf h k q (mkF m pc Ls (rest)) :=
  own_st (fun T locs X eT t kk => by subst hp; exact Jvm.Free.XT.iincV X.here C.g_x rfl w (hb C.g_by hd) hv hl hl' kk) r
theorem own_iincV (C : own_Ctx p s m meth c Z own nm bytes maxL ret) {i : Nat} {cst : Int} {v w x : Int32} (hd : decode bytes pc = .ok (.iinc i cst, 3)) (hp : pc + 3 = pc') (hv : Int32.ofInt cst = w) (hs : v + w = x) (hl : Ls[i]? = some (.val (.int v))) (hl' : storeLocals Ls i (.int x) = some Ls') (r : own_Run p l e R s m args below meth c n0 Kf h k q (mkF m pc' Ls' (rest))) : own_Run p l e R s m args below meth c n0 Kf h k q (mkF m pc Ls (rest)) :=
  own_st (fun T locs X eT t kk => by subst hp; exact Jvm.Free.XT.iincV X.here C.g_x rfl w (hb C.g_by hd) hv hl (by rw [hs]; exact hl') kk) r
theorem own_iconst (C : own_Ctx p s m meth c Z own nm bytes maxL ret) {i : Int} {v : Int32} (hd : decode bytes pc = .ok (.iconst i, 1)) (hp : pc + 1 = pc') (hv : Int32.ofInt i = v) (r : own_Run p l e R s m args below meth c n0 Kf h k q (mkF m pc' Ls (.int v :: rest))) : own_Run p l e R s m args below meth c n0 Kf h k q (mkF m pc Ls (rest)) :=
  own_st (fun T locs X eT t kk => by subst hp; exact Jvm.Free.XT.iconstV X.here C.g_x rfl v (hb C.g_by hd) hv kk) r
theorem own_bipush (C : own_Ctx p s m meth c Z own nm bytes maxL ret) {i : Int} {v : Int32} (hd : decode bytes pc = .ok (.bipush i, 2)) (hp : pc + 2 = pc') (hv : (Int8.ofInt i).toInt32 = v) (r : own_Run p l e R s m args below meth c n0 Kf h k q (mkF m pc' Ls (.int v :: rest))) : own_Run p l e R s m args below meth c n0 Kf h k q (mkF m pc Ls (rest)) :=
  own_st (fun T locs X eT t kk => by subst hp; exact Jvm.Free.XT.bipushV X.here C.g_x rfl v (hb C.g_by hd) hv kk) r
theorem own_sipush (C : own_Ctx p s m meth c Z own nm bytes maxL ret) {i : Int} {v : Int32} (hd : decode bytes pc = .ok (.sipush i, 3)) (hp : pc + 3 = pc') (hv : (Int16.ofInt i).toInt32 = v) (r : own_Run p l e R s m args below meth c n0 Kf h k q (mkF m pc' Ls (.int v :: rest))) : own_Run p l e R s m args below meth c n0 Kf h k q (mkF m pc Ls (rest)) :=
  own_st (fun T locs X eT t kk => by subst hp; exact Jvm.Free.XT.sipushV X.here C.g_x rfl v (hb C.g_by hd) hv kk) r
theorem own_lconst (C : own_Ctx p s m meth c Z own nm bytes maxL ret) {i : Fin 2} {v : Int64} (hd : decode bytes pc = .ok (.lconst i, 1)) (hp : pc + 1 = pc') (hv : Int64.ofNat i = v) (r : own_Run p l e R s m args below meth c n0 Kf h k q (mkF m pc' Ls (.long v :: rest))) : own_Run p l e R s m args below meth c n0 Kf h k q (mkF m pc Ls (rest)) :=
  own_st (fun T locs X eT t kk => by subst hp; exact Jvm.Free.XT.lconstV X.here C.g_x rfl v (hb C.g_by hd) hv kk) r
theorem own_aconst (C : own_Ctx p s m meth c Z own nm bytes maxL ret)  (hd : decode bytes pc = .ok (.aconst_null, 1)) (hp : pc + 1 = pc')  (r : own_Run p l e R s m args below meth c n0 Kf h k q (mkF m pc' Ls (.null :: rest))) : own_Run p l e R s m args below meth c n0 Kf h k q (mkF m pc Ls (rest)) :=
  own_st (fun T locs X eT t kk => by subst hp; exact Jvm.Free.XS.aconstNull X.here C.g_x rfl (hb C.g_by hd) kk) r
theorem own_ldc (C : own_Ctx p s m meth c Z own nm bytes maxL ret) {i : Nat} {v : Int32} (hd : decode bytes pc = .ok (.ldc i, 2)) (hp : pc + 2 = pc') (hc : (Jvm.Cond.constant own i v).before a0 Z = true) (r : own_Run p l e R s m args below meth c n0 Kf h k q (mkF m pc' Ls (.int v :: rest))) : own_Run p l e R s m args below meth c n0 Kf h k q (mkF m pc Ls (rest)) :=
  own_st (fun T locs X eT t kk => by subst hp; exact X.ldcI C.g_x C.g_own (mvT C.g_z hc) rfl (hb C.g_by hd) kk) r
theorem own_ldc2 (C : own_Ctx p s m meth c Z own nm bytes maxL ret) {i : Nat} {v : Int64} (hd : decode bytes pc = .ok (.ldc2_w i, 3)) (hp : pc + 3 = pc') (hc : (Jvm.Cond.constantLong own i v).before a0 Z = true) (r : own_Run p l e R s m args below meth c n0 Kf h k q (mkF m pc' Ls (.long v :: rest))) : own_Run p l e R s m args below meth c n0 Kf h k q (mkF m pc Ls (rest)) :=
  own_st (fun T locs X eT t kk => by subst hp; exact X.ldc2J C.g_x C.g_own (mvT C.g_z hc) rfl (hb C.g_by hd) kk) r
theorem own_dup (C : own_Ctx p s m meth c Z own nm bytes maxL ret) {v : Value} (hd : decode bytes pc = .ok (.dup, 1)) (hp : pc + 1 = pc') (hc : v.category = 1) (r : own_Run p l e R s m args below meth c n0 Kf h k q (mkF m pc' Ls (v :: v :: rest))) : own_Run p l e R s m args below meth c n0 Kf h k q (mkF m pc Ls (v :: rest)) :=
  own_st (fun T locs X eT t kk => by subst hp; exact Jvm.Free.XS.dup X.here C.g_x rfl (hb C.g_by hd) rfl hc kk) r
theorem own_pop (C : own_Ctx p s m meth c Z own nm bytes maxL ret) {v : Value} (hd : decode bytes pc = .ok (.pop, 1)) (hp : pc + 1 = pc') (hc : v.category = 1) (r : own_Run p l e R s m args below meth c n0 Kf h k q (mkF m pc' Ls (rest))) : own_Run p l e R s m args below meth c n0 Kf h k q (mkF m pc Ls (v :: rest)) :=
  own_st (fun T locs X eT t kk => by subst hp; exact Jvm.Free.XT.pop X.here C.g_x rfl (hb C.g_by hd) rfl hc kk) r
theorem own_dupX1 (C : own_Ctx p s m meth c Z own nm bytes maxL ret) {v w : Value} (hd : decode bytes pc = .ok (.dup_x1, 1)) (hp : pc + 1 = pc') (hc : v.category = 1) (hc' : w.category = 1) (r : own_Run p l e R s m args below meth c n0 Kf h k q (mkF m pc' Ls (v :: w :: v :: rest))) : own_Run p l e R s m args below meth c n0 Kf h k q (mkF m pc Ls (v :: w :: rest)) :=
  own_st (fun T locs X eT t kk => by subst hp; exact Jvm.Free.XT.dupX1 X.here C.g_x rfl (hb C.g_by hd) rfl hc hc' kk) r
theorem own_dup2 (C : own_Ctx p s m meth c Z own nm bytes maxL ret) {v w : Value} (hd : decode bytes pc = .ok (.dup2, 1)) (hp : pc + 1 = pc') (hc : v.category = 1) (hc' : w.category = 1) (r : own_Run p l e R s m args below meth c n0 Kf h k q (mkF m pc' Ls (v :: w :: v :: w :: rest))) : own_Run p l e R s m args below meth c n0 Kf h k q (mkF m pc Ls (v :: w :: rest)) :=
  own_st (fun T locs X eT t kk => by subst hp; exact Jvm.Free.XT.dup2 X.here C.g_x rfl (hb C.g_by hd) rfl hc hc' kk) r
theorem own_iadd (C : own_Ctx p s m meth c Z own nm bytes maxL ret) {x y : Int32} (hd : decode bytes pc = .ok (.iadd, 1)) (hp : pc + 1 = pc')  (r : own_Run p l e R s m args below meth c n0 Kf h k q (mkF m pc' Ls (.int (x + y) :: rest))) : own_Run p l e R s m args below meth c n0 Kf h k q (mkF m pc Ls (.int y :: .int x :: rest)) :=
  own_st (fun T locs X eT t kk => by subst hp; exact Jvm.Free.XS.iadd X.here C.g_x rfl (hb C.g_by hd) rfl kk) r
theorem own_isub (C : own_Ctx p s m meth c Z own nm bytes maxL ret) {x y : Int32} (hd : decode bytes pc = .ok (.isub, 1)) (hp : pc + 1 = pc')  (r : own_Run p l e R s m args below meth c n0 Kf h k q (mkF m pc' Ls (.int (x - y) :: rest))) : own_Run p l e R s m args below meth c n0 Kf h k q (mkF m pc Ls (.int y :: .int x :: rest)) :=
  own_st (fun T locs X eT t kk => by subst hp; exact Jvm.Free.XS.isub X.here C.g_x rfl (hb C.g_by hd) rfl kk) r
theorem own_iand (C : own_Ctx p s m meth c Z own nm bytes maxL ret) {x y : Int32} (hd : decode bytes pc = .ok (.iand, 1)) (hp : pc + 1 = pc')  (r : own_Run p l e R s m args below meth c n0 Kf h k q (mkF m pc' Ls (.int (x &&& y) :: rest))) : own_Run p l e R s m args below meth c n0 Kf h k q (mkF m pc Ls (.int y :: .int x :: rest)) :=
  own_st (fun T locs X eT t kk => by subst hp; exact Jvm.Free.XS.iand X.here C.g_x rfl (hb C.g_by hd) rfl kk) r
theorem own_imul (C : own_Ctx p s m meth c Z own nm bytes maxL ret) {x y : Int32} (hd : decode bytes pc = .ok (.imul, 1)) (hp : pc + 1 = pc')  (r : own_Run p l e R s m args below meth c n0 Kf h k q (mkF m pc' Ls (.int (x * y) :: rest))) : own_Run p l e R s m args below meth c n0 Kf h k q (mkF m pc Ls (.int y :: .int x :: rest)) :=
  own_st (fun T locs X eT t kk => by subst hp; exact Jvm.Free.XS.imul X.here C.g_x rfl (hb C.g_by hd) rfl kk) r
theorem own_ior (C : own_Ctx p s m meth c Z own nm bytes maxL ret) {x y : Int32} (hd : decode bytes pc = .ok (.ior, 1)) (hp : pc + 1 = pc')  (r : own_Run p l e R s m args below meth c n0 Kf h k q (mkF m pc' Ls (.int (x ||| y) :: rest))) : own_Run p l e R s m args below meth c n0 Kf h k q (mkF m pc Ls (.int y :: .int x :: rest)) :=
  own_st (fun T locs X eT t kk => by subst hp; exact Jvm.Free.XT.ior X.here C.g_x rfl (hb C.g_by hd) rfl kk) r
theorem own_ixor (C : own_Ctx p s m meth c Z own nm bytes maxL ret) {x y : Int32} (hd : decode bytes pc = .ok (.ixor, 1)) (hp : pc + 1 = pc')  (r : own_Run p l e R s m args below meth c n0 Kf h k q (mkF m pc' Ls (.int (x ^^^ y) :: rest))) : own_Run p l e R s m args below meth c n0 Kf h k q (mkF m pc Ls (.int y :: .int x :: rest)) :=
  own_st (fun T locs X eT t kk => by subst hp; exact Jvm.Free.XT.ixor X.here C.g_x rfl (hb C.g_by hd) rfl kk) r
theorem own_ishl (C : own_Ctx p s m meth c Z own nm bytes maxL ret) {x y : Int32} (hd : decode bytes pc = .ok (.ishl, 1)) (hp : pc + 1 = pc')  (r : own_Run p l e R s m args below meth c n0 Kf h k q (mkF m pc' Ls (.int (x <<< (y &&& 31)) :: rest))) : own_Run p l e R s m args below meth c n0 Kf h k q (mkF m pc Ls (.int y :: .int x :: rest)) :=
  own_st (fun T locs X eT t kk => by subst hp; exact Jvm.Free.XT.ishl X.here C.g_x rfl (hb C.g_by hd) rfl kk) r
theorem own_ishr (C : own_Ctx p s m meth c Z own nm bytes maxL ret) {x y : Int32} (hd : decode bytes pc = .ok (.ishr, 1)) (hp : pc + 1 = pc')  (r : own_Run p l e R s m args below meth c n0 Kf h k q (mkF m pc' Ls (.int (x >>> (y &&& 31)) :: rest))) : own_Run p l e R s m args below meth c n0 Kf h k q (mkF m pc Ls (.int y :: .int x :: rest)) :=
  own_st (fun T locs X eT t kk => by subst hp; exact Jvm.Free.XT.ishr X.here C.g_x rfl (hb C.g_by hd) rfl kk) r
theorem own_iushr (C : own_Ctx p s m meth c Z own nm bytes maxL ret) {x y : Int32} (hd : decode bytes pc = .ok (.iushr, 1)) (hp : pc + 1 = pc')  (r : own_Run p l e R s m args below meth c n0 Kf h k q (mkF m pc' Ls (.int (Jvm.Free.XT.ushr x y) :: rest))) : own_Run p l e R s m args below meth c n0 Kf h k q (mkF m pc Ls (.int y :: .int x :: rest)) :=
  own_st (fun T locs X eT t kk => by subst hp; exact Jvm.Free.XT.iushr X.here C.g_x rfl (hb C.g_by hd) rfl kk) r
theorem own_irem (C : own_Ctx p s m meth c Z own nm bytes maxL ret) {x y : Int32} (hd : decode bytes pc = .ok (.irem, 1)) (hp : pc + 1 = pc') (hy : y ≠ 0) (r : own_Run p l e R s m args below meth c n0 Kf h k q (mkF m pc' Ls (.int (x % y) :: rest))) : own_Run p l e R s m args below meth c n0 Kf h k q (mkF m pc Ls (.int y :: .int x :: rest)) :=
  own_st (fun T locs X eT t kk => by subst hp; exact iremM X C.g_x rfl (hb C.g_by hd) rfl hy kk) r
theorem own_idivV (C : own_Ctx p s m meth c Z own nm bytes maxL ret) {x y v : Int32} (hd : decode bytes pc = .ok (.idiv, 1)) (hp : pc + 1 = pc') (hy : y ≠ 0) (hv : x / y = v) (r : own_Run p l e R s m args below meth c n0 Kf h k q (mkF m pc' Ls (.int v :: rest))) : own_Run p l e R s m args below meth c n0 Kf h k q (mkF m pc Ls (.int y :: .int x :: rest)) :=
  own_st (fun T locs X eT t kk => by subst hp; exact Jvm.Free.XS.idiv X.here C.g_x rfl (hb C.g_by hd) rfl hy (by rw [hv]; exact kk)) r
theorem own_ineg (C : own_Ctx p s m meth c Z own nm bytes maxL ret) {x : Int32} (hd : decode bytes pc = .ok (.ineg, 1)) (hp : pc + 1 = pc')  (r : own_Run p l e R s m args below meth c n0 Kf h k q (mkF m pc' Ls (.int (-x) :: rest))) : own_Run p l e R s m args below meth c n0 Kf h k q (mkF m pc Ls (.int x :: rest)) :=
  own_st (fun T locs X eT t kk => by subst hp; exact Jvm.Free.XS.ineg X.here C.g_x rfl (hb C.g_by hd) rfl kk) r
theorem own_ladd (C : own_Ctx p s m meth c Z own nm bytes maxL ret) {x y : Int64} (hd : decode bytes pc = .ok (.ladd, 1)) (hp : pc + 1 = pc')  (r : own_Run p l e R s m args below meth c n0 Kf h k q (mkF m pc' Ls (.long (x + y) :: rest))) : own_Run p l e R s m args below meth c n0 Kf h k q (mkF m pc Ls (.long y :: .long x :: rest)) :=
  own_st (fun T locs X eT t kk => by subst hp; exact Jvm.Free.XT.ladd X.here C.g_x rfl (hb C.g_by hd) rfl kk) r
theorem own_lsub (C : own_Ctx p s m meth c Z own nm bytes maxL ret) {x y : Int64} (hd : decode bytes pc = .ok (.lsub, 1)) (hp : pc + 1 = pc')  (r : own_Run p l e R s m args below meth c n0 Kf h k q (mkF m pc' Ls (.long (x - y) :: rest))) : own_Run p l e R s m args below meth c n0 Kf h k q (mkF m pc Ls (.long y :: .long x :: rest)) :=
  own_st (fun T locs X eT t kk => by subst hp; exact Jvm.Free.XT.lsub X.here C.g_x rfl (hb C.g_by hd) rfl kk) r
theorem own_land (C : own_Ctx p s m meth c Z own nm bytes maxL ret) {x y : Int64} (hd : decode bytes pc = .ok (.land, 1)) (hp : pc + 1 = pc')  (r : own_Run p l e R s m args below meth c n0 Kf h k q (mkF m pc' Ls (.long (x &&& y) :: rest))) : own_Run p l e R s m args below meth c n0 Kf h k q (mkF m pc Ls (.long y :: .long x :: rest)) :=
  own_st (fun T locs X eT t kk => by subst hp; exact Jvm.Free.XT.land X.here C.g_x rfl (hb C.g_by hd) rfl kk) r
theorem own_lor (C : own_Ctx p s m meth c Z own nm bytes maxL ret) {x y : Int64} (hd : decode bytes pc = .ok (.lor, 1)) (hp : pc + 1 = pc')  (r : own_Run p l e R s m args below meth c n0 Kf h k q (mkF m pc' Ls (.long (x ||| y) :: rest))) : own_Run p l e R s m args below meth c n0 Kf h k q (mkF m pc Ls (.long y :: .long x :: rest)) :=
  own_st (fun T locs X eT t kk => by subst hp; exact Jvm.Free.XT.lor X.here C.g_x rfl (hb C.g_by hd) rfl kk) r
theorem own_lxor (C : own_Ctx p s m meth c Z own nm bytes maxL ret) {x y : Int64} (hd : decode bytes pc = .ok (.lxor, 1)) (hp : pc + 1 = pc')  (r : own_Run p l e R s m args below meth c n0 Kf h k q (mkF m pc' Ls (.long (x ^^^ y) :: rest))) : own_Run p l e R s m args below meth c n0 Kf h k q (mkF m pc Ls (.long y :: .long x :: rest)) :=
  own_st (fun T locs X eT t kk => by subst hp; exact Jvm.Free.XT.lxor X.here C.g_x rfl (hb C.g_by hd) rfl kk) r
theorem own_lmul (C : own_Ctx p s m meth c Z own nm bytes maxL ret) {x y : Int64} (hd : decode bytes pc = .ok (.lmul, 1)) (hp : pc + 1 = pc')  (r : own_Run p l e R s m args below meth c n0 Kf h k q (mkF m pc' Ls (.long (x * y) :: rest))) : own_Run p l e R s m args below meth c n0 Kf h k q (mkF m pc Ls (.long y :: .long x :: rest)) :=
  own_st (fun T locs X eT t kk => by subst hp; exact Jvm.Free.XT.lmul X.here C.g_x rfl (hb C.g_by hd) rfl kk) r
theorem own_lcmp (C : own_Ctx p s m meth c Z own nm bytes maxL ret) {x y : Int64} (hd : decode bytes pc = .ok (.lcmp, 1)) (hp : pc + 1 = pc')  (r : own_Run p l e R s m args below meth c n0 Kf h k q (mkF m pc' Ls (.int (Jvm.Free.XT.cmpL x y) :: rest))) : own_Run p l e R s m args below meth c n0 Kf h k q (mkF m pc Ls (.long y :: .long x :: rest)) :=
  own_st (fun T locs X eT t kk => by subst hp; exact Jvm.Free.XT.lcmp X.here C.g_x rfl (hb C.g_by hd) rfl kk) r
theorem own_lshl (C : own_Ctx p s m meth c Z own nm bytes maxL ret) {x : Int64} {y : Int32} (hd : decode bytes pc = .ok (.lshl, 1)) (hp : pc + 1 = pc')  (r : own_Run p l e R s m args below meth c n0 Kf h k q (mkF m pc' Ls (.long (x <<< (y.toInt64 &&& 63)) :: rest))) : own_Run p l e R s m args below meth c n0 Kf h k q (mkF m pc Ls (.int y :: .long x :: rest)) :=
  own_st (fun T locs X eT t kk => by subst hp; exact Jvm.Free.XT.lshl X.here C.g_x rfl (hb C.g_by hd) rfl kk) r
theorem own_i2l (C : own_Ctx p s m meth c Z own nm bytes maxL ret) {x : Int32} (hd : decode bytes pc = .ok (.i2l, 1)) (hp : pc + 1 = pc')  (r : own_Run p l e R s m args below meth c n0 Kf h k q (mkF m pc' Ls (.long (x.toInt64) :: rest))) : own_Run p l e R s m args below meth c n0 Kf h k q (mkF m pc Ls (.int x :: rest)) :=
  own_st (fun T locs X eT t kk => by subst hp; exact Jvm.Free.XT.i2l X.here C.g_x rfl (hb C.g_by hd) rfl kk) r
theorem own_l2i (C : own_Ctx p s m meth c Z own nm bytes maxL ret) {x : Int64} (hd : decode bytes pc = .ok (.l2i, 1)) (hp : pc + 1 = pc')  (r : own_Run p l e R s m args below meth c n0 Kf h k q (mkF m pc' Ls (.int (x.toInt32) :: rest))) : own_Run p l e R s m args below meth c n0 Kf h k q (mkF m pc Ls (.long x :: rest)) :=
  own_st (fun T locs X eT t kk => by subst hp; exact Jvm.Free.XT.l2i X.here C.g_x rfl (hb C.g_by hd) rfl kk) r
theorem own_i2b (C : own_Ctx p s m meth c Z own nm bytes maxL ret) {x : Int32} (hd : decode bytes pc = .ok (.i2b, 1)) (hp : pc + 1 = pc')  (r : own_Run p l e R s m args below meth c n0 Kf h k q (mkF m pc' Ls (.int (x.toInt8.toInt32) :: rest))) : own_Run p l e R s m args below meth c n0 Kf h k q (mkF m pc Ls (.int x :: rest)) :=
  own_st (fun T locs X eT t kk => by subst hp; exact Jvm.Free.XT.i2b X.here C.g_x rfl (hb C.g_by hd) rfl kk) r
theorem own_i2c (C : own_Ctx p s m meth c Z own nm bytes maxL ret) {x : Int32} (hd : decode bytes pc = .ok (.i2c, 1)) (hp : pc + 1 = pc')  (r : own_Run p l e R s m args below meth c n0 Kf h k q (mkF m pc' Ls (.int (x.toUInt32.toUInt16.toUInt32.toInt32) :: rest))) : own_Run p l e R s m args below meth c n0 Kf h k q (mkF m pc Ls (.int x :: rest)) :=
  own_st (fun T locs X eT t kk => by subst hp; exact Jvm.Free.XT.i2c X.here C.g_x rfl (hb C.g_by hd) rfl kk) r
theorem own_iaddV (C : own_Ctx p s m meth c Z own nm bytes maxL ret) {x y v : Int32} (hd : decode bytes pc = .ok (.iadd, 1)) (hp : pc + 1 = pc') (hv : x + y = v) (r : own_Run p l e R s m args below meth c n0 Kf h k q (mkF m pc' Ls (.int v :: rest))) : own_Run p l e R s m args below meth c n0 Kf h k q (mkF m pc Ls (.int y :: .int x :: rest)) :=
  own_st (fun T locs X eT t kk => by subst hp; exact Jvm.Free.XS.iadd X.here C.g_x rfl (hb C.g_by hd) rfl (by rw [hv]; exact kk)) r
theorem own_isubV (C : own_Ctx p s m meth c Z own nm bytes maxL ret) {x y v : Int32} (hd : decode bytes pc = .ok (.isub, 1)) (hp : pc + 1 = pc') (hv : x - y = v) (r : own_Run p l e R s m args below meth c n0 Kf h k q (mkF m pc' Ls (.int v :: rest))) : own_Run p l e R s m args below meth c n0 Kf h k q (mkF m pc Ls (.int y :: .int x :: rest)) :=
  own_st (fun T locs X eT t kk => by subst hp; exact Jvm.Free.XS.isub X.here C.g_x rfl (hb C.g_by hd) rfl (by rw [hv]; exact kk)) r
theorem own_imulV (C : own_Ctx p s m meth c Z own nm bytes maxL ret) {x y v : Int32} (hd : decode bytes pc = .ok (.imul, 1)) (hp : pc + 1 = pc') (hv : x * y = v) (r : own_Run p l e R s m args below meth c n0 Kf h k q (mkF m pc' Ls (.int v :: rest))) : own_Run p l e R s m args below meth c n0 Kf h k q (mkF m pc Ls (.int y :: .int x :: rest)) :=
  own_st (fun T locs X eT t kk => by subst hp; exact Jvm.Free.XS.imul X.here C.g_x rfl (hb C.g_by hd) rfl (by rw [hv]; exact kk)) r
theorem own_iandV (C : own_Ctx p s m meth c Z own nm bytes maxL ret) {x y v : Int32} (hd : decode bytes pc = .ok (.iand, 1)) (hp : pc + 1 = pc') (hv : x &&& y = v) (r : own_Run p l e R s m args below meth c n0 Kf h k q (mkF m pc' Ls (.int v :: rest))) : own_Run p l e R s m args below meth c n0 Kf h k q (mkF m pc Ls (.int y :: .int x :: rest)) :=
  own_st (fun T locs X eT t kk => by subst hp; exact Jvm.Free.XS.iand X.here C.g_x rfl (hb C.g_by hd) rfl (by rw [hv]; exact kk)) r
theorem own_goto (C : own_Ctx p s m meth c Z own nm bytes maxL ret) {o : Int} {st : List Value} (hd : decode bytes pc = .ok (.goto o, 3)) (ho : (pc : Int) + o = (pc' : Int)) (r : own_Run p l e R s m args below meth c n0 Kf h k q (mkF m pc' Ls st)) : own_Run p l e R s m args below meth c n0 Kf h k q (mkF m pc Ls st) :=
  own_st (fun T locs X eT t kk => Jvm.Free.XS.goto X.here C.g_x rfl (pc0 := pc) (pc' := pc') rfl (hb C.g_by hd) (by omega) (by omega) kk) r
theorem own_ii_eq (C : own_Ctx p s m meth c Z own nm bytes maxL ret) {o : Int} {x y : Int32} (hd : decode bytes pc = .ok (.if_icmp .eq o, 3)) (ho : (pc : Int) + o = (pc1 : Int)) (hp : pc + 3 = pc2) (r1 : x = y → own_Run p l e R s m args below meth c n0 Kf h k q (mkF m pc1 Ls rest)) (r2 : ¬ x = y → own_Run p l e R s m args below meth c n0 Kf h k q (mkF m pc2 Ls rest)) : own_Run p l e R s m args below meth c n0 Kf h k q (mkF m pc Ls (.int y :: .int x :: rest)) := by
  by_cases hc : x = y
  · exact own_st (fun T locs X eT t kk => Jvm.Free.XS.icmpYes X.here C.g_x rfl (pc0 := pc) (pc' := pc1) rfl (hb C.g_by hd) rfl (Jvm.Free.XT.ii_eq_t hc) (by omega) (by omega) kk) (r1 hc)
  · subst hp; exact own_st (fun T locs X eT t kk => Jvm.Free.XS.icmpNo X.here C.g_x rfl (hb C.g_by hd) rfl (Jvm.Free.XT.ii_eq_f hc) kk) (r2 hc)
theorem own_i0_eq (C : own_Ctx p s m meth c Z own nm bytes maxL ret) {o : Int} {x : Int32} (hd : decode bytes pc = .ok (.ifCond .eq o, 3)) (ho : (pc : Int) + o = (pc1 : Int)) (hp : pc + 3 = pc2) (r1 : x = 0 → own_Run p l e R s m args below meth c n0 Kf h k q (mkF m pc1 Ls rest)) (r2 : ¬ x = 0 → own_Run p l e R s m args below meth c n0 Kf h k q (mkF m pc2 Ls rest)) : own_Run p l e R s m args below meth c n0 Kf h k q (mkF m pc Ls (.int x :: rest)) := by
  by_cases hc : x = 0
  · exact own_st (fun T locs X eT t kk => Jvm.Free.XS.ifYes X.here C.g_x rfl (pc0 := pc) (pc' := pc1) rfl (hb C.g_by hd) rfl (Jvm.Free.XT.i0_eq_t hc) (by omega) (by omega) kk) (r1 hc)
  · subst hp; exact own_st (fun T locs X eT t kk => Jvm.Free.XS.ifNo X.here C.g_x rfl (hb C.g_by hd) rfl (Jvm.Free.XT.i0_eq_f hc) kk) (r2 hc)
theorem own_ll_eq (C : own_Ctx p s m meth c Z own nm bytes maxL ret) {o : Int} {x y : Int64} (hd : decode bytes pc = .ok (.ifCond .eq o, 3)) (ho : (pc : Int) + o = (pc1 : Int)) (hp : pc + 3 = pc2) (r1 : x = y → own_Run p l e R s m args below meth c n0 Kf h k q (mkF m pc1 Ls rest)) (r2 : ¬ x = y → own_Run p l e R s m args below meth c n0 Kf h k q (mkF m pc2 Ls rest)) : own_Run p l e R s m args below meth c n0 Kf h k q (mkF m pc Ls (.int (Jvm.Free.XT.cmpL x y) :: rest)) := by
  by_cases hc : x = y
  · exact own_st (fun T locs X eT t kk => Jvm.Free.XS.ifYes X.here C.g_x rfl (pc0 := pc) (pc' := pc1) rfl (hb C.g_by hd) rfl (Jvm.Free.XT.ll_eq_t hc) (by omega) (by omega) kk) (r1 hc)
  · subst hp; exact own_st (fun T locs X eT t kk => Jvm.Free.XS.ifNo X.here C.g_x rfl (hb C.g_by hd) rfl (Jvm.Free.XT.ll_eq_f hc) kk) (r2 hc)
theorem own_ii_ne (C : own_Ctx p s m meth c Z own nm bytes maxL ret) {o : Int} {x y : Int32} (hd : decode bytes pc = .ok (.if_icmp .ne o, 3)) (ho : (pc : Int) + o = (pc1 : Int)) (hp : pc + 3 = pc2) (r1 : ¬ x = y → own_Run p l e R s m args below meth c n0 Kf h k q (mkF m pc1 Ls rest)) (r2 : x = y → own_Run p l e R s m args below meth c n0 Kf h k q (mkF m pc2 Ls rest)) : own_Run p l e R s m args below meth c n0 Kf h k q (mkF m pc Ls (.int y :: .int x :: rest)) := by
  by_cases hc : x = y
  · subst hp; exact own_st (fun T locs X eT t kk => Jvm.Free.XS.icmpNo X.here C.g_x rfl (hb C.g_by hd) rfl (Jvm.Free.XT.ii_ne_f hc) kk) (r2 hc)
  · exact own_st (fun T locs X eT t kk => Jvm.Free.XS.icmpYes X.here C.g_x rfl (pc0 := pc) (pc' := pc1) rfl (hb C.g_by hd) rfl (Jvm.Free.XT.ii_ne_t hc) (by omega) (by omega) kk) (r1 hc)
theorem own_i0_ne (C : own_Ctx p s m meth c Z own nm bytes maxL ret) {o : Int} {x : Int32} (hd : decode bytes pc = .ok (.ifCond .ne o, 3)) (ho : (pc : Int) + o = (pc1 : Int)) (hp : pc + 3 = pc2) (r1 : ¬ x = 0 → own_Run p l e R s m args below meth c n0 Kf h k q (mkF m pc1 Ls rest)) (r2 : x = 0 → own_Run p l e R s m args below meth c n0 Kf h k q (mkF m pc2 Ls rest)) : own_Run p l e R s m args below meth c n0 Kf h k q (mkF m pc Ls (.int x :: rest)) := by
  by_cases hc : x = 0
  · subst hp; exact own_st (fun T locs X eT t kk => Jvm.Free.XS.ifNo X.here C.g_x rfl (hb C.g_by hd) rfl (Jvm.Free.XT.i0_ne_f hc) kk) (r2 hc)
  · exact own_st (fun T locs X eT t kk => Jvm.Free.XS.ifYes X.here C.g_x rfl (pc0 := pc) (pc' := pc1) rfl (hb C.g_by hd) rfl (Jvm.Free.XT.i0_ne_t hc) (by omega) (by omega) kk) (r1 hc)
theorem own_ll_ne (C : own_Ctx p s m meth c Z own nm bytes maxL ret) {o : Int} {x y : Int64} (hd : decode bytes pc = .ok (.ifCond .ne o, 3)) (ho : (pc : Int) + o = (pc1 : Int)) (hp : pc + 3 = pc2) (r1 : ¬ x = y → own_Run p l e R s m args below meth c n0 Kf h k q (mkF m pc1 Ls rest)) (r2 : x = y → own_Run p l e R s m args below meth c n0 Kf h k q (mkF m pc2 Ls rest)) : own_Run p l e R s m args below meth c n0 Kf h k q (mkF m pc Ls (.int (Jvm.Free.XT.cmpL x y) :: rest)) := by
  by_cases hc : x = y
  · subst hp; exact own_st (fun T locs X eT t kk => Jvm.Free.XS.ifNo X.here C.g_x rfl (hb C.g_by hd) rfl (Jvm.Free.XT.ll_ne_f hc) kk) (r2 hc)
  · exact own_st (fun T locs X eT t kk => Jvm.Free.XS.ifYes X.here C.g_x rfl (pc0 := pc) (pc' := pc1) rfl (hb C.g_by hd) rfl (Jvm.Free.XT.ll_ne_t hc) (by omega) (by omega) kk) (r1 hc)
theorem own_ii_lt (C : own_Ctx p s m meth c Z own nm bytes maxL ret) {o : Int} {x y : Int32} (hd : decode bytes pc = .ok (.if_icmp .lt o, 3)) (ho : (pc : Int) + o = (pc1 : Int)) (hp : pc + 3 = pc2) (r1 : x < y → own_Run p l e R s m args below meth c n0 Kf h k q (mkF m pc1 Ls rest)) (r2 : ¬ x < y → own_Run p l e R s m args below meth c n0 Kf h k q (mkF m pc2 Ls rest)) : own_Run p l e R s m args below meth c n0 Kf h k q (mkF m pc Ls (.int y :: .int x :: rest)) := by
  by_cases hc : x < y
  · exact own_st (fun T locs X eT t kk => Jvm.Free.XS.icmpYes X.here C.g_x rfl (pc0 := pc) (pc' := pc1) rfl (hb C.g_by hd) rfl (Jvm.Free.XT.ii_lt_t hc) (by omega) (by omega) kk) (r1 hc)
  · subst hp; exact own_st (fun T locs X eT t kk => Jvm.Free.XS.icmpNo X.here C.g_x rfl (hb C.g_by hd) rfl (Jvm.Free.XT.ii_lt_f hc) kk) (r2 hc)
theorem own_i0_lt (C : own_Ctx p s m meth c Z own nm bytes maxL ret) {o : Int} {x : Int32} (hd : decode bytes pc = .ok (.ifCond .lt o, 3)) (ho : (pc : Int) + o = (pc1 : Int)) (hp : pc + 3 = pc2) (r1 : x < 0 → own_Run p l e R s m args below meth c n0 Kf h k q (mkF m pc1 Ls rest)) (r2 : ¬ x < 0 → own_Run p l e R s m args below meth c n0 Kf h k q (mkF m pc2 Ls rest)) : own_Run p l e R s m args below meth c n0 Kf h k q (mkF m pc Ls (.int x :: rest)) := by
  by_cases hc : x < 0
  · exact own_st (fun T locs X eT t kk => Jvm.Free.XS.ifYes X.here C.g_x rfl (pc0 := pc) (pc' := pc1) rfl (hb C.g_by hd) rfl (Jvm.Free.XT.i0_lt_t hc) (by omega) (by omega) kk) (r1 hc)
  · subst hp; exact own_st (fun T locs X eT t kk => Jvm.Free.XS.ifNo X.here C.g_x rfl (hb C.g_by hd) rfl (Jvm.Free.XT.i0_lt_f hc) kk) (r2 hc)
theorem own_ll_lt (C : own_Ctx p s m meth c Z own nm bytes maxL ret) {o : Int} {x y : Int64} (hd : decode bytes pc = .ok (.ifCond .lt o, 3)) (ho : (pc : Int) + o = (pc1 : Int)) (hp : pc + 3 = pc2) (r1 : x < y → own_Run p l e R s m args below meth c n0 Kf h k q (mkF m pc1 Ls rest)) (r2 : ¬ x < y → own_Run p l e R s m args below meth c n0 Kf h k q (mkF m pc2 Ls rest)) : own_Run p l e R s m args below meth c n0 Kf h k q (mkF m pc Ls (.int (Jvm.Free.XT.cmpL x y) :: rest)) := by
  by_cases hc : x < y
  · exact own_st (fun T locs X eT t kk => Jvm.Free.XS.ifYes X.here C.g_x rfl (pc0 := pc) (pc' := pc1) rfl (hb C.g_by hd) rfl (Jvm.Free.XT.ll_lt_t hc) (by omega) (by omega) kk) (r1 hc)
  · subst hp; exact own_st (fun T locs X eT t kk => Jvm.Free.XS.ifNo X.here C.g_x rfl (hb C.g_by hd) rfl (Jvm.Free.XT.ll_lt_f hc) kk) (r2 hc)
theorem own_ii_ge (C : own_Ctx p s m meth c Z own nm bytes maxL ret) {o : Int} {x y : Int32} (hd : decode bytes pc = .ok (.if_icmp .ge o, 3)) (ho : (pc : Int) + o = (pc1 : Int)) (hp : pc + 3 = pc2) (r1 : ¬ x < y → own_Run p l e R s m args below meth c n0 Kf h k q (mkF m pc1 Ls rest)) (r2 : x < y → own_Run p l e R s m args below meth c n0 Kf h k q (mkF m pc2 Ls rest)) : own_Run p l e R s m args below meth c n0 Kf h k q (mkF m pc Ls (.int y :: .int x :: rest)) := by
  by_cases hc : x < y
  · subst hp; exact own_st (fun T locs X eT t kk => Jvm.Free.XS.icmpNo X.here C.g_x rfl (hb C.g_by hd) rfl (Jvm.Free.XT.ii_ge_f hc) kk) (r2 hc)
  · exact own_st (fun T locs X eT t kk => Jvm.Free.XS.icmpYes X.here C.g_x rfl (pc0 := pc) (pc' := pc1) rfl (hb C.g_by hd) rfl (Jvm.Free.XT.ii_ge_t hc) (by omega) (by omega) kk) (r1 hc)
theorem own_i0_ge (C : own_Ctx p s m meth c Z own nm bytes maxL ret) {o : Int} {x : Int32} (hd : decode bytes pc = .ok (.ifCond .ge o, 3)) (ho : (pc : Int) + o = (pc1 : Int)) (hp : pc + 3 = pc2) (r1 : ¬ x < 0 → own_Run p l e R s m args below meth c n0 Kf h k q (mkF m pc1 Ls rest)) (r2 : x < 0 → own_Run p l e R s m args below meth c n0 Kf h k q (mkF m pc2 Ls rest)) : own_Run p l e R s m args below meth c n0 Kf h k q (mkF m pc Ls (.int x :: rest)) := by
  by_cases hc : x < 0
  · subst hp; exact own_st (fun T locs X eT t kk => Jvm.Free.XS.ifNo X.here C.g_x rfl (hb C.g_by hd) rfl (Jvm.Free.XT.i0_ge_f hc) kk) (r2 hc)
  · exact own_st (fun T locs X eT t kk => Jvm.Free.XS.ifYes X.here C.g_x rfl (pc0 := pc) (pc' := pc1) rfl (hb C.g_by hd) rfl (Jvm.Free.XT.i0_ge_t hc) (by omega) (by omega) kk) (r1 hc)
theorem own_ll_ge (C : own_Ctx p s m meth c Z own nm bytes maxL ret) {o : Int} {x y : Int64} (hd : decode bytes pc = .ok (.ifCond .ge o, 3)) (ho : (pc : Int) + o = (pc1 : Int)) (hp : pc + 3 = pc2) (r1 : ¬ x < y → own_Run p l e R s m args below meth c n0 Kf h k q (mkF m pc1 Ls rest)) (r2 : x < y → own_Run p l e R s m args below meth c n0 Kf h k q (mkF m pc2 Ls rest)) : own_Run p l e R s m args below meth c n0 Kf h k q (mkF m pc Ls (.int (Jvm.Free.XT.cmpL x y) :: rest)) := by
  by_cases hc : x < y
  · subst hp; exact own_st (fun T locs X eT t kk => Jvm.Free.XS.ifNo X.here C.g_x rfl (hb C.g_by hd) rfl (Jvm.Free.XT.ll_ge_f hc) kk) (r2 hc)
  · exact own_st (fun T locs X eT t kk => Jvm.Free.XS.ifYes X.here C.g_x rfl (pc0 := pc) (pc' := pc1) rfl (hb C.g_by hd) rfl (Jvm.Free.XT.ll_ge_t hc) (by omega) (by omega) kk) (r1 hc)
theorem own_ii_gt (C : own_Ctx p s m meth c Z own nm bytes maxL ret) {o : Int} {x y : Int32} (hd : decode bytes pc = .ok (.if_icmp .gt o, 3)) (ho : (pc : Int) + o = (pc1 : Int)) (hp : pc + 3 = pc2) (r1 : y < x → own_Run p l e R s m args below meth c n0 Kf h k q (mkF m pc1 Ls rest)) (r2 : ¬ y < x → own_Run p l e R s m args below meth c n0 Kf h k q (mkF m pc2 Ls rest)) : own_Run p l e R s m args below meth c n0 Kf h k q (mkF m pc Ls (.int y :: .int x :: rest)) := by
  by_cases hc : y < x
  · exact own_st (fun T locs X eT t kk => Jvm.Free.XS.icmpYes X.here C.g_x rfl (pc0 := pc) (pc' := pc1) rfl (hb C.g_by hd) rfl (Jvm.Free.XT.ii_gt_t hc) (by omega) (by omega) kk) (r1 hc)
  · subst hp; exact own_st (fun T locs X eT t kk => Jvm.Free.XS.icmpNo X.here C.g_x rfl (hb C.g_by hd) rfl (Jvm.Free.XT.ii_gt_f hc) kk) (r2 hc)
theorem own_i0_gt (C : own_Ctx p s m meth c Z own nm bytes maxL ret) {o : Int} {x : Int32} (hd : decode bytes pc = .ok (.ifCond .gt o, 3)) (ho : (pc : Int) + o = (pc1 : Int)) (hp : pc + 3 = pc2) (r1 : 0 < x → own_Run p l e R s m args below meth c n0 Kf h k q (mkF m pc1 Ls rest)) (r2 : ¬ 0 < x → own_Run p l e R s m args below meth c n0 Kf h k q (mkF m pc2 Ls rest)) : own_Run p l e R s m args below meth c n0 Kf h k q (mkF m pc Ls (.int x :: rest)) := by
  by_cases hc : 0 < x
  · exact own_st (fun T locs X eT t kk => Jvm.Free.XS.ifYes X.here C.g_x rfl (pc0 := pc) (pc' := pc1) rfl (hb C.g_by hd) rfl (Jvm.Free.XT.i0_gt_t hc) (by omega) (by omega) kk) (r1 hc)
  · subst hp; exact own_st (fun T locs X eT t kk => Jvm.Free.XS.ifNo X.here C.g_x rfl (hb C.g_by hd) rfl (Jvm.Free.XT.i0_gt_f hc) kk) (r2 hc)
theorem own_ll_gt (C : own_Ctx p s m meth c Z own nm bytes maxL ret) {o : Int} {x y : Int64} (hd : decode bytes pc = .ok (.ifCond .gt o, 3)) (ho : (pc : Int) + o = (pc1 : Int)) (hp : pc + 3 = pc2) (r1 : y < x → own_Run p l e R s m args below meth c n0 Kf h k q (mkF m pc1 Ls rest)) (r2 : ¬ y < x → own_Run p l e R s m args below meth c n0 Kf h k q (mkF m pc2 Ls rest)) : own_Run p l e R s m args below meth c n0 Kf h k q (mkF m pc Ls (.int (Jvm.Free.XT.cmpL x y) :: rest)) := by
  by_cases hc : y < x
  · exact own_st (fun T locs X eT t kk => Jvm.Free.XS.ifYes X.here C.g_x rfl (pc0 := pc) (pc' := pc1) rfl (hb C.g_by hd) rfl (Jvm.Free.XT.ll_gt_t hc) (by omega) (by omega) kk) (r1 hc)
  · subst hp; exact own_st (fun T locs X eT t kk => Jvm.Free.XS.ifNo X.here C.g_x rfl (hb C.g_by hd) rfl (Jvm.Free.XT.ll_gt_f hc) kk) (r2 hc)
theorem own_ii_le (C : own_Ctx p s m meth c Z own nm bytes maxL ret) {o : Int} {x y : Int32} (hd : decode bytes pc = .ok (.if_icmp .le o, 3)) (ho : (pc : Int) + o = (pc1 : Int)) (hp : pc + 3 = pc2) (r1 : ¬ y < x → own_Run p l e R s m args below meth c n0 Kf h k q (mkF m pc1 Ls rest)) (r2 : y < x → own_Run p l e R s m args below meth c n0 Kf h k q (mkF m pc2 Ls rest)) : own_Run p l e R s m args below meth c n0 Kf h k q (mkF m pc Ls (.int y :: .int x :: rest)) := by
  by_cases hc : y < x
  · subst hp; exact own_st (fun T locs X eT t kk => Jvm.Free.XS.icmpNo X.here C.g_x rfl (hb C.g_by hd) rfl (Jvm.Free.XT.ii_le_f hc) kk) (r2 hc)
  · exact own_st (fun T locs X eT t kk => Jvm.Free.XS.icmpYes X.here C.g_x rfl (pc0 := pc) (pc' := pc1) rfl (hb C.g_by hd) rfl (Jvm.Free.XT.ii_le_t hc) (by omega) (by omega) kk) (r1 hc)
theorem own_i0_le (C : own_Ctx p s m meth c Z own nm bytes maxL ret) {o : Int} {x : Int32} (hd : decode bytes pc = .ok (.ifCond .le o, 3)) (ho : (pc : Int) + o = (pc1 : Int)) (hp : pc + 3 = pc2) (r1 : ¬ 0 < x → own_Run p l e R s m args below meth c n0 Kf h k q (mkF m pc1 Ls rest)) (r2 : 0 < x → own_Run p l e R s m args below meth c n0 Kf h k q (mkF m pc2 Ls rest)) : own_Run p l e R s m args below meth c n0 Kf h k q (mkF m pc Ls (.int x :: rest)) := by
  by_cases hc : 0 < x
  · subst hp; exact own_st (fun T locs X eT t kk => Jvm.Free.XS.ifNo X.here C.g_x rfl (hb C.g_by hd) rfl (Jvm.Free.XT.i0_le_f hc) kk) (r2 hc)
  · exact own_st (fun T locs X eT t kk => Jvm.Free.XS.ifYes X.here C.g_x rfl (pc0 := pc) (pc' := pc1) rfl (hb C.g_by hd) rfl (Jvm.Free.XT.i0_le_t hc) (by omega) (by omega) kk) (r1 hc)
theorem own_ll_le (C : own_Ctx p s m meth c Z own nm bytes maxL ret) {o : Int} {x y : Int64} (hd : decode bytes pc = .ok (.ifCond .le o, 3)) (ho : (pc : Int) + o = (pc1 : Int)) (hp : pc + 3 = pc2) (r1 : ¬ y < x → own_Run p l e R s m args below meth c n0 Kf h k q (mkF m pc1 Ls rest)) (r2 : y < x → own_Run p l e R s m args below meth c n0 Kf h k q (mkF m pc2 Ls rest)) : own_Run p l e R s m args below meth c n0 Kf h k q (mkF m pc Ls (.int (Jvm.Free.XT.cmpL x y) :: rest)) := by
  by_cases hc : y < x
  · subst hp; exact own_st (fun T locs X eT t kk => Jvm.Free.XS.ifNo X.here C.g_x rfl (hb C.g_by hd) rfl (Jvm.Free.XT.ll_le_f hc) kk) (r2 hc)
  · exact own_st (fun T locs X eT t kk => Jvm.Free.XS.ifYes X.here C.g_x rfl (pc0 := pc) (pc' := pc1) rfl (hb C.g_by hd) rfl (Jvm.Free.XT.ll_le_t hc) (by omega) (by omega) kk) (r1 hc)
theorem own_aa_eq (C : own_Ctx p s m meth c Z own nm bytes maxL ret) {o : Int} {x y : Value} (hx1 : x.isRef = true) (hy1 : y.isRef = true) (hd : decode bytes pc = .ok (.if_acmp .eq o, 3)) (ho : (pc : Int) + o = (pc1 : Int)) (hp : pc + 3 = pc2) (r1 : x = y → own_Run p l e R s m args below meth c n0 Kf h k q (mkF m pc1 Ls rest)) (r2 : ¬ x = y → own_Run p l e R s m args below meth c n0 Kf h k q (mkF m pc2 Ls rest)) : own_Run p l e R s m args below meth c n0 Kf h k q (mkF m pc Ls (y :: x :: rest)) := by
  by_cases hc : x = y
  · exact own_st (fun T locs X eT t kk => Jvm.Free.XT.acmpYes X.here C.g_x rfl (pc0 := pc) (pc' := pc1) rfl (hb C.g_by hd) rfl hx1 hy1 (Jvm.Free.XT.aa_eq_t hc) (by omega) (by omega) kk) (r1 hc)
  · subst hp; exact own_st (fun T locs X eT t kk => Jvm.Free.XT.acmpNo X.here C.g_x rfl (hb C.g_by hd) rfl hx1 hy1 (Jvm.Free.XT.aa_eq_f hc) kk) (r2 hc)
theorem own_aa_ne (C : own_Ctx p s m meth c Z own nm bytes maxL ret) {o : Int} {x y : Value} (hx1 : x.isRef = true) (hy1 : y.isRef = true) (hd : decode bytes pc = .ok (.if_acmp .ne o, 3)) (ho : (pc : Int) + o = (pc1 : Int)) (hp : pc + 3 = pc2) (r1 : ¬ x = y → own_Run p l e R s m args below meth c n0 Kf h k q (mkF m pc1 Ls rest)) (r2 : x = y → own_Run p l e R s m args below meth c n0 Kf h k q (mkF m pc2 Ls rest)) : own_Run p l e R s m args below meth c n0 Kf h k q (mkF m pc Ls (y :: x :: rest)) := by
  by_cases hc : x = y
  · subst hp; exact own_st (fun T locs X eT t kk => Jvm.Free.XT.acmpNo X.here C.g_x rfl (hb C.g_by hd) rfl hx1 hy1 (Jvm.Free.XT.aa_ne_f hc) kk) (r2 hc)
  · exact own_st (fun T locs X eT t kk => Jvm.Free.XT.acmpYes X.here C.g_x rfl (pc0 := pc) (pc' := pc1) rfl (hb C.g_by hd) rfl hx1 hy1 (Jvm.Free.XT.aa_ne_t hc) (by omega) (by omega) kk) (r1 hc)
theorem own_nullNo (C : own_Ctx p s m meth c Z own nm bytes maxL ret) {o : Int} {a : Addr} (hd : decode bytes pc = .ok (.ifnull o, 3)) (hp : pc + 3 = pc') (r : own_Run p l e R s m args below meth c n0 Kf h k q (mkF m pc' Ls rest)) : own_Run p l e R s m args below meth c n0 Kf h k q (mkF m pc Ls (.ref a :: rest)) :=
  own_st (fun T locs X eT t kk => by subst hp; exact Jvm.Free.XS.ifnullNo X.here C.g_x rfl (hb C.g_by hd) rfl kk) r
theorem own_getF (C : own_Ctx p s m meth c Z own nm bytes maxL ret) {i : Nat} {O n d : String} {a : Addr} {v : Value} (w : (Jvm.Cond.fieldLink own i O n d).before a0 Z = true) (F : Fld Z h a O n d v) (hd : decode bytes pc = .ok (.getfield i, 3)) (hp : pc + 3 = pc') (r : own_Run p l e R s m args below meth c n0 Kf h k q (mkF m pc' Ls (v :: rest))) : own_Run p l e R s m args below meth c n0 Kf h k q (mkF m pc Ls (.ref a :: rest)) := fun T locs X eT N => by
  subst hp
  obtain ⟨T1, X1, e1, st1⟩ := getF X C.g_x C.g_z C.g_own (host := "") (Or.inl w) Via.refl eT F (g := mkF m pc Ls (.ref a :: rest)) rfl rfl (hb C.g_by hd)
  obtain ⟨t, o, h1, h2⟩ := r T1 locs X1 e1 N
  exact ⟨t, o, st1 _ h1, h2⟩
theorem own_putF (C : own_Ctx p s m meth c Z own nm bytes maxL ret) {i kk : Nat} {O n d K : String} {a : Addr} {v old : Value} {ty : FieldType} (w : (Jvm.Cond.fieldLink own i O n d).before a0 Z = true) (F : Fld Z h a O n d old) (E : Exa Z h a K) (L : (Jvm.Cond.lays K O n d).before a0 Z = true ∨ ((Jvm.Cond.laysFinal K O n d).before a0 Z = true ∧ own = O ∧ nm = "<init>")) (wi : (Jvm.Cond.instantiable K kk).before a0 Z = true) (hty : parseFieldDescriptor d = some ty) (hn : narrow ty v = v) (hf : fits ty v = true) (ga : n0 ≤ a) (hd : decode bytes pc = .ok (.putfield i, 3)) (hp : pc + 3 = pc')
    (r : ∀ h', Wr h h' a (Jvm.RoadKit.slotOf Z O n d) v → own_Run p l e R s m args below meth c n0 Kf h' k q (mkF m pc' Ls rest)) : own_Run p l e R s m args below meth c n0 Kf h k q (mkF m pc Ls (v :: .ref a :: rest)) := fun T locs X eT N => by
  subst hp
  obtain ⟨T1, h1, X1, e1, W1, st1⟩ := putF X C.g_x C.g_z C.g_own (host := "") (Or.inl w) Via.refl eT F E (L.imp id fun x => ⟨x.1, x.2.1, C.g_nm.trans x.2.2⟩) wi hty hn hf (g := mkF m pc Ls (v :: .ref a :: rest)) rfl rfl (hb C.g_by hd)
  obtain ⟨t, o, h2, h3⟩ := r h1 W1 T1 _ X1 e1 (Fr.snoc X1 N ga)
  exact ⟨t, o, st1 _ h2, h3⟩
theorem own_getS (C : own_Ctx p s m meth c Z own nm bytes maxL ret) {i : Nat} {O n d : String} {v : Value} (w : (Jvm.Cond.fieldLink own i O n d).before a0 Z = true) (F : Sta Z h O n d v) (hd : decode bytes pc = .ok (.getstatic i, 3)) (hp : pc + 3 = pc') (r : own_Run p l e R s m args below meth c n0 Kf h k q (mkF m pc' Ls (v :: rest))) : own_Run p l e R s m args below meth c n0 Kf h k q (mkF m pc Ls rest) := fun T locs X eT N => by
  subst hp
  obtain ⟨T1, X1, e1, st1⟩ := getS (host := "") X C.g_x C.g_z C.g_own w Via.refl eT F (g := mkF m pc Ls rest) rfl (hb C.g_by hd)
  obtain ⟨t, o, h1, h2⟩ := r T1 locs X1 e1 N
  exact ⟨t, o, st1 _ h1, h2⟩
theorem own_new (C : own_Ctx p s m meth c Z own nm bytes maxL ret) {i n : Nat} {K : String} (w : (Jvm.Cond.classLink own i K).before a0 Z = true) (wi : (Jvm.Cond.instantiable K n).before a0 Z = true) (wz : (Jvm.Cond.initialized K).before a0 Z = true) (Z0 : n0 ≤ h.size) (hd : decode bytes pc = .ok (.new i, 3)) (hp : pc + 3 = pc') (hc : k + 1 ≤ R.cells) (hs : q + n ≤ R.slots)
    (r : ∀ h' a, a = h.size → n0 ≤ a → n0 ≤ h'.size → Ext h h' → Exa Z h' a K → (∀ {O nm d : String} {ty : FieldType}, Laid Z a0 K O nm d → parseFieldDescriptor d = some ty → Fld Z h' a O nm d (defaultValue ty)) → own_Run p l e R s m args below meth c n0 Kf h' (k + 1) (q + n) (mkF m pc' Ls (.ref a :: rest))) : own_Run p l e R s m args below meth c n0 Kf h k q (mkF m pc Ls rest) := fun T locs X eT N => by
  subst hp
  obtain ⟨T1, h1, X1, e1, E1, A1, D1, -, st1⟩ := newO X C.g_x C.g_z C.g_own w wi wz eT (g := mkF m pc Ls rest) rfl (hb C.g_by hd) hc hs
  obtain ⟨t, o, h2, h3⟩ := r h1 h.size rfl Z0 (Nat.le_trans Z0 E1.1) E1 A1 (fun L ht => D1 L ht) T1 _ X1 e1 N
  exact ⟨t, o, st1 _ h2, h3⟩
theorem own_initO (C : own_Ctx p s m meth c Z own nm bytes maxL ret) {i : Nat} {a : Addr} {W : Nat} (w1 : (Jvm.Cond.methodLink own i Lib.objectInit).before a0 Z = true) (w2 : (Jvm.Cond.instanceMethod Lib.objectInit).before a0 Z = true) (w3 : (Jvm.Cond.code Lib.objectInit ⟨#[0xb1]⟩ 1 none).before a0 Z = true) (hd : decode bytes pc = .ok (.invokespecial i, 3)) (hp : pc + 3 = pc') (hsz : Ls.size = maxL) (hf : 1 ≤ R.frames) (hW : 0 + (rest.map fun v => v.category).sum ≤ W) (hl : W + 12 ≤ R.locals)
    (r : own_Run p l e R s m args below meth c n0 Kf h k q (mkF m pc' Ls rest)) : own_Run p l e R s m args below meth c n0 Kf h k q (mkF m pc Ls (.ref a :: rest)) := fun T locs X eT N => by
  subst hp
  obtain ⟨T1, X1, e1, st1⟩ := initO X C.g_x C.g_z C.g_own w1 w2 w3 eT (g := mkF m pc Ls (.ref a :: rest)) rfl (by rw [C.g_ml]; exact hsz) rfl (hb C.g_by hd) hf (W := W) (by show 2 * 0 + _ ≤ _; exact hW) hl
  obtain ⟨t, o, h1, h2⟩ := r T1 locs X1 e1 N
  exact ⟨t, o, st1 _ h1, h2⟩
theorem own_callN (C : own_Ctx p s m meth c Z own nm bytes maxL ret) {i : Nat} {y : MethodName} {cb : ByteArray} {cm : Nat} {rm : Room} {a : Addr} {argsL : List Value} {Q' : Option Value → Heap → Prop} (W : Nat) (hy1 : y.name = "<init>") (w1 : (Jvm.Cond.methodLink own i y).before a0 Z = true) (w2 : (Jvm.Cond.instanceMethod y).before a0 Z = true) (w3 : (Jvm.Cond.code y cb cm none).before a0 Z = true) (w4 : (Jvm.Cond.initialized y.cls).before a0 Z = true) (hy : y.cls ≠ "java/lang/invoke/MethodHandle" ∧ y.cls ≠ "java/lang/invoke/VarHandle")
    (hM : own_Met l Z n0 y cb cm none rm [] (.ref a :: argsL).toArray h Q') (hf : rm.frames + 1 ≤ R.frames) (hl : W + (cm + 11) + rm.locals ≤ R.locals) (hlen : ∀ sig, parseMethodDescriptor y.desc = some sig → argsL.length = sig.parameters.length) {st : List Value} (hst : st = argsL.reverse ++ .ref a :: rest) (hW : 0 + (rest.map fun v => v.category).sum ≤ W) (hd : decode bytes pc = .ok (.invokespecial i, 3)) (hp : pc + 3 = pc') (hsz : Ls.size = maxL) (hc : k + rm.cells ≤ R.cells) (hs : q + rm.slots ≤ R.slots)
    (r : ∀ v h', Q' v h' → own_Run p l e R s m args below meth c n0 Kf h' (k + rm.cells) (q + rm.slots) (mkF m pc' Ls (v.toList ++ rest))) : own_Run p l e R s m args below meth c n0 Kf h k q (mkF m pc Ls st) := fun T locs X eT N => by
  subst hp
  obtain ⟨v, _, ⟨T1, L1, k1, n1⟩, -, X1, ⟨Lc1, hQ1, l1, y1, z1⟩, st1⟩ := X.specialBack C.g_x (y := y) hy1 C.g_own (mvT C.g_z w1) (mvT C.g_z w2) (mvT C.g_z w3) hy (backOf (W := W) (Q := fun v h L => Fr n0 L ∧ Q' v h) hM C.g_z w3 w4 hf hl) (g := mkF m pc Ls st) rfl (by rw [C.g_ml]; exact hsz) (Steps.refl _) (a := a) (argsL := argsL) (rest := rest) hlen hst (by show 2 * 0 + _ ≤ _; exact hW) (hb C.g_by hd) (fun _ _ => ⟨rfl, eT, hc, hs⟩)
  dsimp only [Pt.U, Pt.locs, Pt.cells, Pt.slots] at X1 l1 y1 z1 st1 hQ1
  subst l1 y1 z1
  obtain ⟨t, o, h2, h3⟩ := r v T1.heap hQ1.2 T1 _ X1 rfl (Fr.app N hQ1.1)
  exact ⟨t, o, st1.trans h2, h3⟩
theorem own_callV (C : own_Ctx p s m meth c Z own nm bytes maxL ret) {i : Nat} {y : MethodName} {cb : ByteArray} {cm : Nat} {cret : Option FieldType} {rm : Room} {a : Addr} {argsL : List Value} {Q' : Option Value → Heap → Prop} (W : Nat) (E : Exa Z h a y.cls) (w1 : (Jvm.Cond.methodLink own i y).before a0 Z = true) (w2 : (Jvm.Cond.declares y).before a0 Z = true) (w3 : (Jvm.Cond.selects y.cls y y).before a0 Z = true) (w4 : (Jvm.Cond.instanceMethod y).before a0 Z = true) (w5 : (Jvm.Cond.code y cb cm cret).before a0 Z = true) (w6 : (Jvm.Cond.initialized y.cls).before a0 Z = true) (hy : y.cls ≠ "java/lang/invoke/MethodHandle" ∧ y.cls ≠ "java/lang/invoke/VarHandle")
    (hM : own_Met l Z n0 y cb cm cret rm [] (.ref a :: argsL).toArray h Q') (hf : rm.frames + 1 ≤ R.frames) (hl : W + (cm + 11) + rm.locals ≤ R.locals) (hlen : ∀ sig, parseMethodDescriptor y.desc = some sig → argsL.length = sig.parameters.length) {st : List Value} (hst : st = argsL.reverse ++ .ref a :: rest) (hW : 0 + (rest.map fun v => v.category).sum ≤ W) (hd : decode bytes pc = .ok (.invokevirtual i, 3)) (hp : pc + 3 = pc') (hsz : Ls.size = maxL) (hc : k + rm.cells ≤ R.cells) (hs : q + rm.slots ≤ R.slots)
    (r : ∀ v h', Q' v h' → own_Run p l e R s m args below meth c n0 Kf h' (k + rm.cells) (q + rm.slots) (mkF m pc' Ls (v.toList ++ rest))) : own_Run p l e R s m args below meth c n0 Kf h k q (mkF m pc Ls st) := fun T locs X eT N => by
  subst hp
  obtain ⟨cq, kq, qa, qb, qc⟩ := isOf C.g_z eT E
  obtain ⟨v, _, ⟨T1, L1, k1, n1⟩, -, X1, ⟨Lc1, hQ1, l1, y1, z1⟩, st1⟩ := X.virtualBack C.g_x (y := y) (z := y) C.g_own (mvT C.g_z w1) (mvT C.g_z w2) (notFace_of_selects (args := #[]) (mvT C.g_z w3)) (mvT C.g_z w3) (mvT C.g_z w4) hy (backOf (W := W) (Q := fun v h L => Fr n0 L ∧ Q' v h) hM C.g_z w5 w6 hf hl) qa qc (g := mkF m pc Ls st) rfl (by rw [C.g_ml]; exact hsz) (Steps.refl _) (argsL := argsL) (rest := rest) hlen hst (by show 2 * 0 + _ ≤ _; exact hW) (hb C.g_by hd) (fun _ _ => ⟨rfl, eT, hc, hs⟩)
  dsimp only [Pt.U, Pt.locs, Pt.cells, Pt.slots] at X1 l1 y1 z1 st1 hQ1
  subst l1 y1 z1
  obtain ⟨t, o, h2, h3⟩ := r v T1.heap hQ1.2 T1 _ X1 rfl (Fr.app N hQ1.1)
  exact ⟨t, o, st1.trans h2, h3⟩
theorem own_callS (C : own_Ctx p s m meth c Z own nm bytes maxL ret) {i : Nat} {y : MethodName} {cb : ByteArray} {cm : Nat} {cret : Option FieldType} {rm : Room} {argsL : List Value} {Q' : Option Value → Heap → Prop} (W : Nat) (w1 : (Jvm.Cond.methodLink own i y).before a0 Z = true) (w2 : (Jvm.Cond.static y).before a0 Z = true) (w3 : (Jvm.Cond.initialized y.cls).before a0 Z = true) (w4 : (Jvm.Cond.code y cb cm cret).before a0 Z = true) (hy : y.cls ≠ "java/lang/invoke/MethodHandle" ∧ y.cls ≠ "java/lang/invoke/VarHandle")
    (hM : own_Met l Z n0 y cb cm cret rm [] argsL.toArray h Q') (hf : rm.frames + 1 ≤ R.frames) (hl : W + (cm + 11) + rm.locals ≤ R.locals) (hlen : ∀ sig, parseMethodDescriptor y.desc = some sig → argsL.length = sig.parameters.length) {st : List Value} (hst : st = argsL.reverse ++ rest) (hW : 0 + (rest.map fun v => v.category).sum ≤ W) (hd : decode bytes pc = .ok (.invokestatic i, 3)) (hp : pc + 3 = pc') (hsz : Ls.size = maxL) (hc : k + rm.cells ≤ R.cells) (hs : q + rm.slots ≤ R.slots)
    (r : ∀ v h', Q' v h' → own_Run p l e R s m args below meth c n0 Kf h' (k + rm.cells) (q + rm.slots) (mkF m pc' Ls (v.toList ++ rest))) : own_Run p l e R s m args below meth c n0 Kf h k q (mkF m pc Ls st) := fun T locs X eT N => by
  subst hp
  obtain ⟨v, _, ⟨T1, L1, k1, n1⟩, -, X1, ⟨Lc1, hQ1, l1, y1, z1⟩, st1⟩ := Jvm.LawKit.callS X C.g_x (y := y) C.g_own (mvT C.g_z w1) (mvT C.g_z w2) (mvT C.g_z w3) (mvT C.g_z w4) hy (backOf (W := W) (Q := fun v h L => Fr n0 L ∧ Q' v h) hM C.g_z w4 w3 hf hl) (g := mkF m pc Ls st) rfl (by rw [C.g_ml]; exact hsz) (argsL := argsL) (rest := rest) hlen hst (by show 2 * 0 + _ ≤ _; exact hW) (hb C.g_by hd) (fun _ _ => ⟨rfl, eT, hc, hs⟩)
  dsimp only [Pt.U, Pt.locs, Pt.cells, Pt.slots] at X1 l1 y1 z1 st1 hQ1
  subst l1 y1 z1
  obtain ⟨t, o, h2, h3⟩ := r v T1.heap hQ1.2 T1 _ X1 rfl (Fr.app N hQ1.1)
  exact ⟨t, o, st1 _ h2, h3⟩
theorem own_callP (C : own_Ctx p s m meth c Z own nm bytes maxL ret) {i nf : Nat} {y : MethodName} {cb : ByteArray} {cm : Nat} {cret : Option FieldType} {rm : Room} {a : Addr} {argsL : List Value} {K : String} {Q' : Option Value → Heap → Prop} (W : Nat) (E : Exa Z h a K) (w1 : (Jvm.Cond.methodLink own i y).before a0 Z = true) (w2 : (Jvm.Cond.instanceMethod y).before a0 Z = true) (w3 : (Jvm.Cond.privateMethod y).before a0 Z = true) (w4 : (Jvm.Cond.instantiable y.cls nf).before a0 Z = true) (w5 : (Jvm.Cond.code y cb cm cret).before a0 Z = true) (w6 : (Jvm.Cond.initialized y.cls).before a0 Z = true) (hy : y.cls ≠ "java/lang/invoke/MethodHandle" ∧ y.cls ≠ "java/lang/invoke/VarHandle")
    (hM : own_Met l Z n0 y cb cm cret rm [] (.ref a :: argsL).toArray h Q') (hf : rm.frames + 1 ≤ R.frames) (hl : W + (cm + 11) + rm.locals ≤ R.locals) (hlen : ∀ sig, parseMethodDescriptor y.desc = some sig → argsL.length = sig.parameters.length) {st : List Value} (hst : st = argsL.reverse ++ .ref a :: rest) (hW : 0 + (rest.map fun v => v.category).sum ≤ W) (hd : decode bytes pc = .ok (.invokevirtual i, 3)) (hp : pc + 3 = pc') (hsz : Ls.size = maxL) (hc : k + rm.cells ≤ R.cells) (hs : q + rm.slots ≤ R.slots)
    (r : ∀ v h', Q' v h' → own_Run p l e R s m args below meth c n0 Kf h' (k + rm.cells) (q + rm.slots) (mkF m pc' Ls (v.toList ++ rest))) : own_Run p l e R s m args below meth c n0 Kf h k q (mkF m pc Ls st) := fun T locs X eT N => by
  subst hp
  have hK := backOf (l := l) (R := R) (p := p) (e := e) (s := s) (below := below) (args := args) (len := 3) (W := W) (Q := fun v h L => Fr n0 L ∧ Q' v h) hM C.g_z w5 w6 hf hl
  obtain ⟨mk, mM, hnamed, hmM, hsta, hab⟩ := Cond.instanceMethod_spec (mvT (args := args) C.g_z w2)
  obtain ⟨mM', cM, hmM', -, -, -, -, -, -, hsig⟩ := Cond.code_spec hnamed (mvT (args := args) C.g_z w5)
  cases hmM.symm.trans hmM'
  obtain ⟨cI, kI, i1, i2, -, i4, -⟩ := Cond.instantiable_spec (mvT (args := args) C.g_z w4)
  cases i1.symm.trans (findClass_of_methodNamed hnamed)
  have hni : kI.isInterface = false := (Bool.or_eq_false_iff.mp i4).1
  obtain ⟨cell, hc1, hc2⟩ := E.cell
  have hsel := selectMethod_private (p := e.platform) (c := cell.cls) hmM (Cond.privateMethod_at (mvP C.g_z w3 (args := #[])) mk mM hnamed hmM)
  obtain ⟨vm1, X1, st1⟩ := X.invokevirtual C.g_x C.g_own (mvT C.g_z w1) hnamed hmM hsta i2 hni hy (a := a) (cell := cell) (by rw [eT]; exact hc1) hc2 hsel hmM hab i2 hni (g := mkF m pc Ls st) rfl (argsL := argsL) (rest := rest) (hlen _ hsig) hst (hb C.g_by hd)
  obtain ⟨v, ⟨T1, L1, k1, n1⟩, X2, ⟨Lc1, hQ1, l1, y1, z1⟩, st2⟩ := hK m meth c ⟨T.setVm vm1, locs, k, q⟩ (mkF m pc Ls rest) (.invokevirtual i) mk (.ref a :: argsL).toArray X1 rfl (by rw [C.g_ml]; exact hsz) (hb C.g_by hd) (by show 2 * 0 + _ ≤ _; exact hW) (X1.named hnamed) ⟨rfl, eT, hc, hs⟩
  dsimp only [Pt.U, Pt.locs, Pt.cells, Pt.slots] at X2 l1 y1 z1 st2 hQ1
  subst l1 y1 z1
  obtain ⟨t, o, h2, h3⟩ := r v T1.heap hQ1.2 T1 _ X2 rfl (Fr.app N hQ1.1)
  exact ⟨t, o, st1 _ fun acts => by rw [doInvoke_state]; exact st2.trans h2, h3⟩
theorem own_ret (C : own_Ctx p s m meth c Z own nm bytes maxL ret) {v : Value} {t : FieldType} {i : Instr} (hret : ret = some t) (hn : narrow t v = v)
    (hi : (i = .ireturn ∧ (t = .int ∨ t = .boolean ∨ t = .byte ∨ t = .char ∨ t = .short) ∧ ∃ z, v = .int z) ∨ (i = .lreturn ∧ t = .long ∧ ∃ z, v = .long z) ∨ (i = .dreturn ∧ t = .double ∧ ∃ z, v = .double z) ∨ (i = .freturn ∧ t = .float ∧ ∃ z, v = .float z) ∨ (i = .areturn ∧ t.isReference = true ∧ v.isRef = true))
    (hd : decode bytes pc = .ok (i, 1)) (hc : k ≤ R.cells) (hs : q ≤ R.slots) (hQ : Q (some v) h) : own_Run p l e R s m args below meth c n0 (own_K below R s n0 Q) h k q (mkF m pc Ls (v :: rest)) := fun T locs X eT N => by
  have hlocks := C.g_lk
  obtain ⟨fs, hr, hrun, hended, hW, hsame⟩ := X.leave (v := some v) (fun hh => by rw [C.g_rt, hret] at hh; cases hh) hlocks
  refine ⟨_, _, retOut X C.g_x (C.g_rt.trans hret) hn hi (hb C.g_by hd) hr, hrun, hended, _, _, rfl, ⟨N, ?_⟩, ⟨_, rfl⟩, hW, hsame.mono hc hs⟩
  show Q (some v) T.heap
  rw [eT]; exact hQ
theorem own_retV (C : own_Ctx p s m meth c Z own nm bytes maxL ret) (hret : ret = none) (hd : decode bytes pc = .ok (.return_, 1)) (hc : k ≤ R.cells) (hs : q ≤ R.slots) (hQ : Q none h) : own_Run p l e R s m args below meth c n0 (own_K below R s n0 Q) h k q (mkF m pc Ls []) := fun T locs X eT N => by
  have hlocks := C.g_lk
  obtain ⟨fs, hr, hrun, hended, hW, hsame⟩ := X.leave (v := none) (fun _ => rfl) hlocks
  refine ⟨_, _, X.returnOut C.g_x (C.g_rt.trans hret) (hb C.g_by hd) hr, hrun, hended, _, _, rfl, ⟨N, ?_⟩, ⟨_, rfl⟩, hW, hsame.mono hc hs⟩
  show Q none T.heap
  rw [eT]; exact hQ
theorem own_refne {a b : Addr} (hn : a ≠ b) : ¬ (Value.ref a = Value.ref b) := fun e => hn (Value.ref.inj e)
theorem own_nb {v : Int32} (hv : v = 0 ∨ v = 1) : narrow .boolean (.int v) = .int v := by rcases hv with rfl | rfl <;> rfl
theorem own_fb {v : Int32} (hv : v = 0 ∨ v = 1) : fits .boolean (.int v) = true := by rcases hv with rfl | rfl <;> rfl
theorem own_join {α : Type} {g : JFrame} (P : α → Prop) (F : α → JFrame) (j : ∀ v, P v → own_Run p l e R s m args below meth c n0 Kf h k q (F v)) (r : (∀ v, P v → own_Run p l e R s m args below meth c n0 Kf h k q (F v)) → own_Run p l e R s m args below meth c n0 Kf h k q g) : own_Run p l e R s m args below meth c n0 Kf h k q g := r j
theorem own_join2 {α β : Type} {g : JFrame} (P : α → β → Prop) (F : α → β → JFrame) (j : ∀ v w, P v w → own_Run p l e R s m args below meth c n0 Kf h k q (F v w)) (r : (∀ v w, P v w → own_Run p l e R s m args below meth c n0 Kf h k q (F v w)) → own_Run p l e R s m args below meth c n0 Kf h k q g) : own_Run p l e R s m args below meth c n0 Kf h k q g := r j
theorem own_join3 {α β γ : Type} {g : JFrame} (P : α → β → γ → Prop) (F : α → β → γ → JFrame) (j : ∀ v w x, P v w x → own_Run p l e R s m args below meth c n0 Kf h k q (F v w x)) (r : (∀ v w x, P v w x → own_Run p l e R s m args below meth c n0 Kf h k q (F v w x)) → own_Run p l e R s m args below meth c n0 Kf h k q g) : own_Run p l e R s m args below meth c n0 Kf h k q g := r j
def own_upd {α : Type} (f : Nat → α) (i : Nat) (x : α) : Nat → α := fun j => if j = i then x else f j
theorem own_upd_eq {α : Type} (f : Nat → α) (i : Nat) (x : α) : own_upd f i x i = x := if_pos rfl
theorem own_upd_ne {α : Type} (f : Nat → α) {i j : Nat} (x : α) (hne : j ≠ i) : own_upd f i x j = f j := if_neg hne
/-- an array: her length, and what each place holds -/
def own_A (Z : State) (h : Heap) (a : Addr) (ty : FieldType) (n : Nat) (f : Nat → Value) : Prop := n < 2 ^ 31 ∧ ∃ cl : Cell, Arr Z h a cl ty ∧ cl.slots.size = n ∧ ∀ j, j < n → cl.slots[j]? = some (f j)
abbrev own_AI (Z : State) (h : Heap) (a : Addr) (n : Nat) (f : Nat → Int32) : Prop := own_A Z h a .int n (fun j => .int (f j))
abbrev own_AB (Z : State) (h : Heap) (a : Addr) (n : Nat) (f : Nat → Int32) : Prop := own_A Z h a .byte n (fun j => .int (f j))
abbrev own_AZ (Z : State) (h : Heap) (a : Addr) (n : Nat) (f : Nat → Int32) : Prop := own_A Z h a .boolean n (fun j => .int (f j))
abbrev own_AJ (Z : State) (h : Heap) (a : Addr) (n : Nat) (f : Nat → Int64) : Prop := own_A Z h a .long n (fun j => .long (f j))
theorem own_A.lt {h : Heap} {a : Addr} {ty : FieldType} {n : Nat} {f : Nat → Value} (V : own_A Z h a ty n f) : a < h.size := by obtain ⟨_, cl, A, _⟩ := V; exact A.lt
theorem own_A.ext {h h' : Heap} {a : Addr} {ty : FieldType} {n : Nat} {f : Nat → Value} (V : own_A Z h a ty n f) (E : Ext h h') : own_A Z h' a ty n f := by obtain ⟨hn, cl, A, r⟩ := V; exact ⟨hn, cl, A.ext E, r⟩
theorem own_A.other {h h' : Heap} {a b : Addr} {sl : Nat} {w : Value} {ty : FieldType} {n : Nat} {f : Nat → Value} (V : own_A Z h b ty n f) (W : Wr h h' a sl w) (hne : b ≠ a) : own_A Z h' b ty n f := by obtain ⟨hn, cl, A, r⟩ := V; exact ⟨hn, cl, A.other W hne, r⟩
theorem own_A.keep {h h' : Heap} {a : Addr} {ws : List Addr} {ty : FieldType} {n : Nat} {f : Nat → Value} (V : own_A Z h a ty n f) (K : Keep h h' ws) (hne : a ∉ ws) : own_A Z h' a ty n f := by obtain ⟨hn, cl, A, r⟩ := V; exact ⟨hn, cl, ⟨K.2.1 a cl A.1 hne, A.2⟩, r⟩
theorem own_A.congr {h : Heap} {a : Addr} {ty : FieldType} {n : Nat} {f g : Nat → Value} (V : own_A Z h a ty n f) (e : ∀ j, j < n → f j = g j) : own_A Z h a ty n g := by obtain ⟨hn, cl, A, S, H⟩ := V; exact ⟨hn, cl, A, S, fun j hj => by rw [← e j hj]; exact H j hj⟩
theorem own_A.set {h h' : Heap} {a : Addr} {i : Nat} {w : Value} {ty : FieldType} {n : Nat} {f : Nat → Value} (V : own_A Z h a ty n f) (W : Wr h h' a i w) (hi : i < n) : own_A Z h' a ty n (own_upd f i w) := by
  obtain ⟨hn, cl, A, S, H⟩ := V
  refine ⟨hn, _, A.same W, by rw [sz_set]; exact S, fun j hj => ?_⟩
  by_cases e : j = i
  · subst e
    rw [own_upd_eq]; simp [Cell.setSlot, S, hj]
  · rw [own_upd_ne _ _ e]
    show (cl.slots.setIfInBounds i w)[j]? = _
    rw [Array.getElem?_setIfInBounds_ne (Ne.symm e)]; exact H j hj
theorem own_nat {j : Int32} {i : Nat} (hj : j.toInt = (i : Int)) : ¬ j < 0 ∧ j.toNatClampNeg = i := by
  have z : (0 : Int32).toInt = 0 := rfl
  refine ⟨?_, ?_⟩
  · rw [Int32.lt_iff_toInt_lt]; omega
  · simp only [Int32.toNatClampNeg]; omega
theorem own_inb {j : Int32} {i : Nat} {cl : Cell} {n : Nat} (hj : j.toInt = (i : Int)) (S : cl.slots.size = n) (hi : i < n) : ¬ (j < 0 ∨ cl.slots.size ≤ j.toNatClampNeg) := by
  obtain ⟨h1, h2⟩ := own_nat hj
  rw [S, h2]; exact fun hh => hh.elim h1 (Nat.not_le.mpr hi)
theorem own_newA (C : own_Ctx p s m meth c Z own nm bytes maxL ret) {aty : ArrayType} (w : (Jvm.Cond.arrayClass (newarray.typeOf aty)).before a0 Z = true) (Z0 : n0 ≤ h.size) (hd : decode bytes pc = .ok (.newarray aty, 2)) (hp : pc + 2 = pc') {n : Int32} {nn cap : Nat} (hn : n.toInt = (nn : Int)) (hcap : nn ≤ cap) (hbig : cap * 8 ≤ 536870912) (hc : k + 1 ≤ R.cells) (hl : q + cap ≤ R.slots)
    (r : ∀ h' a, a = h.size → n0 ≤ a → n0 ≤ h'.size → Ext h h' → own_A Z h' a (newarray.typeOf aty) nn (fun _ => defaultValue (newarray.typeOf aty)) → own_Run p l e R s m args below meth c n0 Kf h' (k + 1) (q + cap) (mkF m pc' Ls (.ref a :: rest))) : own_Run p l e R s m args below meth c n0 Kf h k q (mkF m pc Ls (.int n :: rest)) := fun T locs X eT N => by
  subst hp
  obtain ⟨p1, p2⟩ := own_nat hn
  obtain ⟨T1, h1, cA, X1, e1, E1, A1, st1⟩ := newP X C.g_x C.g_z w eT (g := mkF m pc Ls (.int n :: rest)) rfl (hb C.g_by hd) rfl p1 (cap := cap) (by rw [p2]; exact hcap) hbig hc hl
  have V : own_A Z h1 h.size (newarray.typeOf aty) nn (fun _ => defaultValue (newarray.typeOf aty)) := by
    refine ⟨by have := Int32.toInt_lt n; omega, _, A1, by rw [sz_new, p2], fun j hj => ?_⟩
    simp [newA, p2, hj]
  obtain ⟨t, o, h2, h3⟩ := r h1 h.size rfl Z0 (Nat.le_trans Z0 E1.1) E1 V T1 _ X1 e1 N
  exact ⟨t, o, st1 _ h2, h3⟩
theorem own_newAI (C : own_Ctx p s m meth c Z own nm bytes maxL ret) (w : (Jvm.Cond.arrayClass .int).before a0 Z = true) (Z0 : n0 ≤ h.size) (hd : decode bytes pc = .ok (.newarray .int, 2)) (hp : pc + 2 = pc') {n : Int32} {nn cap : Nat} (hn : n.toInt = (nn : Int)) (hcap : nn ≤ cap) (hbig : cap * 8 ≤ 536870912) (hc : k + 1 ≤ R.cells) (hl : q + cap ≤ R.slots)
    (r : ∀ h' a, a = h.size → n0 ≤ a → n0 ≤ h'.size → Ext h h' → own_AI Z h' a nn (fun _ => (0 : Int32)) → own_Run p l e R s m args below meth c n0 Kf h' (k + 1) (q + cap) (mkF m pc' Ls (.ref a :: rest))) : own_Run p l e R s m args below meth c n0 Kf h k q (mkF m pc Ls (.int n :: rest)) := own_newA C (aty := .int) w Z0 hd hp hn hcap hbig hc hl r
theorem own_stI (C : own_Ctx p s m meth c Z own nm bytes maxL ret) {a : Addr} {n : Nat} {f : Nat → Int32} (V : own_AI Z h a n f) {j : Int32} {i : Nat} {x : Int32} (hj : j.toInt = (i : Int)) (hi : i < n) (ga : n0 ≤ a) (hd : decode bytes pc = .ok (.iastore, 1)) (hp : pc + 1 = pc')
    (r : ∀ h', Wr h h' a i (.int x) → own_AI Z h' a n (own_upd f i x) → own_Run p l e R s m args below meth c n0 Kf h' k q (mkF m pc' Ls rest)) : own_Run p l e R s m args below meth c n0 Kf h k q (mkF m pc Ls (.int x :: .int j :: .ref a :: rest)) := fun T locs X eT N => by
  subst hp
  obtain ⟨p1, p2⟩ := own_nat hj
  obtain ⟨hn, cl, A, S, H⟩ := id V
  obtain ⟨T1, h1, X1, e1, W1, st1⟩ := stI X C.g_x C.g_z eT A (own_inb hj S hi) (g := mkF m pc Ls (.int x :: .int j :: .ref a :: rest)) rfl rfl (hb C.g_by hd)
  have W2 : Wr h h1 a i (.int x) := by rw [← p2]; exact W1
  obtain ⟨t, o, h2, h3⟩ := r h1 W2 ((own_A.set V W2 hi).congr fun j hj => by by_cases e : j = i <;> simp [own_upd, e]) T1 _ X1 e1 (Fr.snoc X1 N ga)
  exact ⟨t, o, st1 _ h2, h3⟩
theorem own_lenI (C : own_Ctx p s m meth c Z own nm bytes maxL ret) {a : Addr} {n : Nat} {f : Nat → Int32} (V : own_AI Z h a n f) (hd : decode bytes pc = .ok (.arraylength, 1)) (hp : pc + 1 = pc') (r : own_Run p l e R s m args below meth c n0 Kf h k q (mkF m pc' Ls (.int (Nat.toInt32 n) :: rest))) : own_Run p l e R s m args below meth c n0 Kf h k q (mkF m pc Ls (.ref a :: rest)) := by
  obtain ⟨hn, cl, A, S, H⟩ := V
  subst hp
  rw [← S] at r
  exact own_st (fun T locs X eT t kk => X.arraylength C.g_x (by rw [eT]; exact A.1) (State.isArrayOf_alike C.g_z.alike A.2.1) (g := mkF m pc Ls (.ref a :: rest)) rfl rfl (hb C.g_by hd) t kk) r
theorem own_ldI (C : own_Ctx p s m meth c Z own nm bytes maxL ret) {a : Addr} {n : Nat} {f : Nat → Int32} (V : own_AI Z h a n f) {j : Int32} {i : Nat} (hj : j.toInt = (i : Int)) (hi : i < n) (hd : decode bytes pc = .ok (.iaload, 1)) (hp : pc + 1 = pc') (r : own_Run p l e R s m args below meth c n0 Kf h k q (mkF m pc' Ls (.int (f i) :: rest))) : own_Run p l e R s m args below meth c n0 Kf h k q (mkF m pc Ls (.int j :: .ref a :: rest)) := by
  obtain ⟨p1, p2⟩ := own_nat hj
  obtain ⟨hn, cl, A, S, H⟩ := V
  subst hp
  exact own_st (fun T locs X eT t kk => X.iaload C.g_x (by rw [eT]; exact A.1) (State.isArrayOf_alike C.g_z.alike A.2.1) A.2.2 (own_inb hj S hi) (by rw [p2]; exact H i hi) (g := mkF m pc Ls (.int j :: .ref a :: rest)) rfl rfl (hb C.g_by hd) t kk) r
theorem own_ldIV (C : own_Ctx p s m meth c Z own nm bytes maxL ret) {a : Addr} {n : Nat} {f : Nat → Int32} (V : own_AI Z h a n f) {j : Int32} {i : Nat} {v : Int32} (hj : j.toInt = (i : Int)) (hi : i < n) (hv : f i = v) (hd : decode bytes pc = .ok (.iaload, 1)) (hp : pc + 1 = pc') (r : own_Run p l e R s m args below meth c n0 Kf h k q (mkF m pc' Ls (.int v :: rest))) : own_Run p l e R s m args below meth c n0 Kf h k q (mkF m pc Ls (.int j :: .ref a :: rest)) := by
  subst hv; exact own_ldI C V hj hi hd hp r
theorem own_newAB (C : own_Ctx p s m meth c Z own nm bytes maxL ret) (w : (Jvm.Cond.arrayClass .byte).before a0 Z = true) (Z0 : n0 ≤ h.size) (hd : decode bytes pc = .ok (.newarray .byte, 2)) (hp : pc + 2 = pc') {n : Int32} {nn cap : Nat} (hn : n.toInt = (nn : Int)) (hcap : nn ≤ cap) (hbig : cap * 8 ≤ 536870912) (hc : k + 1 ≤ R.cells) (hl : q + cap ≤ R.slots)
    (r : ∀ h' a, a = h.size → n0 ≤ a → n0 ≤ h'.size → Ext h h' → own_AB Z h' a nn (fun _ => (0 : Int32)) → own_Run p l e R s m args below meth c n0 Kf h' (k + 1) (q + cap) (mkF m pc' Ls (.ref a :: rest))) : own_Run p l e R s m args below meth c n0 Kf h k q (mkF m pc Ls (.int n :: rest)) := own_newA C (aty := .byte) w Z0 hd hp hn hcap hbig hc hl r
theorem own_stB (C : own_Ctx p s m meth c Z own nm bytes maxL ret) {a : Addr} {n : Nat} {f : Nat → Int32} (V : own_AB Z h a n f) {j : Int32} {i : Nat} {x : Int32} (hj : j.toInt = (i : Int)) (hi : i < n) (ga : n0 ≤ a) (hd : decode bytes pc = .ok (.bastore, 1)) (hp : pc + 1 = pc')
    (r : ∀ h', Wr h h' a i (.int (x.toInt8.toInt32)) → own_AB Z h' a n (own_upd f i (x.toInt8.toInt32)) → own_Run p l e R s m args below meth c n0 Kf h' k q (mkF m pc' Ls rest)) : own_Run p l e R s m args below meth c n0 Kf h k q (mkF m pc Ls (.int x :: .int j :: .ref a :: rest)) := fun T locs X eT N => by
  subst hp
  obtain ⟨p1, p2⟩ := own_nat hj
  obtain ⟨hn, cl, A, S, H⟩ := id V
  obtain ⟨T1, h1, X1, e1, W1, st1⟩ := stB X C.g_x C.g_z eT A (own_inb hj S hi) (g := mkF m pc Ls (.int x :: .int j :: .ref a :: rest)) rfl rfl (hb C.g_by hd)
  have W2 : Wr h h1 a i (.int (x.toInt8.toInt32)) := by rw [← p2]; exact W1
  obtain ⟨t, o, h2, h3⟩ := r h1 W2 ((own_A.set V W2 hi).congr fun j hj => by by_cases e : j = i <;> simp [own_upd, e]) T1 _ X1 e1 (Fr.snoc X1 N ga)
  exact ⟨t, o, st1 _ h2, h3⟩
theorem own_lenB (C : own_Ctx p s m meth c Z own nm bytes maxL ret) {a : Addr} {n : Nat} {f : Nat → Int32} (V : own_AB Z h a n f) (hd : decode bytes pc = .ok (.arraylength, 1)) (hp : pc + 1 = pc') (r : own_Run p l e R s m args below meth c n0 Kf h k q (mkF m pc' Ls (.int (Nat.toInt32 n) :: rest))) : own_Run p l e R s m args below meth c n0 Kf h k q (mkF m pc Ls (.ref a :: rest)) := by
  obtain ⟨hn, cl, A, S, H⟩ := V
  subst hp
  rw [← S] at r
  exact own_st (fun T locs X eT t kk => X.arraylength C.g_x (by rw [eT]; exact A.1) (State.isArrayOf_alike C.g_z.alike A.2.1) (g := mkF m pc Ls (.ref a :: rest)) rfl rfl (hb C.g_by hd) t kk) r
theorem own_ldB (C : own_Ctx p s m meth c Z own nm bytes maxL ret) {a : Addr} {n : Nat} {f : Nat → Int32} (V : own_AB Z h a n f) {j : Int32} {i : Nat} (hj : j.toInt = (i : Int)) (hi : i < n) (hd : decode bytes pc = .ok (.baload, 1)) (hp : pc + 1 = pc') (r : own_Run p l e R s m args below meth c n0 Kf h k q (mkF m pc' Ls (.int (f i) :: rest))) : own_Run p l e R s m args below meth c n0 Kf h k q (mkF m pc Ls (.int j :: .ref a :: rest)) := by
  obtain ⟨p1, p2⟩ := own_nat hj
  obtain ⟨hn, cl, A, S, H⟩ := V
  subst hp
  exact own_st (fun T locs X eT t kk => X.baloadBytes C.g_x (by rw [eT]; exact A.1) (State.isArrayOf_alike C.g_z.alike A.2.1) A.2.2 (own_inb hj S hi) (by rw [p2]; exact H i hi) (g := mkF m pc Ls (.int j :: .ref a :: rest)) rfl rfl (hb C.g_by hd) t kk) r
theorem own_ldBV (C : own_Ctx p s m meth c Z own nm bytes maxL ret) {a : Addr} {n : Nat} {f : Nat → Int32} (V : own_AB Z h a n f) {j : Int32} {i : Nat} {v : Int32} (hj : j.toInt = (i : Int)) (hi : i < n) (hv : f i = v) (hd : decode bytes pc = .ok (.baload, 1)) (hp : pc + 1 = pc') (r : own_Run p l e R s m args below meth c n0 Kf h k q (mkF m pc' Ls (.int v :: rest))) : own_Run p l e R s m args below meth c n0 Kf h k q (mkF m pc Ls (.int j :: .ref a :: rest)) := by
  subst hv; exact own_ldB C V hj hi hd hp r
theorem own_newAZ (C : own_Ctx p s m meth c Z own nm bytes maxL ret) (w : (Jvm.Cond.arrayClass .boolean).before a0 Z = true) (Z0 : n0 ≤ h.size) (hd : decode bytes pc = .ok (.newarray .boolean, 2)) (hp : pc + 2 = pc') {n : Int32} {nn cap : Nat} (hn : n.toInt = (nn : Int)) (hcap : nn ≤ cap) (hbig : cap * 8 ≤ 536870912) (hc : k + 1 ≤ R.cells) (hl : q + cap ≤ R.slots)
    (r : ∀ h' a, a = h.size → n0 ≤ a → n0 ≤ h'.size → Ext h h' → own_AZ Z h' a nn (fun _ => (0 : Int32)) → own_Run p l e R s m args below meth c n0 Kf h' (k + 1) (q + cap) (mkF m pc' Ls (.ref a :: rest))) : own_Run p l e R s m args below meth c n0 Kf h k q (mkF m pc Ls (.int n :: rest)) := own_newA C (aty := .boolean) w Z0 hd hp hn hcap hbig hc hl r
theorem own_stZ (C : own_Ctx p s m meth c Z own nm bytes maxL ret) {a : Addr} {n : Nat} {f : Nat → Int32} (V : own_AZ Z h a n f) {j : Int32} {i : Nat} {x : Int32} (hj : j.toInt = (i : Int)) (hi : i < n) (ga : n0 ≤ a) (hd : decode bytes pc = .ok (.bastore, 1)) (hp : pc + 1 = pc')
    (r : ∀ h', Wr h h' a i (.int (x &&& 1)) → own_AZ Z h' a n (own_upd f i (x &&& 1)) → own_Run p l e R s m args below meth c n0 Kf h' k q (mkF m pc' Ls rest)) : own_Run p l e R s m args below meth c n0 Kf h k q (mkF m pc Ls (.int x :: .int j :: .ref a :: rest)) := fun T locs X eT N => by
  subst hp
  obtain ⟨p1, p2⟩ := own_nat hj
  obtain ⟨hn, cl, A, S, H⟩ := id V
  obtain ⟨T1, h1, X1, e1, W1, st1⟩ := stZ X C.g_x C.g_z eT A (own_inb hj S hi) (g := mkF m pc Ls (.int x :: .int j :: .ref a :: rest)) rfl rfl (hb C.g_by hd)
  have W2 : Wr h h1 a i (.int (x &&& 1)) := by rw [← p2]; exact W1
  obtain ⟨t, o, h2, h3⟩ := r h1 W2 ((own_A.set V W2 hi).congr fun j hj => by by_cases e : j = i <;> simp [own_upd, e]) T1 _ X1 e1 (Fr.snoc X1 N ga)
  exact ⟨t, o, st1 _ h2, h3⟩
theorem own_lenZ (C : own_Ctx p s m meth c Z own nm bytes maxL ret) {a : Addr} {n : Nat} {f : Nat → Int32} (V : own_AZ Z h a n f) (hd : decode bytes pc = .ok (.arraylength, 1)) (hp : pc + 1 = pc') (r : own_Run p l e R s m args below meth c n0 Kf h k q (mkF m pc' Ls (.int (Nat.toInt32 n) :: rest))) : own_Run p l e R s m args below meth c n0 Kf h k q (mkF m pc Ls (.ref a :: rest)) := by
  obtain ⟨hn, cl, A, S, H⟩ := V
  subst hp
  rw [← S] at r
  exact own_st (fun T locs X eT t kk => X.arraylength C.g_x (by rw [eT]; exact A.1) (State.isArrayOf_alike C.g_z.alike A.2.1) (g := mkF m pc Ls (.ref a :: rest)) rfl rfl (hb C.g_by hd) t kk) r
theorem own_newAJ (C : own_Ctx p s m meth c Z own nm bytes maxL ret) (w : (Jvm.Cond.arrayClass .long).before a0 Z = true) (Z0 : n0 ≤ h.size) (hd : decode bytes pc = .ok (.newarray .long, 2)) (hp : pc + 2 = pc') {n : Int32} {nn cap : Nat} (hn : n.toInt = (nn : Int)) (hcap : nn ≤ cap) (hbig : cap * 8 ≤ 536870912) (hc : k + 1 ≤ R.cells) (hl : q + cap ≤ R.slots)
    (r : ∀ h' a, a = h.size → n0 ≤ a → n0 ≤ h'.size → Ext h h' → own_AJ Z h' a nn (fun _ => (0 : Int64)) → own_Run p l e R s m args below meth c n0 Kf h' (k + 1) (q + cap) (mkF m pc' Ls (.ref a :: rest))) : own_Run p l e R s m args below meth c n0 Kf h k q (mkF m pc Ls (.int n :: rest)) := own_newA C (aty := .long) w Z0 hd hp hn hcap hbig hc hl r
theorem own_stJ (C : own_Ctx p s m meth c Z own nm bytes maxL ret) {a : Addr} {n : Nat} {f : Nat → Int64} (V : own_AJ Z h a n f) {j : Int32} {i : Nat} {x : Int64} (hj : j.toInt = (i : Int)) (hi : i < n) (ga : n0 ≤ a) (hd : decode bytes pc = .ok (.lastore, 1)) (hp : pc + 1 = pc')
    (r : ∀ h', Wr h h' a i (.long x) → own_AJ Z h' a n (own_upd f i x) → own_Run p l e R s m args below meth c n0 Kf h' k q (mkF m pc' Ls rest)) : own_Run p l e R s m args below meth c n0 Kf h k q (mkF m pc Ls (.long x :: .int j :: .ref a :: rest)) := fun T locs X eT N => by
  subst hp
  obtain ⟨p1, p2⟩ := own_nat hj
  obtain ⟨hn, cl, A, S, H⟩ := id V
  obtain ⟨T1, h1, X1, e1, W1, st1⟩ := stJ X C.g_x C.g_z eT A (own_inb hj S hi) (g := mkF m pc Ls (.long x :: .int j :: .ref a :: rest)) rfl rfl (hb C.g_by hd)
  have W2 : Wr h h1 a i (.long x) := by rw [← p2]; exact W1
  obtain ⟨t, o, h2, h3⟩ := r h1 W2 ((own_A.set V W2 hi).congr fun j hj => by by_cases e : j = i <;> simp [own_upd, e]) T1 _ X1 e1 (Fr.snoc X1 N ga)
  exact ⟨t, o, st1 _ h2, h3⟩
theorem own_lenJ (C : own_Ctx p s m meth c Z own nm bytes maxL ret) {a : Addr} {n : Nat} {f : Nat → Int64} (V : own_AJ Z h a n f) (hd : decode bytes pc = .ok (.arraylength, 1)) (hp : pc + 1 = pc') (r : own_Run p l e R s m args below meth c n0 Kf h k q (mkF m pc' Ls (.int (Nat.toInt32 n) :: rest))) : own_Run p l e R s m args below meth c n0 Kf h k q (mkF m pc Ls (.ref a :: rest)) := by
  obtain ⟨hn, cl, A, S, H⟩ := V
  subst hp
  rw [← S] at r
  exact own_st (fun T locs X eT t kk => X.arraylength C.g_x (by rw [eT]; exact A.1) (State.isArrayOf_alike C.g_z.alike A.2.1) (g := mkF m pc Ls (.ref a :: rest)) rfl rfl (hb C.g_by hd) t kk) r
end Own

theorem own_succ (i : Nat) : Nat.toInt32 i + (1 : Int32) = Nat.toInt32 (i + 1) := by
  show Int32.ofNat i + Int32.ofNat 1 = Int32.ofNat (i + 1)
  rw [Int32.ofNat_add]
theorem own_ti {i : Nat} (hi : i < 2 ^ 31) : (Nat.toInt32 i).toInt = (i : Int) := len_toInt hi
theorem own_tlt {i n : Nat} (hi : i < 2 ^ 31) (hn : n < 2 ^ 31) : Nat.toInt32 i < Nat.toInt32 n ↔ i < n := by
  rw [Int32.lt_iff_toInt_lt, own_ti hi, own_ti hn]; omega
theorem own_nz {n : Int32} {N : Nat} (hn : n.toInt = (N : Int)) (h0 : 0 < N) : n ≠ 0 := by
  intro e; subst e
  have z : (0 : Int32).toInt = 0 := rfl
  omega
theorem own_pos (p : Int32) : ∃ P : Nat, (p &&& (2147483647 : Int32)).toInt = (P : Int) ∧ P < 2147483648 := by
  have h1 := (Jvm.RoadKit.c_andS p (2147483647 : Int32)).2.2 (by decide)
  have h2 := Int32.toInt_lt (p &&& (2147483647 : Int32))
  exact ⟨(p &&& (2147483647 : Int32)).toInt.toNat, by omega, by omega⟩
theorem own_mod {x n : Int32} {X N : Nat} (hx : x.toInt = (X : Int)) (hn : n.toInt = (N : Int)) (h0 : 0 < N) : (x % n).toInt = ((X % N : Nat) : Int) := by
  have h := Int32.toInt_lt n
  rw [Int32.toInt_mod, hx, hn, Int.tmod_eq_emod_of_nonneg (by omega)]
  rfl
theorem own_rem (p : Int32) {n : Int32} {N : Nat} (hn : n.toInt = (N : Int)) (h0 : 0 < N) : ∃ A : Nat, A < N ∧ ((p &&& (2147483647 : Int32)) % n).toInt = (A : Int) := by
  obtain ⟨P, hP, _⟩ := own_pos p
  exact ⟨P % N, Nat.mod_lt _ h0, own_mod hP hn h0⟩
theorem own_add {x y : Int32} {X Y : Nat} (hx : x.toInt = (X : Int)) (hy : y.toInt = (Y : Int)) (hb : X + Y < 2147483648) : (x + y).toInt = ((X + Y : Nat) : Int) := by
  rw [Jvm.Free.XT.add32 ⟨by rw [hx, hy]; omega, by rw [hx, hy]; omega⟩, hx, hy]; omega
theorem own_sub1 {x : Int32} {X : Nat} (hx : x.toInt = (X : Int)) (h0 : 0 < X) : (x - (1 : Int32)).toInt = ((X - 1 : Nat) : Int) := by
  have h := Int32.toInt_lt x
  have o : (1 : Int32).toInt = 1 := rfl
  rw [Jvm.Free.XT.sub32 ⟨by rw [hx, o]; omega, by rw [hx, o]; omega⟩, hx, o]; omega
theorem own_inj {x y : Int32} {X Y : Nat} (hx : x.toInt = (X : Int)) (hy : y.toInt = (Y : Int)) : x = y ↔ X = Y := by
  rw [← Int32.toInt_inj, hx, hy]; omega
theorem own_md6 (p : Int32) : (p &&& (2147483647 : Int32)) % (6 : Int32) = 0 ∨ (p &&& (2147483647 : Int32)) % (6 : Int32) = 1 ∨ (p &&& (2147483647 : Int32)) % (6 : Int32) = 2 ∨ (p &&& (2147483647 : Int32)) % (6 : Int32) = 3 ∨ (p &&& (2147483647 : Int32)) % (6 : Int32) = 4 ∨ (p &&& (2147483647 : Int32)) % (6 : Int32) = 5 := by
  obtain ⟨A, hA, e⟩ := own_rem p (n := (6 : Int32)) (N := 6) (by decide) (by decide)
  have t : A = 0 ∨ A = 1 ∨ A = 2 ∨ A = 3 ∨ A = 4 ∨ A = 5 := by omega
  rcases t with rfl | rfl | rfl | rfl | rfl | rfl
  · exact Or.inl (Int32.toInt_inj.mp e)
  · exact Or.inr (Or.inl (Int32.toInt_inj.mp e))
  · exact Or.inr (Or.inr (Or.inl (Int32.toInt_inj.mp e)))
  · exact Or.inr (Or.inr (Or.inr (Or.inl (Int32.toInt_inj.mp e))))
  · exact Or.inr (Or.inr (Or.inr (Or.inr (Or.inl (Int32.toInt_inj.mp e)))))
  · exact Or.inr (Or.inr (Or.inr (Or.inr (Or.inr (Int32.toInt_inj.mp e)))))
theorem own_eqI {t : Jvm.Term} {k : Int32} {args : Array Value} {s : State} (h : (Jvm.Cond.eq t (.int k)).value args s none s [] = some true) : t.eval args s none [] s = some (.int k) := by
  obtain ⟨x, y, hx, hy, k1, k2⟩ := cmp_v (Or.inl h)
  cases (Term.int_eval k).symm.trans hy
  obtain ⟨z, rfl⟩ := k2
  have e : z = k := by simpa [Cond.value, hx, Term.int_eval] using h
  rw [hx, e]
def own_at (cl : Cell) (j : Nat) : Int32 := match cl.slots[j]? with
  | some (.int x) => x
  | _ => 0
theorem own_el {s : State} {a : Addr} {cl : Cell} {args : Array Value} {t : Jvm.Term} {i c : Int32} {ty : FieldType} (A : Arr s s.heap a cl ty) (ht : t.eval args s none [] s = some (.ref a)) (h : (Jvm.Cond.eq (.elem t (.int i)) (.int c)).value args s none s [] = some true) (j : Nat) (hj : i.toInt = (j : Int)) : own_at cl j = c := by
  have e := (elem_in (own_eqI h) ht (Term.int_eval i) A.1).2
  rw [(own_nat hj).2] at e
  unfold own_at; rw [e]
theorem own_str {s : State} {a : Addr} {args : Array Value} {t : Jvm.Term} {k : Int32} {n : Nat} (hf : Fit s) (ht : t.eval args s none [] s = some (.ref a)) (h1 : (Jvm.Cond.arrayOf t .byte).value args s none s [] = some true) (h2 : (Jvm.Cond.eq (.length t) (.int k)).value args s none s [] = some true) (hk : k.toInt = (n : Int)) :
    ∃ cl, Arr s s.heap a cl .byte ∧ own_AB s s.heap a n (own_at cl) := by
  obtain ⟨cl, A⟩ := Arr.start ht h1
  have e := own_eqI h2
  have hA : s.arrayAt? a = some cl := Arr.fin (Vm.Alike.refl _) A
  have hs : cl.slots.size < 2 ^ 31 ∧ cl.slots.size.toInt32 = k := by
    simp only [Term.eval, ht, hA, Option.bind_eq_bind, Option.bind_some] at e
    split at e
    · rename_i hlt; exact ⟨hlt, by simpa using e⟩
    · cases e
  have hn : cl.slots.size = n := by
    have := len_toInt hs.1; rw [hs.2, hk] at this; omega
  refine ⟨cl, A, by rw [← hn]; exact hs.1, cl, A, hn, fun j hj => ?_⟩
  have e1 : (Nat.toInt32 j).toNatClampNeg = j := by simp only [Int32.toNatClampNeg, len_toInt (show j < 2 ^ 31 by omega)]; rfl
  obtain ⟨v, q1, q2⟩ := elem_fit (j := Nat.toInt32 j) hf A (idx_in (by omega) hs.1)
  obtain ⟨x, rfl⟩ := fit_I q2 (by simp)
  rw [e1] at q1
  simp only [own_at, q1]

theorem own_d1_0 : decode method_2_code 0 = .ok (.iload_n 0, 1) := by decide +kernel
theorem own_d1_1 : decode method_2_code 1 = .ok (.ifCond .ne 10, 3) := by decide +kernel
theorem own_d1_4 : decode method_2_code 4 = .ok (.getstatic 7, 3) := by decide +kernel
theorem own_d1_7 : decode method_2_code 7 = .ok (.astore_n 1, 1) := by decide +kernel
theorem own_d1_8 : decode method_2_code 8 = .ok (.goto 55, 3) := by decide +kernel
theorem own_d1_11 : decode method_2_code 11 = .ok (.iload_n 0, 1) := by decide +kernel
theorem own_d1_12 : decode method_2_code 12 = .ok (.iconst 1, 1) := by decide +kernel
theorem own_d1_13 : decode method_2_code 13 = .ok (.if_icmp .ne 10, 3) := by decide +kernel
theorem own_d1_16 : decode method_2_code 16 = .ok (.getstatic 13, 3) := by decide +kernel
theorem own_d1_19 : decode method_2_code 19 = .ok (.astore_n 1, 1) := by decide +kernel
theorem own_d1_20 : decode method_2_code 20 = .ok (.goto 43, 3) := by decide +kernel
theorem own_d1_23 : decode method_2_code 23 = .ok (.iload_n 0, 1) := by decide +kernel
theorem own_d1_24 : decode method_2_code 24 = .ok (.iconst 2, 1) := by decide +kernel
theorem own_d1_25 : decode method_2_code 25 = .ok (.if_icmp .ne 10, 3) := by decide +kernel
theorem own_d1_28 : decode method_2_code 28 = .ok (.getstatic 16, 3) := by decide +kernel
theorem own_d1_31 : decode method_2_code 31 = .ok (.astore_n 1, 1) := by decide +kernel
theorem own_d1_32 : decode method_2_code 32 = .ok (.goto 31, 3) := by decide +kernel
theorem own_d1_35 : decode method_2_code 35 = .ok (.iload_n 0, 1) := by decide +kernel
theorem own_d1_36 : decode method_2_code 36 = .ok (.iconst 3, 1) := by decide +kernel
theorem own_d1_37 : decode method_2_code 37 = .ok (.if_icmp .ne 10, 3) := by decide +kernel
theorem own_d1_40 : decode method_2_code 40 = .ok (.getstatic 19, 3) := by decide +kernel
theorem own_d1_43 : decode method_2_code 43 = .ok (.astore_n 1, 1) := by decide +kernel
theorem own_d1_44 : decode method_2_code 44 = .ok (.goto 19, 3) := by decide +kernel
theorem own_d1_47 : decode method_2_code 47 = .ok (.iload_n 0, 1) := by decide +kernel
theorem own_d1_48 : decode method_2_code 48 = .ok (.iconst 4, 1) := by decide +kernel
theorem own_d1_49 : decode method_2_code 49 = .ok (.if_icmp .ne 10, 3) := by decide +kernel
theorem own_d1_52 : decode method_2_code 52 = .ok (.getstatic 22, 3) := by decide +kernel
theorem own_d1_55 : decode method_2_code 55 = .ok (.astore_n 1, 1) := by decide +kernel
theorem own_d1_56 : decode method_2_code 56 = .ok (.goto 7, 3) := by decide +kernel
theorem own_d1_59 : decode method_2_code 59 = .ok (.getstatic 25, 3) := by decide +kernel
theorem own_d1_62 : decode method_2_code 62 = .ok (.astore_n 1, 1) := by decide +kernel
theorem own_d1_63 : decode method_2_code 63 = .ok (.aload_n 1, 1) := by decide +kernel
theorem own_d1_64 : decode method_2_code 64 = .ok (.areturn, 1) := by decide +kernel
theorem own_d2_0 : decode prog_40_method_8_code 0 = .ok (.aload_n 0, 1) := by decide +kernel
theorem own_d2_1 : decode prog_40_method_8_code 1 = .ok (.getfield 41, 3) := by decide +kernel
theorem own_d2_4 : decode prog_40_method_8_code 4 = .ok (.areturn, 1) := by decide +kernel
theorem own_d3_0 : decode jdk_42_method_54_code 0 = .ok (.aload_n 0, 1) := by decide +kernel
theorem own_d3_1 : decode jdk_42_method_54_code 1 = .ok (.getfield 9, 3) := by decide +kernel
theorem own_d3_4 : decode jdk_42_method_54_code 4 = .ok (.arraylength, 1) := by decide +kernel
theorem own_d3_5 : decode jdk_42_method_54_code 5 = .ok (.aload_n 0, 1) := by decide +kernel
theorem own_d3_6 : decode jdk_42_method_54_code 6 = .ok (.invokevirtual 335, 3) := by decide +kernel
theorem own_d3_9 : decode jdk_42_method_54_code 9 = .ok (.ishr, 1) := by decide +kernel
theorem own_d3_10 : decode jdk_42_method_54_code 10 = .ok (.ireturn, 1) := by decide +kernel
theorem own_d4_0 : decode jdk_42_method_152_code 0 = .ok (.getstatic 38, 3) := by decide +kernel
theorem own_d4_3 : decode jdk_42_method_152_code 3 = .ok (.ifCond .eq 10, 3) := by decide +kernel
theorem own_d4_6 : decode jdk_42_method_152_code 6 = .ok (.aload_n 0, 1) := by decide +kernel
theorem own_d4_7 : decode jdk_42_method_152_code 7 = .ok (.getfield 15, 3) := by decide +kernel
theorem own_d4_10 : decode jdk_42_method_152_code 10 = .ok (.goto 4, 3) := by decide +kernel
theorem own_d4_14 : decode jdk_42_method_152_code 14 = .ok (.ireturn, 1) := by decide +kernel
theorem own_d5_0 : decode jdk_42_method_56_code 0 = .ok (.aload_n 0, 1) := by decide +kernel
theorem own_d5_1 : decode jdk_42_method_56_code 1 = .ok (.invokevirtual 492, 3) := by decide +kernel
theorem own_d5_4 : decode jdk_42_method_56_code 4 = .ok (.ifCond .eq 12, 3) := by decide +kernel
theorem own_d5_7 : decode jdk_42_method_56_code 7 = .ok (.aload_n 0, 1) := by decide +kernel
theorem own_d5_8 : decode jdk_42_method_56_code 8 = .ok (.getfield 9, 3) := by decide +kernel
theorem own_d5_11 : decode jdk_42_method_56_code 11 = .ok (.iload_n 1, 1) := by decide +kernel
theorem own_d5_12 : decode jdk_42_method_56_code 12 = .ok (.invokestatic 495, 3) := by decide +kernel
theorem own_d5_15 : decode jdk_42_method_56_code 15 = .ok (.ireturn, 1) := by decide +kernel
theorem own_d6_0 : decode jdk_42_method_154_code 0 = .ok (.getstatic 38, 3) := by decide +kernel
theorem own_d6_3 : decode jdk_42_method_154_code 3 = .ok (.ifCond .eq 14, 3) := by decide +kernel
theorem own_d6_6 : decode jdk_42_method_154_code 6 = .ok (.aload_n 0, 1) := by decide +kernel
theorem own_d6_7 : decode jdk_42_method_154_code 7 = .ok (.getfield 15, 3) := by decide +kernel
theorem own_d6_10 : decode jdk_42_method_154_code 10 = .ok (.ifCond .ne 7, 3) := by decide +kernel
theorem own_d6_13 : decode jdk_42_method_154_code 13 = .ok (.iconst 1, 1) := by decide +kernel
theorem own_d6_14 : decode jdk_42_method_154_code 14 = .ok (.goto 4, 3) := by decide +kernel
theorem own_d6_18 : decode jdk_42_method_154_code 18 = .ok (.ireturn, 1) := by decide +kernel
theorem own_d7_0 : decode jdk_43_method_2_code 0 = .ok (.iload_n 1, 1) := by decide +kernel
theorem own_d7_1 : decode jdk_43_method_2_code 1 = .ok (.aload_n 0, 1) := by decide +kernel
theorem own_d7_2 : decode jdk_43_method_2_code 2 = .ok (.arraylength, 1) := by decide +kernel
theorem own_d7_3 : decode jdk_43_method_2_code 3 = .ok (.invokestatic 9, 3) := by decide +kernel
theorem own_d7_6 : decode jdk_43_method_2_code 6 = .ok (.aload_n 0, 1) := by decide +kernel
theorem own_d7_7 : decode jdk_43_method_2_code 7 = .ok (.iload_n 1, 1) := by decide +kernel
theorem own_d7_8 : decode jdk_43_method_2_code 8 = .ok (.baload, 1) := by decide +kernel
theorem own_d7_9 : decode jdk_43_method_2_code 9 = .ok (.sipush 255, 3) := by decide +kernel
theorem own_d7_12 : decode jdk_43_method_2_code 12 = .ok (.iand, 1) := by decide +kernel
theorem own_d7_13 : decode jdk_43_method_2_code 13 = .ok (.i2c, 1) := by decide +kernel
theorem own_d7_14 : decode jdk_43_method_2_code 14 = .ok (.ireturn, 1) := by decide +kernel
theorem own_d8_0 : decode jdk_42_method_155_code 0 = .ok (.iload_n 0, 1) := by decide +kernel
theorem own_d8_1 : decode jdk_42_method_155_code 1 = .ok (.iload_n 1, 1) := by decide +kernel
theorem own_d8_2 : decode jdk_42_method_155_code 2 = .ok (.getstatic 1053, 3) := by decide +kernel
theorem own_d8_5 : decode jdk_42_method_155_code 5 = .ok (.invokestatic 1059, 3) := by decide +kernel
theorem own_d8_8 : decode jdk_42_method_155_code 8 = .ok (.pop, 1) := by decide +kernel
theorem own_d8_9 : decode jdk_42_method_155_code 9 = .ok (.return_, 1) := by decide +kernel
theorem own_d9_0 : decode jdk_41_method_11_code 0 = .ok (.iload_n 0, 1) := by decide +kernel
theorem own_d9_1 : decode jdk_41_method_11_code 1 = .ok (.ifCond .lt 8, 3) := by decide +kernel
theorem own_d9_4 : decode jdk_41_method_11_code 4 = .ok (.iload_n 0, 1) := by decide +kernel
theorem own_d9_5 : decode jdk_41_method_11_code 5 = .ok (.iload_n 1, 1) := by decide +kernel
theorem own_d9_6 : decode jdk_41_method_11_code 6 = .ok (.if_icmp .lt 10, 3) := by decide +kernel
theorem own_d9_16 : decode jdk_41_method_11_code 16 = .ok (.iload_n 0, 1) := by decide +kernel
theorem own_d9_17 : decode jdk_41_method_11_code 17 = .ok (.ireturn, 1) := by decide +kernel
theorem own_d10_0 : decode prog_40_method_6_code 0 = .ok (.aload_n 0, 1) := by decide +kernel
theorem own_d10_1 : decode prog_40_method_6_code 1 = .ok (.getstatic 16, 3) := by decide +kernel
theorem own_d10_4 : decode prog_40_method_6_code 4 = .ok (.if_acmp .eq 10, 3) := by decide +kernel
theorem own_d10_7 : decode prog_40_method_6_code 7 = .ok (.aload_n 0, 1) := by decide +kernel
theorem own_d10_8 : decode prog_40_method_6_code 8 = .ok (.getstatic 19, 3) := by decide +kernel
theorem own_d10_11 : decode prog_40_method_6_code 11 = .ok (.if_acmp .ne 7, 3) := by decide +kernel
theorem own_d10_14 : decode prog_40_method_6_code 14 = .ok (.iconst 1, 1) := by decide +kernel
theorem own_d10_15 : decode prog_40_method_6_code 15 = .ok (.goto 4, 3) := by decide +kernel
theorem own_d10_18 : decode prog_40_method_6_code 18 = .ok (.iconst 0, 1) := by decide +kernel
theorem own_d10_19 : decode prog_40_method_6_code 19 = .ok (.ireturn, 1) := by decide +kernel
theorem own_d11_0 : decode prog_40_method_5_code 0 = .ok (.aload_n 0, 1) := by decide +kernel
theorem own_d11_1 : decode prog_40_method_5_code 1 = .ok (.getstatic 10, 3) := by decide +kernel
theorem own_d11_4 : decode prog_40_method_5_code 4 = .ok (.if_acmp .eq 24, 3) := by decide +kernel
theorem own_d11_7 : decode prog_40_method_5_code 7 = .ok (.aload_n 0, 1) := by decide +kernel
theorem own_d11_8 : decode prog_40_method_5_code 8 = .ok (.getstatic 13, 3) := by decide +kernel
theorem own_d11_11 : decode prog_40_method_5_code 11 = .ok (.if_acmp .eq 17, 3) := by decide +kernel
theorem own_d11_14 : decode prog_40_method_5_code 14 = .ok (.aload_n 0, 1) := by decide +kernel
theorem own_d11_15 : decode prog_40_method_5_code 15 = .ok (.getstatic 16, 3) := by decide +kernel
theorem own_d11_18 : decode prog_40_method_5_code 18 = .ok (.if_acmp .eq 10, 3) := by decide +kernel
theorem own_d11_21 : decode prog_40_method_5_code 21 = .ok (.aload_n 0, 1) := by decide +kernel
theorem own_d11_22 : decode prog_40_method_5_code 22 = .ok (.getstatic 19, 3) := by decide +kernel
theorem own_d11_25 : decode prog_40_method_5_code 25 = .ok (.if_acmp .ne 7, 3) := by decide +kernel
theorem own_d11_28 : decode prog_40_method_5_code 28 = .ok (.iconst 1, 1) := by decide +kernel
theorem own_d11_29 : decode prog_40_method_5_code 29 = .ok (.goto 4, 3) := by decide +kernel
theorem own_d11_32 : decode prog_40_method_5_code 32 = .ok (.iconst 0, 1) := by decide +kernel
theorem own_d11_33 : decode prog_40_method_5_code 33 = .ok (.ireturn, 1) := by decide +kernel
theorem own_pn0 : plainName "java/lang/String" = true := by first | (simp [plainName, overriddenIn]; done) | decide +kernel
theorem own_pn1 : plainName "jdk/internal/util/Preconditions" = true := by first | (simp [plainName, overriddenIn]; done) | decide +kernel
theorem own_pn2 : plainName "java/lang/StringLatin1" = true := by first | (simp [plainName, overriddenIn]; done) | decide +kernel
theorem own_pn3 : plainName "com/example/fanoutdb/fanoutdb/cql/OperatorIsLowerPinLaw" = true := by first | (simp [plainName, overriddenIn]; done) | decide +kernel
theorem own_pn4 : plainName "com/example/fanoutdb/fanoutdb/cql/Relation$Operator" = true := by first | (simp [plainName, overriddenIn]; done) | decide +kernel
theorem own_pd0 : parseMethodDescriptor "()B" = some ⟨[], some .byte⟩ := by decide +kernel
theorem own_pd1 : parseMethodDescriptor "(IILjava/util/function/BiFunction;)I" = some ⟨[.int, .int, (.object "java/util/function/BiFunction")], some .int⟩ := by decide +kernel
theorem own_pd2 : parseMethodDescriptor "(II)V" = some ⟨[.int, .int], none⟩ := by decide +kernel
theorem own_pd3 : parseMethodDescriptor "()Z" = some ⟨[], some .boolean⟩ := by decide +kernel
theorem own_pd4 : parseMethodDescriptor "([BI)C" = some ⟨[(.array .byte), .int], some .char⟩ := by decide +kernel
theorem own_pd5 : parseMethodDescriptor "(I)Lcom/example/fanoutdb/fanoutdb/cql/Relation$Operator;" = some ⟨[.int], some (.object "com/example/fanoutdb/fanoutdb/cql/Relation$Operator")⟩ := by decide +kernel
theorem own_pd6 : parseMethodDescriptor "()Ljava/lang/String;" = some ⟨[], some (.object "java/lang/String")⟩ := by decide +kernel
theorem own_pd7 : parseMethodDescriptor "()I" = some ⟨[], some .int⟩ := by decide +kernel
theorem own_pd8 : parseMethodDescriptor "(I)C" = some ⟨[.int], some .char⟩ := by decide +kernel
set_option maxRecDepth 65536 in
set_option maxHeartbeats 40000000 in
theorem own_m4 {l : Launch} {Z : State} {a0 : Array Value} (hw : ∀ d ∈ tables_1, d.before a0 Z = true) {n0 : Nat} {ws : List Jvm.Cond} {h : Heap} (a : Addr) (cs : Int32) (Z0 : n0 ≤ h.size) (f0 : Sta Z h "java/lang/String" "COMPACT_STRINGS" "Z" (.int cs)) (f1 : Fld Z h a "java/lang/String" "coder" "B" (.int (0 : Int32))) (hcs : ¬ cs = 0) :
    own_Met l Z n0 (⟨"java/lang/String", "coder", "()B"⟩ : MethodName) jdk_42_method_152_code 1 (some .byte) ({ frames := 0, cells := 0, slots := 0, locals := 0 } : Room) ws #[(.ref a)] h (fun v h' => (v = some (.int (0 : Int32))) ∧ (h = h')) := by
  refine own_met own_pn0 #[.val (.ref a)] (fun m => by first | (simp [entryFrame, mkF, argsToLocals, Value.category]; done) | rfl) ?_
  intro p_ e_ s_ m_ b_ mt_ c_ C
  replace C : own_Ctx p_ s_ m_ mt_ c_ Z "java/lang/String" "coder" jdk_42_method_152_code 1 (some .byte) := C
  refine own_getS C (pc' := 3) (hw _ (List.mem_of_getElem? (i := 28) rfl)) f0 own_d4_0 rfl ?_
  refine own_i0_eq C (pc1 := 13) (pc2 := 6) own_d4_3 rfl rfl (fun c1 => absurd c1 hcs) (fun c1 => ?_)
  refine own_aloadN C (pc' := 7) own_d4_6 rfl rfl rfl ?_
  refine own_getF C (pc' := 10) (hw _ (List.mem_of_getElem? (i := 29) rfl)) f1 own_d4_7 rfl ?_
  refine own_goto C (pc' := 14) own_d4_10 rfl ?_
  exact own_ret C (t := .byte) rfl rfl (Or.inl ⟨rfl, by simp, _, rfl⟩) own_d4_14 (by decide) (by decide) (⟨rfl, rfl⟩)
set_option maxRecDepth 65536 in
set_option maxHeartbeats 40000000 in
theorem own_m3 {l : Launch} {Z : State} {a0 : Array Value} (hw : ∀ d ∈ tables_1, d.before a0 Z = true) {n0 : Nat} {ws : List Jvm.Cond} {h : Heap} (a : Addr) (cs : Int32) (ar : Addr) (n : Nat) (f : Nat → Int32) (r : Int32) (Z0 : n0 ≤ h.size) (f0 : Exa Z h a "java/lang/String") (f1 : Sta Z h "java/lang/String" "COMPACT_STRINGS" "Z" (.int cs)) (f2 : Fld Z h a "java/lang/String" "coder" "B" (.int (0 : Int32))) (f3 : Fld Z h a "java/lang/String" "value" "[B" (.ref ar)) (f4 : own_AB Z h ar n f) (hcs : ¬ cs = 0) (hr : ((Nat.toInt32 n) >>> ((0 : Int32) &&& 31)) = r) :
    own_Met l Z n0 (⟨"java/lang/String", "length", "()I"⟩ : MethodName) jdk_42_method_54_code 1 (some .int) ({ frames := 1, cells := 0, slots := 0, locals := 13 } : Room) ws #[(.ref a)] h (fun v h' => (v = some (.int r)) ∧ (h = h')) := by
  refine own_met own_pn0 #[.val (.ref a)] (fun m => by first | (simp [entryFrame, mkF, argsToLocals, Value.category]; done) | rfl) ?_
  intro p_ e_ s_ m_ b_ mt_ c_ C
  replace C : own_Ctx p_ s_ m_ mt_ c_ Z "java/lang/String" "length" jdk_42_method_54_code 1 (some .int) := C
  refine own_aloadN C (pc' := 1) own_d3_0 rfl rfl rfl ?_
  refine own_getF C (pc' := 4) (hw _ (List.mem_of_getElem? (i := 21) rfl)) f3 own_d3_1 rfl ?_
  refine own_lenB C (pc' := 5) f4 own_d3_4 rfl ?_
  refine own_aloadN C (pc' := 6) own_d3_5 rfl rfl rfl ?_
  refine own_callV C (pc' := 9) (y := (⟨"java/lang/String", "coder", "()B"⟩ : MethodName)) (a := a) (argsL := []) (rest := [(.int (Nat.toInt32 n))]) 1 f0 (hw _ (List.mem_of_getElem? (i := 23) rfl)) (hw _ (List.mem_of_getElem? (i := 24) rfl)) (hw _ (List.mem_of_getElem? (i := 26) rfl)) (hw _ (List.mem_of_getElem? (i := 25) rfl)) (hw _ (List.mem_of_getElem? (i := 27) rfl)) (hw _ (List.mem_of_getElem? (i := 19) rfl)) (by decide) (own_m4 hw a cs Z0 f1 f2 (hcs)) (by decide) (by decide) (lenOf own_pd0 rfl) rfl (Nat.le_of_eq rfl) own_d3_6 rfl rfl (by decide) (by decide) (fun v2 h3 hq4 => ?_)
  obtain ⟨rfl, rfl⟩ := hq4
  show own_Run p_ l e_ _ s_ m_ _ b_ mt_ c_ n0 _ h _ _ (mkF m_ 9 #[.val (.ref a)] [(.int (0 : Int32)), (.int (Nat.toInt32 n))])
  refine own_ishr C (pc' := 10) own_d3_9 rfl ?_
  exact own_ret C (t := .int) rfl rfl (Or.inl ⟨rfl, by simp, _, rfl⟩) own_d3_10 (by decide) (by decide) (⟨by rw [hr], rfl⟩)
set_option maxRecDepth 65536 in
set_option maxHeartbeats 40000000 in
theorem own_m6 {l : Launch} {Z : State} {a0 : Array Value} (hw : ∀ d ∈ tables_1, d.before a0 Z = true) {n0 : Nat} {ws : List Jvm.Cond} {h : Heap} (a : Addr) (cs : Int32) (Z0 : n0 ≤ h.size) (f0 : Sta Z h "java/lang/String" "COMPACT_STRINGS" "Z" (.int cs)) (f1 : Fld Z h a "java/lang/String" "coder" "B" (.int (0 : Int32))) (hcs : ¬ cs = 0) :
    own_Met l Z n0 (⟨"java/lang/String", "isLatin1", "()Z"⟩ : MethodName) jdk_42_method_154_code 1 (some .boolean) ({ frames := 0, cells := 0, slots := 0, locals := 0 } : Room) ws #[(.ref a)] h (fun v h' => (v = some (.int (1 : Int32))) ∧ (h = h')) := by
  refine own_met own_pn0 #[.val (.ref a)] (fun m => by first | (simp [entryFrame, mkF, argsToLocals, Value.category]; done) | rfl) ?_
  intro p_ e_ s_ m_ b_ mt_ c_ C
  replace C : own_Ctx p_ s_ m_ mt_ c_ Z "java/lang/String" "isLatin1" jdk_42_method_154_code 1 (some .boolean) := C
  refine own_getS C (pc' := 3) (hw _ (List.mem_of_getElem? (i := 28) rfl)) f0 own_d6_0 rfl ?_
  refine own_i0_eq C (pc1 := 17) (pc2 := 6) own_d6_3 rfl rfl (fun c5 => absurd c5 hcs) (fun c5 => ?_)
  refine own_aloadN C (pc' := 7) own_d6_6 rfl rfl rfl ?_
  refine own_getF C (pc' := 10) (hw _ (List.mem_of_getElem? (i := 29) rfl)) f1 own_d6_7 rfl ?_
  refine own_i0_ne C (pc1 := 17) (pc2 := 13) own_d6_10 rfl rfl (fun c6 => absurd c6 (by decide)) (fun c6 => ?_)
  refine own_iconst C (pc' := 14) (v := (1 : Int32)) own_d6_13 rfl (by decide) ?_
  refine own_goto C (pc' := 18) own_d6_14 rfl ?_
  exact own_ret C (t := .boolean) rfl rfl (Or.inl ⟨rfl, by simp, _, rfl⟩) own_d6_18 (by decide) (by decide) (⟨rfl, rfl⟩)
set_option maxRecDepth 65536 in
set_option maxHeartbeats 40000000 in
theorem own_m9 {l : Launch} {Z : State} {a0 : Array Value} (hw : ∀ d ∈ tables_1, d.before a0 Z = true) {n0 : Nat} {ws : List Jvm.Cond} {h : Heap} (i : Int32) (n : Int32) (fm : Value) (hfm : fm.isRef = true) (h0 : ¬ i < 0) (h1 : i < n) :
    own_Met l Z n0 (⟨"jdk/internal/util/Preconditions", "checkIndex", "(IILjava/util/function/BiFunction;)I"⟩ : MethodName) jdk_41_method_11_code 3 (some .int) ({ frames := 0, cells := 0, slots := 0, locals := 0 } : Room) ws #[(.int i), (.int n), fm] h (fun v h' => (v = some (.int i)) ∧ (h = h')) := by
  refine own_met own_pn1 #[.val (.int i), .val (.int n), .val fm] (fun m => by rcases Jvm.Free.XT.refc hfm with rfl | ⟨r, rfl⟩ <;> first | (simp [entryFrame, mkF, argsToLocals, Value.category]; done) | rfl) ?_
  intro p_ e_ s_ m_ b_ mt_ c_ C
  replace C : own_Ctx p_ s_ m_ mt_ c_ Z "jdk/internal/util/Preconditions" "checkIndex" jdk_41_method_11_code 3 (some .int) := C
  refine own_iloadN C (pc' := 1) own_d9_0 rfl rfl ?_
  refine own_i0_lt C (pc1 := 9) (pc2 := 4) own_d9_1 rfl rfl (fun c7 => absurd c7 h0) (fun c7 => ?_)
  refine own_iloadN C (pc' := 5) own_d9_4 rfl rfl ?_
  refine own_iloadN C (pc' := 6) own_d9_5 rfl rfl ?_
  refine own_ii_lt C (pc1 := 16) (pc2 := 9) own_d9_6 rfl rfl (fun c8 => ?_) (fun c8 => absurd c8 (not_not_intro h1))
  refine own_iloadN C (pc' := 17) own_d9_16 rfl rfl ?_
  exact own_ret C (t := .int) rfl rfl (Or.inl ⟨rfl, by simp, _, rfl⟩) own_d9_17 (by decide) (by decide) (⟨rfl, rfl⟩)
set_option maxRecDepth 65536 in
set_option maxHeartbeats 40000000 in
theorem own_m8 {l : Launch} {Z : State} {a0 : Array Value} (hw : ∀ d ∈ tables_1, d.before a0 Z = true) {n0 : Nat} {ws : List Jvm.Cond} {h : Heap} (i : Int32) (n : Int32) (fm : Value) (Z0 : n0 ≤ h.size) (f0 : Sta Z h "jdk/internal/util/Preconditions" "SIOOBE_FORMATTER" "Ljava/util/function/BiFunction;" fm) (hfm : fm.isRef = true) (h0 : ¬ i < 0) (h1 : i < n) :
    own_Met l Z n0 (⟨"java/lang/String", "checkIndex", "(II)V"⟩ : MethodName) jdk_42_method_155_code 2 none ({ frames := 1, cells := 0, slots := 0, locals := 14 } : Room) ws #[(.int i), (.int n)] h (fun v h' => (v = none) ∧ (h = h')) := by
  refine own_met own_pn0 #[.val (.int i), .val (.int n)] (fun m => by first | (simp [entryFrame, mkF, argsToLocals, Value.category]; done) | rfl) ?_
  intro p_ e_ s_ m_ b_ mt_ c_ C
  replace C : own_Ctx p_ s_ m_ mt_ c_ Z "java/lang/String" "checkIndex" jdk_42_method_155_code 2 none := C
  refine own_iloadN C (pc' := 1) own_d8_0 rfl rfl ?_
  refine own_iloadN C (pc' := 2) own_d8_1 rfl rfl ?_
  refine own_getS C (pc' := 5) (hw _ (List.mem_of_getElem? (i := 48) rfl)) f0 own_d8_2 rfl ?_
  refine own_callS C (pc' := 8) (y := (⟨"jdk/internal/util/Preconditions", "checkIndex", "(IILjava/util/function/BiFunction;)I"⟩ : MethodName)) (argsL := [(.int i), (.int n), fm]) (rest := []) 0 (hw _ (List.mem_of_getElem? (i := 50) rfl)) (hw _ (List.mem_of_getElem? (i := 51) rfl)) (hw _ (List.mem_of_getElem? (i := 49) rfl)) (hw _ (List.mem_of_getElem? (i := 52) rfl)) (by decide) (own_m9 hw i n fm   (hfm) (h0) (h1)) (by decide) (by decide) (lenOf own_pd1 rfl) rfl (Nat.le_of_eq rfl) own_d8_5 rfl rfl (by decide) (by decide) (fun v9 h10 hq11 => ?_)
  obtain ⟨rfl, rfl⟩ := hq11
  show own_Run p_ l e_ _ s_ m_ _ b_ mt_ c_ n0 _ h _ _ (mkF m_ 8 #[.val (.int i), .val (.int n)] [(.int i)])
  refine own_pop C (pc' := 9) own_d8_8 rfl rfl ?_
  exact own_retV C rfl own_d8_9 (by decide) (by decide) (⟨rfl, rfl⟩)
set_option maxRecDepth 65536 in
set_option maxHeartbeats 40000000 in
theorem own_m7 {l : Launch} {Z : State} {a0 : Array Value} (hw : ∀ d ∈ tables_1, d.before a0 Z = true) {n0 : Nat} {ws : List Jvm.Cond} {h : Heap} (ar : Addr) (n : Nat) (f : Nat → Int32) (i : Int32) (ii : Nat) (fv : Int32) (c : Int32) (fm : Value) (Z0 : n0 ≤ h.size) (f0 : own_AB Z h ar n f) (f1 : Sta Z h "jdk/internal/util/Preconditions" "SIOOBE_FORMATTER" "Ljava/util/function/BiFunction;" fm) (hfm : fm.isRef = true) (hi : i.toInt = (ii : Int)) (hii : ii < n) (h0 : ¬ i < 0) (h1 : i < (Nat.toInt32 n)) (hfv : f ii = fv) (hc : ((fv &&& (255 : Int32)).toUInt32.toUInt16.toUInt32.toInt32) = c) :
    own_Met l Z n0 (⟨"java/lang/StringLatin1", "charAt", "([BI)C"⟩ : MethodName) jdk_43_method_2_code 2 (some .char) ({ frames := 2, cells := 0, slots := 0, locals := 27 } : Room) ws #[(.ref ar), (.int i)] h (fun v h' => (v = some (.int c)) ∧ (h = h')) := by
  refine own_met own_pn2 #[.val (.ref ar), .val (.int i)] (fun m => by first | (simp [entryFrame, mkF, argsToLocals, Value.category]; done) | rfl) ?_
  intro p_ e_ s_ m_ b_ mt_ c_ C
  replace C : own_Ctx p_ s_ m_ mt_ c_ Z "java/lang/StringLatin1" "charAt" jdk_43_method_2_code 2 (some .char) := C
  refine own_iloadN C (pc' := 1) own_d7_0 rfl rfl ?_
  refine own_aloadN C (pc' := 2) own_d7_1 rfl rfl rfl ?_
  refine own_lenB C (pc' := 3) f0 own_d7_2 rfl ?_
  refine own_callS C (pc' := 6) (y := (⟨"java/lang/String", "checkIndex", "(II)V"⟩ : MethodName)) (argsL := [(.int i), (.int (Nat.toInt32 n))]) (rest := []) 0 (hw _ (List.mem_of_getElem? (i := 45) rfl)) (hw _ (List.mem_of_getElem? (i := 46) rfl)) (hw _ (List.mem_of_getElem? (i := 19) rfl)) (hw _ (List.mem_of_getElem? (i := 47) rfl)) (by decide) (own_m8 hw i (Nat.toInt32 n) fm Z0 f1 (hfm) (h0) (h1)) (by decide) (by decide) (lenOf own_pd2 rfl) rfl (Nat.le_of_eq rfl) own_d7_3 rfl rfl (by decide) (by decide) (fun v12 h13 hq14 => ?_)
  obtain ⟨rfl, rfl⟩ := hq14
  show own_Run p_ l e_ _ s_ m_ _ b_ mt_ c_ n0 _ h _ _ (mkF m_ 6 #[.val (.ref ar), .val (.int i)] [])
  refine own_aloadN C (pc' := 7) own_d7_6 rfl rfl rfl ?_
  refine own_iloadN C (pc' := 8) own_d7_7 rfl rfl ?_
  refine own_ldBV C (pc' := 9) f0 (i := ii) (v := fv) hi hii hfv own_d7_8 rfl ?_
  refine own_sipush C (pc' := 12) (v := (255 : Int32)) own_d7_9 rfl (by decide) ?_
  refine own_iand C (pc' := 13) own_d7_12 rfl ?_
  refine own_i2c C (pc' := 14) own_d7_13 rfl ?_
  exact own_ret C (t := .char) rfl (Jvm.Free.XT.narrow_c _) (Or.inl ⟨rfl, by simp, _, rfl⟩) own_d7_14 (by decide) (by decide) (⟨by rw [hc], rfl⟩)
set_option maxRecDepth 65536 in
set_option maxHeartbeats 40000000 in
theorem own_m5 {l : Launch} {Z : State} {a0 : Array Value} (hw : ∀ d ∈ tables_1, d.before a0 Z = true) {n0 : Nat} {ws : List Jvm.Cond} {h : Heap} (a : Addr) (cs : Int32) (ar : Addr) (n : Nat) (f : Nat → Int32) (i : Int32) (ii : Nat) (fv : Int32) (c : Int32) (fm : Value) (Z0 : n0 ≤ h.size) (f0 : Exa Z h a "java/lang/String") (f1 : Sta Z h "java/lang/String" "COMPACT_STRINGS" "Z" (.int cs)) (f2 : Fld Z h a "java/lang/String" "coder" "B" (.int (0 : Int32))) (f3 : Fld Z h a "java/lang/String" "value" "[B" (.ref ar)) (f4 : own_AB Z h ar n f) (f5 : Sta Z h "jdk/internal/util/Preconditions" "SIOOBE_FORMATTER" "Ljava/util/function/BiFunction;" fm) (hcs : ¬ cs = 0) (hfm : fm.isRef = true) (hi : i.toInt = (ii : Int)) (hii : ii < n) (h0 : ¬ i < 0) (h1 : i < (Nat.toInt32 n)) (hfv : f ii = fv) (hc : ((fv &&& (255 : Int32)).toUInt32.toUInt16.toUInt32.toInt32) = c) (hnc : narrow .char (.int c) = .int c) :
    own_Met l Z n0 (⟨"java/lang/String", "charAt", "(I)C"⟩ : MethodName) jdk_42_method_56_code 2 (some .char) ({ frames := 3, cells := 0, slots := 0, locals := 40 } : Room) ws #[(.ref a), (.int i)] h (fun v h' => (v = some (.int c)) ∧ (h = h')) := by
  refine own_met own_pn0 #[.val (.ref a), .val (.int i)] (fun m => by first | (simp [entryFrame, mkF, argsToLocals, Value.category]; done) | rfl) ?_
  intro p_ e_ s_ m_ b_ mt_ c_ C
  replace C : own_Ctx p_ s_ m_ mt_ c_ Z "java/lang/String" "charAt" jdk_42_method_56_code 2 (some .char) := C
  refine own_aloadN C (pc' := 1) own_d5_0 rfl rfl rfl ?_
  refine own_callV C (pc' := 4) (y := (⟨"java/lang/String", "isLatin1", "()Z"⟩ : MethodName)) (a := a) (argsL := []) (rest := []) 0 f0 (hw _ (List.mem_of_getElem? (i := 36) rfl)) (hw _ (List.mem_of_getElem? (i := 37) rfl)) (hw _ (List.mem_of_getElem? (i := 39) rfl)) (hw _ (List.mem_of_getElem? (i := 38) rfl)) (hw _ (List.mem_of_getElem? (i := 40) rfl)) (hw _ (List.mem_of_getElem? (i := 19) rfl)) (by decide) (own_m6 hw a cs Z0 f1 f2 (hcs)) (by decide) (by decide) (lenOf own_pd3 rfl) rfl (Nat.le_of_eq rfl) own_d5_1 rfl rfl (by decide) (by decide) (fun v15 h16 hq17 => ?_)
  obtain ⟨rfl, rfl⟩ := hq17
  show own_Run p_ l e_ _ s_ m_ _ b_ mt_ c_ n0 _ h _ _ (mkF m_ 4 #[.val (.ref a), .val (.int i)] [(.int (1 : Int32))])
  refine own_i0_eq C (pc1 := 16) (pc2 := 7) own_d5_4 rfl rfl (fun c18 => absurd c18 (by decide)) (fun c18 => ?_)
  refine own_aloadN C (pc' := 8) own_d5_7 rfl rfl rfl ?_
  refine own_getF C (pc' := 11) (hw _ (List.mem_of_getElem? (i := 21) rfl)) f3 own_d5_8 rfl ?_
  refine own_iloadN C (pc' := 12) own_d5_11 rfl rfl ?_
  refine own_callS C (pc' := 15) (y := (⟨"java/lang/StringLatin1", "charAt", "([BI)C"⟩ : MethodName)) (argsL := [(.ref ar), (.int i)]) (rest := []) 0 (hw _ (List.mem_of_getElem? (i := 41) rfl)) (hw _ (List.mem_of_getElem? (i := 42) rfl)) (hw _ (List.mem_of_getElem? (i := 43) rfl)) (hw _ (List.mem_of_getElem? (i := 44) rfl)) (by decide) (own_m7 hw ar n f i ii fv c fm Z0 f4 f5 (hfm) (hi) (hii) (h0) (h1) (hfv) (hc)) (by decide) (by decide) (lenOf own_pd4 rfl) rfl (Nat.le_of_eq rfl) own_d5_12 rfl rfl (by decide) (by decide) (fun v19 h20 hq21 => ?_)
  obtain ⟨rfl, rfl⟩ := hq21
  show own_Run p_ l e_ _ s_ m_ _ b_ mt_ c_ n0 _ h _ _ (mkF m_ 15 #[.val (.ref a), .val (.int i)] [(.int c)])
  exact own_ret C (t := .char) rfl hnc (Or.inl ⟨rfl, by simp, _, rfl⟩) own_d5_15 (by decide) (by decide) (⟨rfl, rfl⟩)
set_option maxRecDepth 65536 in
set_option maxHeartbeats 40000000 in
theorem own_pickEQ {l : Launch} {Z : State} {a0 : Array Value} (hw : ∀ d ∈ tables_1, d.before a0 Z = true) {n0 : Nat} {ws : List Jvm.Cond} {h : Heap} (o : Addr) (Z0 : n0 ≤ h.size) (f0 : Sta Z h "com/example/fanoutdb/fanoutdb/cql/Relation$Operator" "EQ" "Lcom/example/fanoutdb/fanoutdb/cql/Relation$Operator;" (.ref o)) :
    own_Met l Z n0 (⟨"com/example/fanoutdb/fanoutdb/cql/OperatorIsLowerPinLaw", "pick", "(I)Lcom/example/fanoutdb/fanoutdb/cql/Relation$Operator;"⟩ : MethodName) method_2_code 2 (some (.object "com/example/fanoutdb/fanoutdb/cql/Relation$Operator")) ({ frames := 0, cells := 0, slots := 0, locals := 0 } : Room) ws #[(.int (0 : Int32))] h (fun v h' => (v = some (.ref o)) ∧ (h = h')) := by
  refine own_met own_pn3 #[.val (.int (0 : Int32)), .unset] (fun m => by first | (simp [entryFrame, mkF, argsToLocals, Value.category]; done) | rfl) ?_
  intro p_ e_ s_ m_ b_ mt_ c_ C
  replace C : own_Ctx p_ s_ m_ mt_ c_ Z "com/example/fanoutdb/fanoutdb/cql/OperatorIsLowerPinLaw" "pick" method_2_code 2 (some (.object "com/example/fanoutdb/fanoutdb/cql/Relation$Operator")) := C
  refine own_iloadN C (pc' := 1) own_d1_0 rfl rfl ?_
  refine own_i0_ne C (pc1 := 11) (pc2 := 4) own_d1_1 rfl rfl (fun c22 => absurd c22 (by decide)) (fun c22 => ?_)
  refine own_getS C (pc' := 7) (hw _ (List.mem_of_getElem? (i := 5) rfl)) f0 own_d1_4 rfl ?_
  refine own_astoreN C (pc' := 8) (Ls' := #[.val (.int (0 : Int32)), .val (.ref o)]) own_d1_7 rfl rfl rfl ?_
  refine own_goto C (pc' := 63) own_d1_8 rfl ?_
  refine own_aloadN C (pc' := 64) own_d1_63 rfl rfl rfl ?_
  exact own_ret C (t := (.object "com/example/fanoutdb/fanoutdb/cql/Relation$Operator")) rfl rfl (Or.inr (Or.inr (Or.inr (Or.inr ⟨rfl, rfl, rfl⟩)))) own_d1_64 (by decide) (by decide) (⟨rfl, rfl⟩)
set_option maxRecDepth 65536 in
set_option maxHeartbeats 40000000 in
theorem own_pickNE {l : Launch} {Z : State} {a0 : Array Value} (hw : ∀ d ∈ tables_1, d.before a0 Z = true) {n0 : Nat} {ws : List Jvm.Cond} {h : Heap} (o : Addr) (Z0 : n0 ≤ h.size) (f0 : Sta Z h "com/example/fanoutdb/fanoutdb/cql/Relation$Operator" "NE" "Lcom/example/fanoutdb/fanoutdb/cql/Relation$Operator;" (.ref o)) :
    own_Met l Z n0 (⟨"com/example/fanoutdb/fanoutdb/cql/OperatorIsLowerPinLaw", "pick", "(I)Lcom/example/fanoutdb/fanoutdb/cql/Relation$Operator;"⟩ : MethodName) method_2_code 2 (some (.object "com/example/fanoutdb/fanoutdb/cql/Relation$Operator")) ({ frames := 0, cells := 0, slots := 0, locals := 0 } : Room) ws #[(.int (1 : Int32))] h (fun v h' => (v = some (.ref o)) ∧ (h = h')) := by
  refine own_met own_pn3 #[.val (.int (1 : Int32)), .unset] (fun m => by first | (simp [entryFrame, mkF, argsToLocals, Value.category]; done) | rfl) ?_
  intro p_ e_ s_ m_ b_ mt_ c_ C
  replace C : own_Ctx p_ s_ m_ mt_ c_ Z "com/example/fanoutdb/fanoutdb/cql/OperatorIsLowerPinLaw" "pick" method_2_code 2 (some (.object "com/example/fanoutdb/fanoutdb/cql/Relation$Operator")) := C
  refine own_iloadN C (pc' := 1) own_d1_0 rfl rfl ?_
  refine own_i0_ne C (pc1 := 11) (pc2 := 4) own_d1_1 rfl rfl (fun c23 => ?_) (fun c23 => absurd c23 (by decide))
  refine own_iloadN C (pc' := 12) own_d1_11 rfl rfl ?_
  refine own_iconst C (pc' := 13) (v := (1 : Int32)) own_d1_12 rfl (by decide) ?_
  refine own_ii_ne C (pc1 := 23) (pc2 := 16) own_d1_13 rfl rfl (fun c24 => absurd c24 (by decide)) (fun c24 => ?_)
  refine own_getS C (pc' := 19) (hw _ (List.mem_of_getElem? (i := 66) rfl)) f0 own_d1_16 rfl ?_
  refine own_astoreN C (pc' := 20) (Ls' := #[.val (.int (1 : Int32)), .val (.ref o)]) own_d1_19 rfl rfl rfl ?_
  refine own_goto C (pc' := 63) own_d1_20 rfl ?_
  refine own_aloadN C (pc' := 64) own_d1_63 rfl rfl rfl ?_
  exact own_ret C (t := (.object "com/example/fanoutdb/fanoutdb/cql/Relation$Operator")) rfl rfl (Or.inr (Or.inr (Or.inr (Or.inr ⟨rfl, rfl, rfl⟩)))) own_d1_64 (by decide) (by decide) (⟨rfl, rfl⟩)
set_option maxRecDepth 65536 in
set_option maxHeartbeats 40000000 in
theorem own_pickLT {l : Launch} {Z : State} {a0 : Array Value} (hw : ∀ d ∈ tables_1, d.before a0 Z = true) {n0 : Nat} {ws : List Jvm.Cond} {h : Heap} (o : Addr) (Z0 : n0 ≤ h.size) (f0 : Sta Z h "com/example/fanoutdb/fanoutdb/cql/Relation$Operator" "LT" "Lcom/example/fanoutdb/fanoutdb/cql/Relation$Operator;" (.ref o)) :
    own_Met l Z n0 (⟨"com/example/fanoutdb/fanoutdb/cql/OperatorIsLowerPinLaw", "pick", "(I)Lcom/example/fanoutdb/fanoutdb/cql/Relation$Operator;"⟩ : MethodName) method_2_code 2 (some (.object "com/example/fanoutdb/fanoutdb/cql/Relation$Operator")) ({ frames := 0, cells := 0, slots := 0, locals := 0 } : Room) ws #[(.int (2 : Int32))] h (fun v h' => (v = some (.ref o)) ∧ (h = h')) := by
  refine own_met own_pn3 #[.val (.int (2 : Int32)), .unset] (fun m => by first | (simp [entryFrame, mkF, argsToLocals, Value.category]; done) | rfl) ?_
  intro p_ e_ s_ m_ b_ mt_ c_ C
  replace C : own_Ctx p_ s_ m_ mt_ c_ Z "com/example/fanoutdb/fanoutdb/cql/OperatorIsLowerPinLaw" "pick" method_2_code 2 (some (.object "com/example/fanoutdb/fanoutdb/cql/Relation$Operator")) := C
  refine own_iloadN C (pc' := 1) own_d1_0 rfl rfl ?_
  refine own_i0_ne C (pc1 := 11) (pc2 := 4) own_d1_1 rfl rfl (fun c25 => ?_) (fun c25 => absurd c25 (by decide))
  refine own_iloadN C (pc' := 12) own_d1_11 rfl rfl ?_
  refine own_iconst C (pc' := 13) (v := (1 : Int32)) own_d1_12 rfl (by decide) ?_
  refine own_ii_ne C (pc1 := 23) (pc2 := 16) own_d1_13 rfl rfl (fun c26 => ?_) (fun c26 => absurd c26 (by decide))
  refine own_iloadN C (pc' := 24) own_d1_23 rfl rfl ?_
  refine own_iconst C (pc' := 25) (v := (2 : Int32)) own_d1_24 rfl (by decide) ?_
  refine own_ii_ne C (pc1 := 35) (pc2 := 28) own_d1_25 rfl rfl (fun c27 => absurd c27 (by decide)) (fun c27 => ?_)
  refine own_getS C (pc' := 31) (hw _ (List.mem_of_getElem? (i := 64) rfl)) f0 own_d1_28 rfl ?_
  refine own_astoreN C (pc' := 32) (Ls' := #[.val (.int (2 : Int32)), .val (.ref o)]) own_d1_31 rfl rfl rfl ?_
  refine own_goto C (pc' := 63) own_d1_32 rfl ?_
  refine own_aloadN C (pc' := 64) own_d1_63 rfl rfl rfl ?_
  exact own_ret C (t := (.object "com/example/fanoutdb/fanoutdb/cql/Relation$Operator")) rfl rfl (Or.inr (Or.inr (Or.inr (Or.inr ⟨rfl, rfl, rfl⟩)))) own_d1_64 (by decide) (by decide) (⟨rfl, rfl⟩)
set_option maxRecDepth 65536 in
set_option maxHeartbeats 40000000 in
theorem own_pickLE {l : Launch} {Z : State} {a0 : Array Value} (hw : ∀ d ∈ tables_1, d.before a0 Z = true) {n0 : Nat} {ws : List Jvm.Cond} {h : Heap} (o : Addr) (Z0 : n0 ≤ h.size) (f0 : Sta Z h "com/example/fanoutdb/fanoutdb/cql/Relation$Operator" "LE" "Lcom/example/fanoutdb/fanoutdb/cql/Relation$Operator;" (.ref o)) :
    own_Met l Z n0 (⟨"com/example/fanoutdb/fanoutdb/cql/OperatorIsLowerPinLaw", "pick", "(I)Lcom/example/fanoutdb/fanoutdb/cql/Relation$Operator;"⟩ : MethodName) method_2_code 2 (some (.object "com/example/fanoutdb/fanoutdb/cql/Relation$Operator")) ({ frames := 0, cells := 0, slots := 0, locals := 0 } : Room) ws #[(.int (3 : Int32))] h (fun v h' => (v = some (.ref o)) ∧ (h = h')) := by
  refine own_met own_pn3 #[.val (.int (3 : Int32)), .unset] (fun m => by first | (simp [entryFrame, mkF, argsToLocals, Value.category]; done) | rfl) ?_
  intro p_ e_ s_ m_ b_ mt_ c_ C
  replace C : own_Ctx p_ s_ m_ mt_ c_ Z "com/example/fanoutdb/fanoutdb/cql/OperatorIsLowerPinLaw" "pick" method_2_code 2 (some (.object "com/example/fanoutdb/fanoutdb/cql/Relation$Operator")) := C
  refine own_iloadN C (pc' := 1) own_d1_0 rfl rfl ?_
  refine own_i0_ne C (pc1 := 11) (pc2 := 4) own_d1_1 rfl rfl (fun c28 => ?_) (fun c28 => absurd c28 (by decide))
  refine own_iloadN C (pc' := 12) own_d1_11 rfl rfl ?_
  refine own_iconst C (pc' := 13) (v := (1 : Int32)) own_d1_12 rfl (by decide) ?_
  refine own_ii_ne C (pc1 := 23) (pc2 := 16) own_d1_13 rfl rfl (fun c29 => ?_) (fun c29 => absurd c29 (by decide))
  refine own_iloadN C (pc' := 24) own_d1_23 rfl rfl ?_
  refine own_iconst C (pc' := 25) (v := (2 : Int32)) own_d1_24 rfl (by decide) ?_
  refine own_ii_ne C (pc1 := 35) (pc2 := 28) own_d1_25 rfl rfl (fun c30 => ?_) (fun c30 => absurd c30 (by decide))
  refine own_iloadN C (pc' := 36) own_d1_35 rfl rfl ?_
  refine own_iconst C (pc' := 37) (v := (3 : Int32)) own_d1_36 rfl (by decide) ?_
  refine own_ii_ne C (pc1 := 47) (pc2 := 40) own_d1_37 rfl rfl (fun c31 => absurd c31 (by decide)) (fun c31 => ?_)
  refine own_getS C (pc' := 43) (hw _ (List.mem_of_getElem? (i := 62) rfl)) f0 own_d1_40 rfl ?_
  refine own_astoreN C (pc' := 44) (Ls' := #[.val (.int (3 : Int32)), .val (.ref o)]) own_d1_43 rfl rfl rfl ?_
  refine own_goto C (pc' := 63) own_d1_44 rfl ?_
  refine own_aloadN C (pc' := 64) own_d1_63 rfl rfl rfl ?_
  exact own_ret C (t := (.object "com/example/fanoutdb/fanoutdb/cql/Relation$Operator")) rfl rfl (Or.inr (Or.inr (Or.inr (Or.inr ⟨rfl, rfl, rfl⟩)))) own_d1_64 (by decide) (by decide) (⟨rfl, rfl⟩)
set_option maxRecDepth 65536 in
set_option maxHeartbeats 40000000 in
theorem own_pickGT {l : Launch} {Z : State} {a0 : Array Value} (hw : ∀ d ∈ tables_1, d.before a0 Z = true) {n0 : Nat} {ws : List Jvm.Cond} {h : Heap} (o : Addr) (Z0 : n0 ≤ h.size) (f0 : Sta Z h "com/example/fanoutdb/fanoutdb/cql/Relation$Operator" "GT" "Lcom/example/fanoutdb/fanoutdb/cql/Relation$Operator;" (.ref o)) :
    own_Met l Z n0 (⟨"com/example/fanoutdb/fanoutdb/cql/OperatorIsLowerPinLaw", "pick", "(I)Lcom/example/fanoutdb/fanoutdb/cql/Relation$Operator;"⟩ : MethodName) method_2_code 2 (some (.object "com/example/fanoutdb/fanoutdb/cql/Relation$Operator")) ({ frames := 0, cells := 0, slots := 0, locals := 0 } : Room) ws #[(.int (4 : Int32))] h (fun v h' => (v = some (.ref o)) ∧ (h = h')) := by
  refine own_met own_pn3 #[.val (.int (4 : Int32)), .unset] (fun m => by first | (simp [entryFrame, mkF, argsToLocals, Value.category]; done) | rfl) ?_
  intro p_ e_ s_ m_ b_ mt_ c_ C
  replace C : own_Ctx p_ s_ m_ mt_ c_ Z "com/example/fanoutdb/fanoutdb/cql/OperatorIsLowerPinLaw" "pick" method_2_code 2 (some (.object "com/example/fanoutdb/fanoutdb/cql/Relation$Operator")) := C
  refine own_iloadN C (pc' := 1) own_d1_0 rfl rfl ?_
  refine own_i0_ne C (pc1 := 11) (pc2 := 4) own_d1_1 rfl rfl (fun c32 => ?_) (fun c32 => absurd c32 (by decide))
  refine own_iloadN C (pc' := 12) own_d1_11 rfl rfl ?_
  refine own_iconst C (pc' := 13) (v := (1 : Int32)) own_d1_12 rfl (by decide) ?_
  refine own_ii_ne C (pc1 := 23) (pc2 := 16) own_d1_13 rfl rfl (fun c33 => ?_) (fun c33 => absurd c33 (by decide))
  refine own_iloadN C (pc' := 24) own_d1_23 rfl rfl ?_
  refine own_iconst C (pc' := 25) (v := (2 : Int32)) own_d1_24 rfl (by decide) ?_
  refine own_ii_ne C (pc1 := 35) (pc2 := 28) own_d1_25 rfl rfl (fun c34 => ?_) (fun c34 => absurd c34 (by decide))
  refine own_iloadN C (pc' := 36) own_d1_35 rfl rfl ?_
  refine own_iconst C (pc' := 37) (v := (3 : Int32)) own_d1_36 rfl (by decide) ?_
  refine own_ii_ne C (pc1 := 47) (pc2 := 40) own_d1_37 rfl rfl (fun c35 => ?_) (fun c35 => absurd c35 (by decide))
  refine own_iloadN C (pc' := 48) own_d1_47 rfl rfl ?_
  refine own_iconst C (pc' := 49) (v := (4 : Int32)) own_d1_48 rfl (by decide) ?_
  refine own_ii_ne C (pc1 := 59) (pc2 := 52) own_d1_49 rfl rfl (fun c36 => absurd c36 (by decide)) (fun c36 => ?_)
  refine own_getS C (pc' := 55) (hw _ (List.mem_of_getElem? (i := 76) rfl)) f0 own_d1_52 rfl ?_
  refine own_astoreN C (pc' := 56) (Ls' := #[.val (.int (4 : Int32)), .val (.ref o)]) own_d1_55 rfl rfl rfl ?_
  refine own_goto C (pc' := 63) own_d1_56 rfl ?_
  refine own_aloadN C (pc' := 64) own_d1_63 rfl rfl rfl ?_
  exact own_ret C (t := (.object "com/example/fanoutdb/fanoutdb/cql/Relation$Operator")) rfl rfl (Or.inr (Or.inr (Or.inr (Or.inr ⟨rfl, rfl, rfl⟩)))) own_d1_64 (by decide) (by decide) (⟨rfl, rfl⟩)
set_option maxRecDepth 65536 in
set_option maxHeartbeats 40000000 in
theorem own_pickGE {l : Launch} {Z : State} {a0 : Array Value} (hw : ∀ d ∈ tables_1, d.before a0 Z = true) {n0 : Nat} {ws : List Jvm.Cond} {h : Heap} (o : Addr) (Z0 : n0 ≤ h.size) (f0 : Sta Z h "com/example/fanoutdb/fanoutdb/cql/Relation$Operator" "GE" "Lcom/example/fanoutdb/fanoutdb/cql/Relation$Operator;" (.ref o)) :
    own_Met l Z n0 (⟨"com/example/fanoutdb/fanoutdb/cql/OperatorIsLowerPinLaw", "pick", "(I)Lcom/example/fanoutdb/fanoutdb/cql/Relation$Operator;"⟩ : MethodName) method_2_code 2 (some (.object "com/example/fanoutdb/fanoutdb/cql/Relation$Operator")) ({ frames := 0, cells := 0, slots := 0, locals := 0 } : Room) ws #[(.int (5 : Int32))] h (fun v h' => (v = some (.ref o)) ∧ (h = h')) := by
  refine own_met own_pn3 #[.val (.int (5 : Int32)), .unset] (fun m => by first | (simp [entryFrame, mkF, argsToLocals, Value.category]; done) | rfl) ?_
  intro p_ e_ s_ m_ b_ mt_ c_ C
  replace C : own_Ctx p_ s_ m_ mt_ c_ Z "com/example/fanoutdb/fanoutdb/cql/OperatorIsLowerPinLaw" "pick" method_2_code 2 (some (.object "com/example/fanoutdb/fanoutdb/cql/Relation$Operator")) := C
  refine own_iloadN C (pc' := 1) own_d1_0 rfl rfl ?_
  refine own_i0_ne C (pc1 := 11) (pc2 := 4) own_d1_1 rfl rfl (fun c37 => ?_) (fun c37 => absurd c37 (by decide))
  refine own_iloadN C (pc' := 12) own_d1_11 rfl rfl ?_
  refine own_iconst C (pc' := 13) (v := (1 : Int32)) own_d1_12 rfl (by decide) ?_
  refine own_ii_ne C (pc1 := 23) (pc2 := 16) own_d1_13 rfl rfl (fun c38 => ?_) (fun c38 => absurd c38 (by decide))
  refine own_iloadN C (pc' := 24) own_d1_23 rfl rfl ?_
  refine own_iconst C (pc' := 25) (v := (2 : Int32)) own_d1_24 rfl (by decide) ?_
  refine own_ii_ne C (pc1 := 35) (pc2 := 28) own_d1_25 rfl rfl (fun c39 => ?_) (fun c39 => absurd c39 (by decide))
  refine own_iloadN C (pc' := 36) own_d1_35 rfl rfl ?_
  refine own_iconst C (pc' := 37) (v := (3 : Int32)) own_d1_36 rfl (by decide) ?_
  refine own_ii_ne C (pc1 := 47) (pc2 := 40) own_d1_37 rfl rfl (fun c40 => ?_) (fun c40 => absurd c40 (by decide))
  refine own_iloadN C (pc' := 48) own_d1_47 rfl rfl ?_
  refine own_iconst C (pc' := 49) (v := (4 : Int32)) own_d1_48 rfl (by decide) ?_
  refine own_ii_ne C (pc1 := 59) (pc2 := 52) own_d1_49 rfl rfl (fun c41 => ?_) (fun c41 => absurd c41 (by decide))
  refine own_getS C (pc' := 62) (hw _ (List.mem_of_getElem? (i := 68) rfl)) f0 own_d1_59 rfl ?_
  refine own_astoreN C (pc' := 63) (Ls' := #[.val (.int (5 : Int32)), .val (.ref o)]) own_d1_62 rfl rfl rfl ?_
  refine own_aloadN C (pc' := 64) own_d1_63 rfl rfl rfl ?_
  exact own_ret C (t := (.object "com/example/fanoutdb/fanoutdb/cql/Relation$Operator")) rfl rfl (Or.inr (Or.inr (Or.inr (Or.inr ⟨rfl, rfl, rfl⟩)))) own_d1_64 (by decide) (by decide) (⟨rfl, rfl⟩)
set_option maxRecDepth 65536 in
set_option maxHeartbeats 40000000 in
theorem own_m2 {l : Launch} {Z : State} {a0 : Array Value} (hw : ∀ d ∈ tables_1, d.before a0 Z = true) {n0 : Nat} {ws : List Jvm.Cond} {h : Heap} (a : Addr) (w : Addr) (Z0 : n0 ≤ h.size) (f0 : Fld Z h a "com/example/fanoutdb/fanoutdb/cql/Relation$Operator" "symbol" "Ljava/lang/String;" (.ref w)) :
    own_Met l Z n0 (⟨"com/example/fanoutdb/fanoutdb/cql/Relation$Operator", "toString", "()Ljava/lang/String;"⟩ : MethodName) prog_40_method_8_code 1 (some (.object "java/lang/String")) ({ frames := 0, cells := 0, slots := 0, locals := 0 } : Room) ws #[(.ref a)] h (fun v h' => (v = some (.ref w)) ∧ (h = h')) := by
  refine own_met own_pn4 #[.val (.ref a)] (fun m => by first | (simp [entryFrame, mkF, argsToLocals, Value.category]; done) | rfl) ?_
  intro p_ e_ s_ m_ b_ mt_ c_ C
  replace C : own_Ctx p_ s_ m_ mt_ c_ Z "com/example/fanoutdb/fanoutdb/cql/Relation$Operator" "toString" prog_40_method_8_code 1 (some (.object "java/lang/String")) := C
  refine own_aloadN C (pc' := 1) own_d2_0 rfl rfl rfl ?_
  refine own_getF C (pc' := 4) (hw _ (List.mem_of_getElem? (i := 13) rfl)) f0 own_d2_1 rfl ?_
  exact own_ret C (t := (.object "java/lang/String")) rfl rfl (Or.inr (Or.inr (Or.inr (Or.inr ⟨rfl, rfl, rfl⟩)))) own_d2_4 (by decide) (by decide) (⟨rfl, rfl⟩)
set_option maxRecDepth 65536 in
set_option maxHeartbeats 40000000 in
theorem own_isBoundEQ {l : Launch} {Z : State} {a0 : Array Value} (hw : ∀ d ∈ tables_1, d.before a0 Z = true) {n0 : Nat} {ws : List Jvm.Cond} {h : Heap} (a : Addr) (oLT : Addr) (oLE : Addr) (oGT : Addr) (oGE : Addr) (Z0 : n0 ≤ h.size) (f0 : Sta Z h "com/example/fanoutdb/fanoutdb/cql/Relation$Operator" "LT" "Lcom/example/fanoutdb/fanoutdb/cql/Relation$Operator;" (.ref oLT)) (f1 : Sta Z h "com/example/fanoutdb/fanoutdb/cql/Relation$Operator" "LE" "Lcom/example/fanoutdb/fanoutdb/cql/Relation$Operator;" (.ref oLE)) (f2 : Sta Z h "com/example/fanoutdb/fanoutdb/cql/Relation$Operator" "GT" "Lcom/example/fanoutdb/fanoutdb/cql/Relation$Operator;" (.ref oGT)) (f3 : Sta Z h "com/example/fanoutdb/fanoutdb/cql/Relation$Operator" "GE" "Lcom/example/fanoutdb/fanoutdb/cql/Relation$Operator;" (.ref oGE)) (f4 : a ≠ oLT) (f5 : a ≠ oLE) (f6 : a ≠ oGT) (f7 : a ≠ oGE) :
    own_Met l Z n0 (⟨"com/example/fanoutdb/fanoutdb/cql/Relation$Operator", "isBound", "()Z"⟩ : MethodName) prog_40_method_5_code 1 (some .boolean) ({ frames := 0, cells := 0, slots := 0, locals := 0 } : Room) ws #[(.ref a)] h (fun v h' => (v = some (.int (0 : Int32))) ∧ (h = h')) := by
  refine own_met own_pn4 #[.val (.ref a)] (fun m => by first | (simp [entryFrame, mkF, argsToLocals, Value.category]; done) | rfl) ?_
  intro p_ e_ s_ m_ b_ mt_ c_ C
  replace C : own_Ctx p_ s_ m_ mt_ c_ Z "com/example/fanoutdb/fanoutdb/cql/Relation$Operator" "isBound" prog_40_method_5_code 1 (some .boolean) := C
  refine own_aloadN C (pc' := 1) own_d11_0 rfl rfl rfl ?_
  refine own_getS C (pc' := 4) (hw _ (List.mem_of_getElem? (i := 74) rfl)) f0 own_d11_1 rfl ?_
  refine own_aa_eq C rfl rfl (pc1 := 28) (pc2 := 7) own_d11_4 rfl rfl (fun c42 => absurd c42 (own_refne f4)) (fun c42 => ?_)
  refine own_aloadN C (pc' := 8) own_d11_7 rfl rfl rfl ?_
  refine own_getS C (pc' := 11) (hw _ (List.mem_of_getElem? (i := 75) rfl)) f1 own_d11_8 rfl ?_
  refine own_aa_eq C rfl rfl (pc1 := 28) (pc2 := 14) own_d11_11 rfl rfl (fun c43 => absurd c43 (own_refne f5)) (fun c43 => ?_)
  refine own_aloadN C (pc' := 15) own_d11_14 rfl rfl rfl ?_
  refine own_getS C (pc' := 18) (hw _ (List.mem_of_getElem? (i := 58) rfl)) f2 own_d11_15 rfl ?_
  refine own_aa_eq C rfl rfl (pc1 := 28) (pc2 := 21) own_d11_18 rfl rfl (fun c44 => absurd c44 (own_refne f6)) (fun c44 => ?_)
  refine own_aloadN C (pc' := 22) own_d11_21 rfl rfl rfl ?_
  refine own_getS C (pc' := 25) (hw _ (List.mem_of_getElem? (i := 60) rfl)) f3 own_d11_22 rfl ?_
  refine own_aa_ne C rfl rfl (pc1 := 32) (pc2 := 28) own_d11_25 rfl rfl (fun c45 => ?_) (fun c45 => absurd c45 (own_refne f7))
  refine own_iconst C (pc' := 33) (v := (0 : Int32)) own_d11_32 rfl (by decide) ?_
  exact own_ret C (t := .boolean) rfl rfl (Or.inl ⟨rfl, by simp, _, rfl⟩) own_d11_33 (by decide) (by decide) (⟨rfl, rfl⟩)
set_option maxRecDepth 65536 in
set_option maxHeartbeats 40000000 in
theorem own_isBoundNE {l : Launch} {Z : State} {a0 : Array Value} (hw : ∀ d ∈ tables_1, d.before a0 Z = true) {n0 : Nat} {ws : List Jvm.Cond} {h : Heap} (a : Addr) (oLT : Addr) (oLE : Addr) (oGT : Addr) (oGE : Addr) (Z0 : n0 ≤ h.size) (f0 : Sta Z h "com/example/fanoutdb/fanoutdb/cql/Relation$Operator" "LT" "Lcom/example/fanoutdb/fanoutdb/cql/Relation$Operator;" (.ref oLT)) (f1 : Sta Z h "com/example/fanoutdb/fanoutdb/cql/Relation$Operator" "LE" "Lcom/example/fanoutdb/fanoutdb/cql/Relation$Operator;" (.ref oLE)) (f2 : Sta Z h "com/example/fanoutdb/fanoutdb/cql/Relation$Operator" "GT" "Lcom/example/fanoutdb/fanoutdb/cql/Relation$Operator;" (.ref oGT)) (f3 : Sta Z h "com/example/fanoutdb/fanoutdb/cql/Relation$Operator" "GE" "Lcom/example/fanoutdb/fanoutdb/cql/Relation$Operator;" (.ref oGE)) (f4 : a ≠ oLT) (f5 : a ≠ oLE) (f6 : a ≠ oGT) (f7 : a ≠ oGE) :
    own_Met l Z n0 (⟨"com/example/fanoutdb/fanoutdb/cql/Relation$Operator", "isBound", "()Z"⟩ : MethodName) prog_40_method_5_code 1 (some .boolean) ({ frames := 0, cells := 0, slots := 0, locals := 0 } : Room) ws #[(.ref a)] h (fun v h' => (v = some (.int (0 : Int32))) ∧ (h = h')) := by
  refine own_met own_pn4 #[.val (.ref a)] (fun m => by first | (simp [entryFrame, mkF, argsToLocals, Value.category]; done) | rfl) ?_
  intro p_ e_ s_ m_ b_ mt_ c_ C
  replace C : own_Ctx p_ s_ m_ mt_ c_ Z "com/example/fanoutdb/fanoutdb/cql/Relation$Operator" "isBound" prog_40_method_5_code 1 (some .boolean) := C
  refine own_aloadN C (pc' := 1) own_d11_0 rfl rfl rfl ?_
  refine own_getS C (pc' := 4) (hw _ (List.mem_of_getElem? (i := 74) rfl)) f0 own_d11_1 rfl ?_
  refine own_aa_eq C rfl rfl (pc1 := 28) (pc2 := 7) own_d11_4 rfl rfl (fun c46 => absurd c46 (own_refne f4)) (fun c46 => ?_)
  refine own_aloadN C (pc' := 8) own_d11_7 rfl rfl rfl ?_
  refine own_getS C (pc' := 11) (hw _ (List.mem_of_getElem? (i := 75) rfl)) f1 own_d11_8 rfl ?_
  refine own_aa_eq C rfl rfl (pc1 := 28) (pc2 := 14) own_d11_11 rfl rfl (fun c47 => absurd c47 (own_refne f5)) (fun c47 => ?_)
  refine own_aloadN C (pc' := 15) own_d11_14 rfl rfl rfl ?_
  refine own_getS C (pc' := 18) (hw _ (List.mem_of_getElem? (i := 58) rfl)) f2 own_d11_15 rfl ?_
  refine own_aa_eq C rfl rfl (pc1 := 28) (pc2 := 21) own_d11_18 rfl rfl (fun c48 => absurd c48 (own_refne f6)) (fun c48 => ?_)
  refine own_aloadN C (pc' := 22) own_d11_21 rfl rfl rfl ?_
  refine own_getS C (pc' := 25) (hw _ (List.mem_of_getElem? (i := 60) rfl)) f3 own_d11_22 rfl ?_
  refine own_aa_ne C rfl rfl (pc1 := 32) (pc2 := 28) own_d11_25 rfl rfl (fun c49 => ?_) (fun c49 => absurd c49 (own_refne f7))
  refine own_iconst C (pc' := 33) (v := (0 : Int32)) own_d11_32 rfl (by decide) ?_
  exact own_ret C (t := .boolean) rfl rfl (Or.inl ⟨rfl, by simp, _, rfl⟩) own_d11_33 (by decide) (by decide) (⟨rfl, rfl⟩)
set_option maxRecDepth 65536 in
set_option maxHeartbeats 40000000 in
theorem own_isBoundLT {l : Launch} {Z : State} {a0 : Array Value} (hw : ∀ d ∈ tables_1, d.before a0 Z = true) {n0 : Nat} {ws : List Jvm.Cond} {h : Heap} (a : Addr) (Z0 : n0 ≤ h.size) (f0 : Sta Z h "com/example/fanoutdb/fanoutdb/cql/Relation$Operator" "LT" "Lcom/example/fanoutdb/fanoutdb/cql/Relation$Operator;" (.ref a)) :
    own_Met l Z n0 (⟨"com/example/fanoutdb/fanoutdb/cql/Relation$Operator", "isBound", "()Z"⟩ : MethodName) prog_40_method_5_code 1 (some .boolean) ({ frames := 0, cells := 0, slots := 0, locals := 0 } : Room) ws #[(.ref a)] h (fun v h' => (v = some (.int (1 : Int32))) ∧ (h = h')) := by
  refine own_met own_pn4 #[.val (.ref a)] (fun m => by first | (simp [entryFrame, mkF, argsToLocals, Value.category]; done) | rfl) ?_
  intro p_ e_ s_ m_ b_ mt_ c_ C
  replace C : own_Ctx p_ s_ m_ mt_ c_ Z "com/example/fanoutdb/fanoutdb/cql/Relation$Operator" "isBound" prog_40_method_5_code 1 (some .boolean) := C
  refine own_aloadN C (pc' := 1) own_d11_0 rfl rfl rfl ?_
  refine own_getS C (pc' := 4) (hw _ (List.mem_of_getElem? (i := 74) rfl)) f0 own_d11_1 rfl ?_
  refine own_aa_eq C rfl rfl (pc1 := 28) (pc2 := 7) own_d11_4 rfl rfl (fun c50 => ?_) (fun c50 => absurd c50 (not_not_intro rfl))
  refine own_iconst C (pc' := 29) (v := (1 : Int32)) own_d11_28 rfl (by decide) ?_
  refine own_goto C (pc' := 33) own_d11_29 rfl ?_
  exact own_ret C (t := .boolean) rfl rfl (Or.inl ⟨rfl, by simp, _, rfl⟩) own_d11_33 (by decide) (by decide) (⟨rfl, rfl⟩)
set_option maxRecDepth 65536 in
set_option maxHeartbeats 40000000 in
theorem own_isBoundLE {l : Launch} {Z : State} {a0 : Array Value} (hw : ∀ d ∈ tables_1, d.before a0 Z = true) {n0 : Nat} {ws : List Jvm.Cond} {h : Heap} (a : Addr) (oLT : Addr) (Z0 : n0 ≤ h.size) (f0 : Sta Z h "com/example/fanoutdb/fanoutdb/cql/Relation$Operator" "LT" "Lcom/example/fanoutdb/fanoutdb/cql/Relation$Operator;" (.ref oLT)) (f1 : Sta Z h "com/example/fanoutdb/fanoutdb/cql/Relation$Operator" "LE" "Lcom/example/fanoutdb/fanoutdb/cql/Relation$Operator;" (.ref a)) (f2 : a ≠ oLT) :
    own_Met l Z n0 (⟨"com/example/fanoutdb/fanoutdb/cql/Relation$Operator", "isBound", "()Z"⟩ : MethodName) prog_40_method_5_code 1 (some .boolean) ({ frames := 0, cells := 0, slots := 0, locals := 0 } : Room) ws #[(.ref a)] h (fun v h' => (v = some (.int (1 : Int32))) ∧ (h = h')) := by
  refine own_met own_pn4 #[.val (.ref a)] (fun m => by first | (simp [entryFrame, mkF, argsToLocals, Value.category]; done) | rfl) ?_
  intro p_ e_ s_ m_ b_ mt_ c_ C
  replace C : own_Ctx p_ s_ m_ mt_ c_ Z "com/example/fanoutdb/fanoutdb/cql/Relation$Operator" "isBound" prog_40_method_5_code 1 (some .boolean) := C
  refine own_aloadN C (pc' := 1) own_d11_0 rfl rfl rfl ?_
  refine own_getS C (pc' := 4) (hw _ (List.mem_of_getElem? (i := 74) rfl)) f0 own_d11_1 rfl ?_
  refine own_aa_eq C rfl rfl (pc1 := 28) (pc2 := 7) own_d11_4 rfl rfl (fun c51 => absurd c51 (own_refne f2)) (fun c51 => ?_)
  refine own_aloadN C (pc' := 8) own_d11_7 rfl rfl rfl ?_
  refine own_getS C (pc' := 11) (hw _ (List.mem_of_getElem? (i := 75) rfl)) f1 own_d11_8 rfl ?_
  refine own_aa_eq C rfl rfl (pc1 := 28) (pc2 := 14) own_d11_11 rfl rfl (fun c52 => ?_) (fun c52 => absurd c52 (not_not_intro rfl))
  refine own_iconst C (pc' := 29) (v := (1 : Int32)) own_d11_28 rfl (by decide) ?_
  refine own_goto C (pc' := 33) own_d11_29 rfl ?_
  exact own_ret C (t := .boolean) rfl rfl (Or.inl ⟨rfl, by simp, _, rfl⟩) own_d11_33 (by decide) (by decide) (⟨rfl, rfl⟩)
set_option maxRecDepth 65536 in
set_option maxHeartbeats 40000000 in
theorem own_isBoundGT {l : Launch} {Z : State} {a0 : Array Value} (hw : ∀ d ∈ tables_1, d.before a0 Z = true) {n0 : Nat} {ws : List Jvm.Cond} {h : Heap} (a : Addr) (oLT : Addr) (oLE : Addr) (Z0 : n0 ≤ h.size) (f0 : Sta Z h "com/example/fanoutdb/fanoutdb/cql/Relation$Operator" "LT" "Lcom/example/fanoutdb/fanoutdb/cql/Relation$Operator;" (.ref oLT)) (f1 : Sta Z h "com/example/fanoutdb/fanoutdb/cql/Relation$Operator" "LE" "Lcom/example/fanoutdb/fanoutdb/cql/Relation$Operator;" (.ref oLE)) (f2 : Sta Z h "com/example/fanoutdb/fanoutdb/cql/Relation$Operator" "GT" "Lcom/example/fanoutdb/fanoutdb/cql/Relation$Operator;" (.ref a)) (f3 : a ≠ oLT) (f4 : a ≠ oLE) :
    own_Met l Z n0 (⟨"com/example/fanoutdb/fanoutdb/cql/Relation$Operator", "isBound", "()Z"⟩ : MethodName) prog_40_method_5_code 1 (some .boolean) ({ frames := 0, cells := 0, slots := 0, locals := 0 } : Room) ws #[(.ref a)] h (fun v h' => (v = some (.int (1 : Int32))) ∧ (h = h')) := by
  refine own_met own_pn4 #[.val (.ref a)] (fun m => by first | (simp [entryFrame, mkF, argsToLocals, Value.category]; done) | rfl) ?_
  intro p_ e_ s_ m_ b_ mt_ c_ C
  replace C : own_Ctx p_ s_ m_ mt_ c_ Z "com/example/fanoutdb/fanoutdb/cql/Relation$Operator" "isBound" prog_40_method_5_code 1 (some .boolean) := C
  refine own_aloadN C (pc' := 1) own_d11_0 rfl rfl rfl ?_
  refine own_getS C (pc' := 4) (hw _ (List.mem_of_getElem? (i := 74) rfl)) f0 own_d11_1 rfl ?_
  refine own_aa_eq C rfl rfl (pc1 := 28) (pc2 := 7) own_d11_4 rfl rfl (fun c53 => absurd c53 (own_refne f3)) (fun c53 => ?_)
  refine own_aloadN C (pc' := 8) own_d11_7 rfl rfl rfl ?_
  refine own_getS C (pc' := 11) (hw _ (List.mem_of_getElem? (i := 75) rfl)) f1 own_d11_8 rfl ?_
  refine own_aa_eq C rfl rfl (pc1 := 28) (pc2 := 14) own_d11_11 rfl rfl (fun c54 => absurd c54 (own_refne f4)) (fun c54 => ?_)
  refine own_aloadN C (pc' := 15) own_d11_14 rfl rfl rfl ?_
  refine own_getS C (pc' := 18) (hw _ (List.mem_of_getElem? (i := 58) rfl)) f2 own_d11_15 rfl ?_
  refine own_aa_eq C rfl rfl (pc1 := 28) (pc2 := 21) own_d11_18 rfl rfl (fun c55 => ?_) (fun c55 => absurd c55 (not_not_intro rfl))
  refine own_iconst C (pc' := 29) (v := (1 : Int32)) own_d11_28 rfl (by decide) ?_
  refine own_goto C (pc' := 33) own_d11_29 rfl ?_
  exact own_ret C (t := .boolean) rfl rfl (Or.inl ⟨rfl, by simp, _, rfl⟩) own_d11_33 (by decide) (by decide) (⟨rfl, rfl⟩)
set_option maxRecDepth 65536 in
set_option maxHeartbeats 40000000 in
theorem own_isBoundGE {l : Launch} {Z : State} {a0 : Array Value} (hw : ∀ d ∈ tables_1, d.before a0 Z = true) {n0 : Nat} {ws : List Jvm.Cond} {h : Heap} (a : Addr) (oLT : Addr) (oLE : Addr) (oGT : Addr) (Z0 : n0 ≤ h.size) (f0 : Sta Z h "com/example/fanoutdb/fanoutdb/cql/Relation$Operator" "LT" "Lcom/example/fanoutdb/fanoutdb/cql/Relation$Operator;" (.ref oLT)) (f1 : Sta Z h "com/example/fanoutdb/fanoutdb/cql/Relation$Operator" "LE" "Lcom/example/fanoutdb/fanoutdb/cql/Relation$Operator;" (.ref oLE)) (f2 : Sta Z h "com/example/fanoutdb/fanoutdb/cql/Relation$Operator" "GT" "Lcom/example/fanoutdb/fanoutdb/cql/Relation$Operator;" (.ref oGT)) (f3 : Sta Z h "com/example/fanoutdb/fanoutdb/cql/Relation$Operator" "GE" "Lcom/example/fanoutdb/fanoutdb/cql/Relation$Operator;" (.ref a)) (f4 : a ≠ oLT) (f5 : a ≠ oLE) (f6 : a ≠ oGT) :
    own_Met l Z n0 (⟨"com/example/fanoutdb/fanoutdb/cql/Relation$Operator", "isBound", "()Z"⟩ : MethodName) prog_40_method_5_code 1 (some .boolean) ({ frames := 0, cells := 0, slots := 0, locals := 0 } : Room) ws #[(.ref a)] h (fun v h' => (v = some (.int (1 : Int32))) ∧ (h = h')) := by
  refine own_met own_pn4 #[.val (.ref a)] (fun m => by first | (simp [entryFrame, mkF, argsToLocals, Value.category]; done) | rfl) ?_
  intro p_ e_ s_ m_ b_ mt_ c_ C
  replace C : own_Ctx p_ s_ m_ mt_ c_ Z "com/example/fanoutdb/fanoutdb/cql/Relation$Operator" "isBound" prog_40_method_5_code 1 (some .boolean) := C
  refine own_aloadN C (pc' := 1) own_d11_0 rfl rfl rfl ?_
  refine own_getS C (pc' := 4) (hw _ (List.mem_of_getElem? (i := 74) rfl)) f0 own_d11_1 rfl ?_
  refine own_aa_eq C rfl rfl (pc1 := 28) (pc2 := 7) own_d11_4 rfl rfl (fun c56 => absurd c56 (own_refne f4)) (fun c56 => ?_)
  refine own_aloadN C (pc' := 8) own_d11_7 rfl rfl rfl ?_
  refine own_getS C (pc' := 11) (hw _ (List.mem_of_getElem? (i := 75) rfl)) f1 own_d11_8 rfl ?_
  refine own_aa_eq C rfl rfl (pc1 := 28) (pc2 := 14) own_d11_11 rfl rfl (fun c57 => absurd c57 (own_refne f5)) (fun c57 => ?_)
  refine own_aloadN C (pc' := 15) own_d11_14 rfl rfl rfl ?_
  refine own_getS C (pc' := 18) (hw _ (List.mem_of_getElem? (i := 58) rfl)) f2 own_d11_15 rfl ?_
  refine own_aa_eq C rfl rfl (pc1 := 28) (pc2 := 21) own_d11_18 rfl rfl (fun c58 => absurd c58 (own_refne f6)) (fun c58 => ?_)
  refine own_aloadN C (pc' := 22) own_d11_21 rfl rfl rfl ?_
  refine own_getS C (pc' := 25) (hw _ (List.mem_of_getElem? (i := 60) rfl)) f3 own_d11_22 rfl ?_
  refine own_aa_ne C rfl rfl (pc1 := 32) (pc2 := 28) own_d11_25 rfl rfl (fun c59 => absurd c59 (not_not_intro rfl)) (fun c59 => ?_)
  refine own_iconst C (pc' := 29) (v := (1 : Int32)) own_d11_28 rfl (by decide) ?_
  refine own_goto C (pc' := 33) own_d11_29 rfl ?_
  exact own_ret C (t := .boolean) rfl rfl (Or.inl ⟨rfl, by simp, _, rfl⟩) own_d11_33 (by decide) (by decide) (⟨rfl, rfl⟩)
set_option maxRecDepth 65536 in
set_option maxHeartbeats 40000000 in
theorem own_isLowerEQ {l : Launch} {Z : State} {a0 : Array Value} (hw : ∀ d ∈ tables_1, d.before a0 Z = true) {n0 : Nat} {ws : List Jvm.Cond} {h : Heap} (a : Addr) (oGT : Addr) (oGE : Addr) (Z0 : n0 ≤ h.size) (f0 : Sta Z h "com/example/fanoutdb/fanoutdb/cql/Relation$Operator" "GT" "Lcom/example/fanoutdb/fanoutdb/cql/Relation$Operator;" (.ref oGT)) (f1 : Sta Z h "com/example/fanoutdb/fanoutdb/cql/Relation$Operator" "GE" "Lcom/example/fanoutdb/fanoutdb/cql/Relation$Operator;" (.ref oGE)) (f2 : a ≠ oGT) (f3 : a ≠ oGE) :
    own_Met l Z n0 (⟨"com/example/fanoutdb/fanoutdb/cql/Relation$Operator", "isLower", "()Z"⟩ : MethodName) prog_40_method_6_code 1 (some .boolean) ({ frames := 0, cells := 0, slots := 0, locals := 0 } : Room) ws #[(.ref a)] h (fun v h' => (v = some (.int (0 : Int32))) ∧ (h = h')) := by
  refine own_met own_pn4 #[.val (.ref a)] (fun m => by first | (simp [entryFrame, mkF, argsToLocals, Value.category]; done) | rfl) ?_
  intro p_ e_ s_ m_ b_ mt_ c_ C
  replace C : own_Ctx p_ s_ m_ mt_ c_ Z "com/example/fanoutdb/fanoutdb/cql/Relation$Operator" "isLower" prog_40_method_6_code 1 (some .boolean) := C
  refine own_aloadN C (pc' := 1) own_d10_0 rfl rfl rfl ?_
  refine own_getS C (pc' := 4) (hw _ (List.mem_of_getElem? (i := 58) rfl)) f0 own_d10_1 rfl ?_
  refine own_aa_eq C rfl rfl (pc1 := 14) (pc2 := 7) own_d10_4 rfl rfl (fun c60 => absurd c60 (own_refne f2)) (fun c60 => ?_)
  refine own_aloadN C (pc' := 8) own_d10_7 rfl rfl rfl ?_
  refine own_getS C (pc' := 11) (hw _ (List.mem_of_getElem? (i := 60) rfl)) f1 own_d10_8 rfl ?_
  refine own_aa_ne C rfl rfl (pc1 := 18) (pc2 := 14) own_d10_11 rfl rfl (fun c61 => ?_) (fun c61 => absurd c61 (own_refne f3))
  refine own_iconst C (pc' := 19) (v := (0 : Int32)) own_d10_18 rfl (by decide) ?_
  exact own_ret C (t := .boolean) rfl rfl (Or.inl ⟨rfl, by simp, _, rfl⟩) own_d10_19 (by decide) (by decide) (⟨rfl, rfl⟩)
set_option maxRecDepth 65536 in
set_option maxHeartbeats 40000000 in
theorem own_isLowerNE {l : Launch} {Z : State} {a0 : Array Value} (hw : ∀ d ∈ tables_1, d.before a0 Z = true) {n0 : Nat} {ws : List Jvm.Cond} {h : Heap} (a : Addr) (oGT : Addr) (oGE : Addr) (Z0 : n0 ≤ h.size) (f0 : Sta Z h "com/example/fanoutdb/fanoutdb/cql/Relation$Operator" "GT" "Lcom/example/fanoutdb/fanoutdb/cql/Relation$Operator;" (.ref oGT)) (f1 : Sta Z h "com/example/fanoutdb/fanoutdb/cql/Relation$Operator" "GE" "Lcom/example/fanoutdb/fanoutdb/cql/Relation$Operator;" (.ref oGE)) (f2 : a ≠ oGT) (f3 : a ≠ oGE) :
    own_Met l Z n0 (⟨"com/example/fanoutdb/fanoutdb/cql/Relation$Operator", "isLower", "()Z"⟩ : MethodName) prog_40_method_6_code 1 (some .boolean) ({ frames := 0, cells := 0, slots := 0, locals := 0 } : Room) ws #[(.ref a)] h (fun v h' => (v = some (.int (0 : Int32))) ∧ (h = h')) := by
  refine own_met own_pn4 #[.val (.ref a)] (fun m => by first | (simp [entryFrame, mkF, argsToLocals, Value.category]; done) | rfl) ?_
  intro p_ e_ s_ m_ b_ mt_ c_ C
  replace C : own_Ctx p_ s_ m_ mt_ c_ Z "com/example/fanoutdb/fanoutdb/cql/Relation$Operator" "isLower" prog_40_method_6_code 1 (some .boolean) := C
  refine own_aloadN C (pc' := 1) own_d10_0 rfl rfl rfl ?_
  refine own_getS C (pc' := 4) (hw _ (List.mem_of_getElem? (i := 58) rfl)) f0 own_d10_1 rfl ?_
  refine own_aa_eq C rfl rfl (pc1 := 14) (pc2 := 7) own_d10_4 rfl rfl (fun c62 => absurd c62 (own_refne f2)) (fun c62 => ?_)
  refine own_aloadN C (pc' := 8) own_d10_7 rfl rfl rfl ?_
  refine own_getS C (pc' := 11) (hw _ (List.mem_of_getElem? (i := 60) rfl)) f1 own_d10_8 rfl ?_
  refine own_aa_ne C rfl rfl (pc1 := 18) (pc2 := 14) own_d10_11 rfl rfl (fun c63 => ?_) (fun c63 => absurd c63 (own_refne f3))
  refine own_iconst C (pc' := 19) (v := (0 : Int32)) own_d10_18 rfl (by decide) ?_
  exact own_ret C (t := .boolean) rfl rfl (Or.inl ⟨rfl, by simp, _, rfl⟩) own_d10_19 (by decide) (by decide) (⟨rfl, rfl⟩)
set_option maxRecDepth 65536 in
set_option maxHeartbeats 40000000 in
theorem own_isLowerLT {l : Launch} {Z : State} {a0 : Array Value} (hw : ∀ d ∈ tables_1, d.before a0 Z = true) {n0 : Nat} {ws : List Jvm.Cond} {h : Heap} (a : Addr) (oGT : Addr) (oGE : Addr) (Z0 : n0 ≤ h.size) (f0 : Sta Z h "com/example/fanoutdb/fanoutdb/cql/Relation$Operator" "GT" "Lcom/example/fanoutdb/fanoutdb/cql/Relation$Operator;" (.ref oGT)) (f1 : Sta Z h "com/example/fanoutdb/fanoutdb/cql/Relation$Operator" "GE" "Lcom/example/fanoutdb/fanoutdb/cql/Relation$Operator;" (.ref oGE)) (f2 : a ≠ oGT) (f3 : a ≠ oGE) :
    own_Met l Z n0 (⟨"com/example/fanoutdb/fanoutdb/cql/Relation$Operator", "isLower", "()Z"⟩ : MethodName) prog_40_method_6_code 1 (some .boolean) ({ frames := 0, cells := 0, slots := 0, locals := 0 } : Room) ws #[(.ref a)] h (fun v h' => (v = some (.int (0 : Int32))) ∧ (h = h')) := by
  refine own_met own_pn4 #[.val (.ref a)] (fun m => by first | (simp [entryFrame, mkF, argsToLocals, Value.category]; done) | rfl) ?_
  intro p_ e_ s_ m_ b_ mt_ c_ C
  replace C : own_Ctx p_ s_ m_ mt_ c_ Z "com/example/fanoutdb/fanoutdb/cql/Relation$Operator" "isLower" prog_40_method_6_code 1 (some .boolean) := C
  refine own_aloadN C (pc' := 1) own_d10_0 rfl rfl rfl ?_
  refine own_getS C (pc' := 4) (hw _ (List.mem_of_getElem? (i := 58) rfl)) f0 own_d10_1 rfl ?_
  refine own_aa_eq C rfl rfl (pc1 := 14) (pc2 := 7) own_d10_4 rfl rfl (fun c64 => absurd c64 (own_refne f2)) (fun c64 => ?_)
  refine own_aloadN C (pc' := 8) own_d10_7 rfl rfl rfl ?_
  refine own_getS C (pc' := 11) (hw _ (List.mem_of_getElem? (i := 60) rfl)) f1 own_d10_8 rfl ?_
  refine own_aa_ne C rfl rfl (pc1 := 18) (pc2 := 14) own_d10_11 rfl rfl (fun c65 => ?_) (fun c65 => absurd c65 (own_refne f3))
  refine own_iconst C (pc' := 19) (v := (0 : Int32)) own_d10_18 rfl (by decide) ?_
  exact own_ret C (t := .boolean) rfl rfl (Or.inl ⟨rfl, by simp, _, rfl⟩) own_d10_19 (by decide) (by decide) (⟨rfl, rfl⟩)
set_option maxRecDepth 65536 in
set_option maxHeartbeats 40000000 in
theorem own_isLowerLE {l : Launch} {Z : State} {a0 : Array Value} (hw : ∀ d ∈ tables_1, d.before a0 Z = true) {n0 : Nat} {ws : List Jvm.Cond} {h : Heap} (a : Addr) (oGT : Addr) (oGE : Addr) (Z0 : n0 ≤ h.size) (f0 : Sta Z h "com/example/fanoutdb/fanoutdb/cql/Relation$Operator" "GT" "Lcom/example/fanoutdb/fanoutdb/cql/Relation$Operator;" (.ref oGT)) (f1 : Sta Z h "com/example/fanoutdb/fanoutdb/cql/Relation$Operator" "GE" "Lcom/example/fanoutdb/fanoutdb/cql/Relation$Operator;" (.ref oGE)) (f2 : a ≠ oGT) (f3 : a ≠ oGE) :
    own_Met l Z n0 (⟨"com/example/fanoutdb/fanoutdb/cql/Relation$Operator", "isLower", "()Z"⟩ : MethodName) prog_40_method_6_code 1 (some .boolean) ({ frames := 0, cells := 0, slots := 0, locals := 0 } : Room) ws #[(.ref a)] h (fun v h' => (v = some (.int (0 : Int32))) ∧ (h = h')) := by
  refine own_met own_pn4 #[.val (.ref a)] (fun m => by first | (simp [entryFrame, mkF, argsToLocals, Value.category]; done) | rfl) ?_
  intro p_ e_ s_ m_ b_ mt_ c_ C
  replace C : own_Ctx p_ s_ m_ mt_ c_ Z "com/example/fanoutdb/fanoutdb/cql/Relation$Operator" "isLower" prog_40_method_6_code 1 (some .boolean) := C
  refine own_aloadN C (pc' := 1) own_d10_0 rfl rfl rfl ?_
  refine own_getS C (pc' := 4) (hw _ (List.mem_of_getElem? (i := 58) rfl)) f0 own_d10_1 rfl ?_
  refine own_aa_eq C rfl rfl (pc1 := 14) (pc2 := 7) own_d10_4 rfl rfl (fun c66 => absurd c66 (own_refne f2)) (fun c66 => ?_)
  refine own_aloadN C (pc' := 8) own_d10_7 rfl rfl rfl ?_
  refine own_getS C (pc' := 11) (hw _ (List.mem_of_getElem? (i := 60) rfl)) f1 own_d10_8 rfl ?_
  refine own_aa_ne C rfl rfl (pc1 := 18) (pc2 := 14) own_d10_11 rfl rfl (fun c67 => ?_) (fun c67 => absurd c67 (own_refne f3))
  refine own_iconst C (pc' := 19) (v := (0 : Int32)) own_d10_18 rfl (by decide) ?_
  exact own_ret C (t := .boolean) rfl rfl (Or.inl ⟨rfl, by simp, _, rfl⟩) own_d10_19 (by decide) (by decide) (⟨rfl, rfl⟩)
set_option maxRecDepth 65536 in
set_option maxHeartbeats 40000000 in
theorem own_isLowerGT {l : Launch} {Z : State} {a0 : Array Value} (hw : ∀ d ∈ tables_1, d.before a0 Z = true) {n0 : Nat} {ws : List Jvm.Cond} {h : Heap} (a : Addr) (Z0 : n0 ≤ h.size) (f0 : Sta Z h "com/example/fanoutdb/fanoutdb/cql/Relation$Operator" "GT" "Lcom/example/fanoutdb/fanoutdb/cql/Relation$Operator;" (.ref a)) :
    own_Met l Z n0 (⟨"com/example/fanoutdb/fanoutdb/cql/Relation$Operator", "isLower", "()Z"⟩ : MethodName) prog_40_method_6_code 1 (some .boolean) ({ frames := 0, cells := 0, slots := 0, locals := 0 } : Room) ws #[(.ref a)] h (fun v h' => (v = some (.int (1 : Int32))) ∧ (h = h')) := by
  refine own_met own_pn4 #[.val (.ref a)] (fun m => by first | (simp [entryFrame, mkF, argsToLocals, Value.category]; done) | rfl) ?_
  intro p_ e_ s_ m_ b_ mt_ c_ C
  replace C : own_Ctx p_ s_ m_ mt_ c_ Z "com/example/fanoutdb/fanoutdb/cql/Relation$Operator" "isLower" prog_40_method_6_code 1 (some .boolean) := C
  refine own_aloadN C (pc' := 1) own_d10_0 rfl rfl rfl ?_
  refine own_getS C (pc' := 4) (hw _ (List.mem_of_getElem? (i := 58) rfl)) f0 own_d10_1 rfl ?_
  refine own_aa_eq C rfl rfl (pc1 := 14) (pc2 := 7) own_d10_4 rfl rfl (fun c68 => ?_) (fun c68 => absurd c68 (not_not_intro rfl))
  refine own_iconst C (pc' := 15) (v := (1 : Int32)) own_d10_14 rfl (by decide) ?_
  refine own_goto C (pc' := 19) own_d10_15 rfl ?_
  exact own_ret C (t := .boolean) rfl rfl (Or.inl ⟨rfl, by simp, _, rfl⟩) own_d10_19 (by decide) (by decide) (⟨rfl, rfl⟩)
set_option maxRecDepth 65536 in
set_option maxHeartbeats 40000000 in
theorem own_isLowerGE {l : Launch} {Z : State} {a0 : Array Value} (hw : ∀ d ∈ tables_1, d.before a0 Z = true) {n0 : Nat} {ws : List Jvm.Cond} {h : Heap} (a : Addr) (oGT : Addr) (Z0 : n0 ≤ h.size) (f0 : Sta Z h "com/example/fanoutdb/fanoutdb/cql/Relation$Operator" "GT" "Lcom/example/fanoutdb/fanoutdb/cql/Relation$Operator;" (.ref oGT)) (f1 : Sta Z h "com/example/fanoutdb/fanoutdb/cql/Relation$Operator" "GE" "Lcom/example/fanoutdb/fanoutdb/cql/Relation$Operator;" (.ref a)) (f2 : a ≠ oGT) :
    own_Met l Z n0 (⟨"com/example/fanoutdb/fanoutdb/cql/Relation$Operator", "isLower", "()Z"⟩ : MethodName) prog_40_method_6_code 1 (some .boolean) ({ frames := 0, cells := 0, slots := 0, locals := 0 } : Room) ws #[(.ref a)] h (fun v h' => (v = some (.int (1 : Int32))) ∧ (h = h')) := by
  refine own_met own_pn4 #[.val (.ref a)] (fun m => by first | (simp [entryFrame, mkF, argsToLocals, Value.category]; done) | rfl) ?_
  intro p_ e_ s_ m_ b_ mt_ c_ C
  replace C : own_Ctx p_ s_ m_ mt_ c_ Z "com/example/fanoutdb/fanoutdb/cql/Relation$Operator" "isLower" prog_40_method_6_code 1 (some .boolean) := C
  refine own_aloadN C (pc' := 1) own_d10_0 rfl rfl rfl ?_
  refine own_getS C (pc' := 4) (hw _ (List.mem_of_getElem? (i := 58) rfl)) f0 own_d10_1 rfl ?_
  refine own_aa_eq C rfl rfl (pc1 := 14) (pc2 := 7) own_d10_4 rfl rfl (fun c69 => absurd c69 (own_refne f2)) (fun c69 => ?_)
  refine own_aloadN C (pc' := 8) own_d10_7 rfl rfl rfl ?_
  refine own_getS C (pc' := 11) (hw _ (List.mem_of_getElem? (i := 60) rfl)) f1 own_d10_8 rfl ?_
  refine own_aa_ne C rfl rfl (pc1 := 18) (pc2 := 14) own_d10_11 rfl rfl (fun c70 => absurd c70 (not_not_intro rfl)) (fun c70 => ?_)
  refine own_iconst C (pc' := 15) (v := (1 : Int32)) own_d10_14 rfl (by decide) ?_
  refine own_goto C (pc' := 19) own_d10_15 rfl ?_
  exact own_ret C (t := .boolean) rfl rfl (Or.inl ⟨rfl, by simp, _, rfl⟩) own_d10_19 (by decide) (by decide) (⟨rfl, rfl⟩)
set_option maxRecDepth 65536 in
set_option maxHeartbeats 40000000 in
theorem own_law {l : Launch} {Z : State} {a0 : Array Value} (hw : ∀ d ∈ tables_1, d.before a0 Z = true) {n0 : Nat} {ws : List Jvm.Cond} {h : Heap} (p0 : Int32) (Z0 : n0 ≤ h.size) (cs : Int32) (fm : Value) (oEQ : Addr) (sEQ : Addr) (vEQ : Addr) (fEQ : Nat → Int32) (oNE : Addr) (sNE : Addr) (vNE : Addr) (fNE : Nat → Int32) (oLT : Addr) (sLT : Addr) (vLT : Addr) (fLT : Nat → Int32) (oLE : Addr) (sLE : Addr) (vLE : Addr) (fLE : Nat → Int32) (oGT : Addr) (sGT : Addr) (vGT : Addr) (fGT : Nat → Int32) (oGE : Addr) (sGE : Addr) (vGE : Addr) (fGE : Nat → Int32) (hcs : ¬ cs = 0) (hfm : fm.isRef = true) (eEQ0 : fEQ 0 = (61 : Int32)) (eNE0 : fNE 0 = (33 : Int32)) (eNE1 : fNE 1 = (61 : Int32)) (eLT0 : fLT 0 = (60 : Int32)) (eLE0 : fLE 0 = (60 : Int32)) (eLE1 : fLE 1 = (61 : Int32)) (eGT0 : fGT 0 = (62 : Int32)) (eGE0 : fGE 0 = (62 : Int32)) (eGE1 : fGE 1 = (61 : Int32)) (q0 : Sta Z h "java/lang/String" "COMPACT_STRINGS" "Z" (.int cs)) (q1 : Sta Z h "jdk/internal/util/Preconditions" "SIOOBE_FORMATTER" "Ljava/util/function/BiFunction;" fm) (q2 : Sta Z h "com/example/fanoutdb/fanoutdb/cql/Relation$Operator" "EQ" "Lcom/example/fanoutdb/fanoutdb/cql/Relation$Operator;" (.ref oEQ)) (q3 : Exa Z h oEQ "com/example/fanoutdb/fanoutdb/cql/Relation$Operator") (q4 : Fld Z h oEQ "com/example/fanoutdb/fanoutdb/cql/Relation$Operator" "symbol" "Ljava/lang/String;" (.ref sEQ)) (q5 : Exa Z h sEQ "java/lang/String") (q6 : Fld Z h sEQ "java/lang/String" "value" "[B" (.ref vEQ)) (q7 : Fld Z h sEQ "java/lang/String" "coder" "B" (.int (0 : Int32))) (q8 : own_AB Z h vEQ 1 fEQ) (q9 : Sta Z h "com/example/fanoutdb/fanoutdb/cql/Relation$Operator" "NE" "Lcom/example/fanoutdb/fanoutdb/cql/Relation$Operator;" (.ref oNE)) (q10 : Exa Z h oNE "com/example/fanoutdb/fanoutdb/cql/Relation$Operator") (q11 : Fld Z h oNE "com/example/fanoutdb/fanoutdb/cql/Relation$Operator" "symbol" "Ljava/lang/String;" (.ref sNE)) (q12 : Exa Z h sNE "java/lang/String") (q13 : Fld Z h sNE "java/lang/String" "value" "[B" (.ref vNE)) (q14 : Fld Z h sNE "java/lang/String" "coder" "B" (.int (0 : Int32))) (q15 : own_AB Z h vNE 2 fNE) (q16 : Sta Z h "com/example/fanoutdb/fanoutdb/cql/Relation$Operator" "LT" "Lcom/example/fanoutdb/fanoutdb/cql/Relation$Operator;" (.ref oLT)) (q17 : Exa Z h oLT "com/example/fanoutdb/fanoutdb/cql/Relation$Operator") (q18 : Fld Z h oLT "com/example/fanoutdb/fanoutdb/cql/Relation$Operator" "symbol" "Ljava/lang/String;" (.ref sLT)) (q19 : Exa Z h sLT "java/lang/String") (q20 : Fld Z h sLT "java/lang/String" "value" "[B" (.ref vLT)) (q21 : Fld Z h sLT "java/lang/String" "coder" "B" (.int (0 : Int32))) (q22 : own_AB Z h vLT 1 fLT) (q23 : Sta Z h "com/example/fanoutdb/fanoutdb/cql/Relation$Operator" "LE" "Lcom/example/fanoutdb/fanoutdb/cql/Relation$Operator;" (.ref oLE)) (q24 : Exa Z h oLE "com/example/fanoutdb/fanoutdb/cql/Relation$Operator") (q25 : Fld Z h oLE "com/example/fanoutdb/fanoutdb/cql/Relation$Operator" "symbol" "Ljava/lang/String;" (.ref sLE)) (q26 : Exa Z h sLE "java/lang/String") (q27 : Fld Z h sLE "java/lang/String" "value" "[B" (.ref vLE)) (q28 : Fld Z h sLE "java/lang/String" "coder" "B" (.int (0 : Int32))) (q29 : own_AB Z h vLE 2 fLE) (q30 : Sta Z h "com/example/fanoutdb/fanoutdb/cql/Relation$Operator" "GT" "Lcom/example/fanoutdb/fanoutdb/cql/Relation$Operator;" (.ref oGT)) (q31 : Exa Z h oGT "com/example/fanoutdb/fanoutdb/cql/Relation$Operator") (q32 : Fld Z h oGT "com/example/fanoutdb/fanoutdb/cql/Relation$Operator" "symbol" "Ljava/lang/String;" (.ref sGT)) (q33 : Exa Z h sGT "java/lang/String") (q34 : Fld Z h sGT "java/lang/String" "value" "[B" (.ref vGT)) (q35 : Fld Z h sGT "java/lang/String" "coder" "B" (.int (0 : Int32))) (q36 : own_AB Z h vGT 1 fGT) (q37 : Sta Z h "com/example/fanoutdb/fanoutdb/cql/Relation$Operator" "GE" "Lcom/example/fanoutdb/fanoutdb/cql/Relation$Operator;" (.ref oGE)) (q38 : Exa Z h oGE "com/example/fanoutdb/fanoutdb/cql/Relation$Operator") (q39 : Fld Z h oGE "com/example/fanoutdb/fanoutdb/cql/Relation$Operator" "symbol" "Ljava/lang/String;" (.ref sGE)) (q40 : Exa Z h sGE "java/lang/String") (q41 : Fld Z h sGE "java/lang/String" "value" "[B" (.ref vGE)) (q42 : Fld Z h sGE "java/lang/String" "coder" "B" (.int (0 : Int32))) (q43 : own_AB Z h vGE 2 fGE) (q44 : oEQ ≠ oNE) (q45 : oEQ ≠ oLT) (q46 : oEQ ≠ oLE) (q47 : oEQ ≠ oGT) (q48 : oEQ ≠ oGE) (q49 : oNE ≠ oLT) (q50 : oNE ≠ oLE) (q51 : oNE ≠ oGT) (q52 : oNE ≠ oGE) (q53 : oLT ≠ oLE) (q54 : oLT ≠ oGT) (q55 : oLT ≠ oGE) (q56 : oLE ≠ oGT) (q57 : oLE ≠ oGE) (q58 : oGT ≠ oGE) :
    own_Met l Z n0 x code maxLocals ret room_1 ws #[(.int p0)] h (fun v h' => v = some (.int 1)) := by
  refine own_met own_pn3 #[.val (.int p0), .unset, .unset, .unset, .unset, .unset] (fun m => by first | (simp [entryFrame, mkF, argsToLocals, Value.category, maxLocals]; done) | rfl) ?_
  intro p_ e_ s_ m_ b_ mt_ c_ C
  replace C : own_Ctx p_ s_ m_ mt_ c_ Z "com/example/fanoutdb/fanoutdb/cql/OperatorIsLowerPinLaw" "law" code maxLocals ret := C
  refine own_iloadN C (pc' := 1) at_0 rfl rfl ?_
  refine own_ldc C (pc' := 3) (v := (2147483647 : Int32)) at_1 rfl (hw _ (List.mem_of_getElem? (i := 0) rfl)) ?_
  refine own_iand C (pc' := 4) at_3 rfl ?_
  refine own_bipush C (pc' := 6) (v := (6 : Int32)) at_4 rfl (by decide) ?_
  refine own_irem C (pc' := 7) at_6 rfl (by decide) ?_
  refine own_istoreN C (pc' := 8) (Ls' := #[.val (.int p0), .val (.int ((p0 &&& (2147483647 : Int32)) % (6 : Int32))), .unset, .unset, .unset, .unset]) at_7 rfl rfl ?_
  rcases own_md6 p0 with e71 | e71 | e71 | e71 | e71 | e71
  · skip
    rw [e71]
    show own_Run p_ l e_ _ s_ m_ _ b_ mt_ c_ n0 _ h _ _ (mkF m_ 8 #[.val (.int p0), .val (.int (0 : Int32)), .unset, .unset, .unset, .unset] [])
    refine own_iloadN C (pc' := 9) at_8 rfl rfl ?_
    refine own_callS C (pc' := 12) (y := (⟨"com/example/fanoutdb/fanoutdb/cql/OperatorIsLowerPinLaw", "pick", "(I)Lcom/example/fanoutdb/fanoutdb/cql/Relation$Operator;"⟩ : MethodName)) (argsL := [(.int (0 : Int32))]) (rest := []) 0 (hw _ (List.mem_of_getElem? (i := 1) rfl)) (hw _ (List.mem_of_getElem? (i := 2) rfl)) (hw _ (List.mem_of_getElem? (i := 3) rfl)) (hw _ (List.mem_of_getElem? (i := 4) rfl)) (by decide) (own_pickEQ hw oEQ Z0 q2 ) (by decide) (by decide) (lenOf own_pd5 rfl) rfl (Nat.le_of_eq rfl) at_9 rfl rfl (by decide) (by decide) (fun v72 h73 hq74 => ?_)
    obtain ⟨rfl, rfl⟩ := hq74
    show own_Run p_ l e_ _ s_ m_ _ b_ mt_ c_ n0 _ h _ _ (mkF m_ 12 #[.val (.int p0), .val (.int (0 : Int32)), .unset, .unset, .unset, .unset] [(.ref oEQ)])
    refine own_astoreN C (pc' := 13) (Ls' := #[.val (.int p0), .val (.int (0 : Int32)), .val (.ref oEQ), .unset, .unset, .unset]) at_12 rfl rfl rfl ?_
    refine own_aloadN C (pc' := 14) at_13 rfl rfl rfl ?_
    refine own_callV C (pc' := 17) (y := (⟨"com/example/fanoutdb/fanoutdb/cql/Relation$Operator", "toString", "()Ljava/lang/String;"⟩ : MethodName)) (a := oEQ) (argsL := []) (rest := []) 0 q3 (hw _ (List.mem_of_getElem? (i := 8) rfl)) (hw _ (List.mem_of_getElem? (i := 9) rfl)) (hw _ (List.mem_of_getElem? (i := 11) rfl)) (hw _ (List.mem_of_getElem? (i := 10) rfl)) (hw _ (List.mem_of_getElem? (i := 12) rfl)) (hw _ (List.mem_of_getElem? (i := 6) rfl)) (by decide) (own_m2 hw oEQ sEQ Z0 q4 ) (by decide) (by decide) (lenOf own_pd6 rfl) rfl (Nat.le_of_eq rfl) at_14 rfl rfl (by decide) (by decide) (fun v75 h76 hq77 => ?_)
    obtain ⟨rfl, rfl⟩ := hq77
    show own_Run p_ l e_ _ s_ m_ _ b_ mt_ c_ n0 _ h _ _ (mkF m_ 17 #[.val (.int p0), .val (.int (0 : Int32)), .val (.ref oEQ), .unset, .unset, .unset] [(.ref sEQ)])
    refine own_astoreN C (pc' := 18) (Ls' := #[.val (.int p0), .val (.int (0 : Int32)), .val (.ref oEQ), .val (.ref sEQ), .unset, .unset]) at_17 rfl rfl rfl ?_
    refine own_aloadN C (pc' := 19) at_18 rfl rfl rfl ?_
    refine own_callV C (pc' := 22) (y := (⟨"java/lang/String", "length", "()I"⟩ : MethodName)) (a := sEQ) (argsL := []) (rest := []) 0 q5 (hw _ (List.mem_of_getElem? (i := 15) rfl)) (hw _ (List.mem_of_getElem? (i := 16) rfl)) (hw _ (List.mem_of_getElem? (i := 18) rfl)) (hw _ (List.mem_of_getElem? (i := 17) rfl)) (hw _ (List.mem_of_getElem? (i := 20) rfl)) (hw _ (List.mem_of_getElem? (i := 19) rfl)) (by decide) (own_m3 hw sEQ cs vEQ 1 fEQ (1 : Int32) Z0 q5 q0 q7 q6 q8 (hcs) (by decide)) (by decide) (by decide) (lenOf own_pd7 rfl) rfl (Nat.le_of_eq rfl) at_19 rfl rfl (by decide) (by decide) (fun v78 h79 hq80 => ?_)
    obtain ⟨rfl, rfl⟩ := hq80
    show own_Run p_ l e_ _ s_ m_ _ b_ mt_ c_ n0 _ h _ _ (mkF m_ 22 #[.val (.int p0), .val (.int (0 : Int32)), .val (.ref oEQ), .val (.ref sEQ), .unset, .unset] [(.int (1 : Int32))])
    refine own_i0_le C (pc1 := 39) (pc2 := 25) at_22 rfl rfl (fun c81 => absurd c81 (by decide)) (fun c81 => ?_)
    refine own_aloadN C (pc' := 26) at_25 rfl rfl rfl ?_
    refine own_iconst C (pc' := 27) (v := (0 : Int32)) at_26 rfl (by decide) ?_
    refine own_callV C (pc' := 30) (y := (⟨"java/lang/String", "charAt", "(I)C"⟩ : MethodName)) (a := sEQ) (argsL := [(.int (0 : Int32))]) (rest := []) 0 q5 (hw _ (List.mem_of_getElem? (i := 31) rfl)) (hw _ (List.mem_of_getElem? (i := 32) rfl)) (hw _ (List.mem_of_getElem? (i := 34) rfl)) (hw _ (List.mem_of_getElem? (i := 33) rfl)) (hw _ (List.mem_of_getElem? (i := 35) rfl)) (hw _ (List.mem_of_getElem? (i := 19) rfl)) (by decide) (own_m5 hw sEQ cs vEQ 1 fEQ (0 : Int32) 0 (61 : Int32) (61 : Int32) fm Z0 q5 q0 q7 q6 q8 q1 (hcs) (hfm) (by decide) (by decide) (by decide) (by decide) eEQ0 (by decide) (by decide)) (by decide) (by decide) (lenOf own_pd8 rfl) rfl (Nat.le_of_eq rfl) at_27 rfl rfl (by decide) (by decide) (fun v82 h83 hq84 => ?_)
    obtain ⟨rfl, rfl⟩ := hq84
    show own_Run p_ l e_ _ s_ m_ _ b_ mt_ c_ n0 _ h _ _ (mkF m_ 30 #[.val (.int p0), .val (.int (0 : Int32)), .val (.ref oEQ), .val (.ref sEQ), .unset, .unset] [(.int (61 : Int32))])
    refine own_bipush C (pc' := 32) (v := (62 : Int32)) at_30 rfl (by decide) ?_
    refine own_ii_ne C (pc1 := 39) (pc2 := 35) at_32 rfl rfl (fun c85 => ?_) (fun c85 => absurd c85 (by decide))
    refine own_iconst C (pc' := 40) (v := (0 : Int32)) at_39 rfl (by decide) ?_
    refine own_istore C (pc' := 42) (Ls' := #[.val (.int p0), .val (.int (0 : Int32)), .val (.ref oEQ), .val (.ref sEQ), .val (.int (0 : Int32)), .unset]) at_40 rfl rfl ?_
    refine own_aloadN C (pc' := 43) at_42 rfl rfl rfl ?_
    refine own_callV C (pc' := 46) (y := (⟨"com/example/fanoutdb/fanoutdb/cql/Relation$Operator", "isLower", "()Z"⟩ : MethodName)) (a := oEQ) (argsL := []) (rest := []) 0 q3 (hw _ (List.mem_of_getElem? (i := 53) rfl)) (hw _ (List.mem_of_getElem? (i := 54) rfl)) (hw _ (List.mem_of_getElem? (i := 56) rfl)) (hw _ (List.mem_of_getElem? (i := 55) rfl)) (hw _ (List.mem_of_getElem? (i := 57) rfl)) (hw _ (List.mem_of_getElem? (i := 6) rfl)) (by decide) (own_isLowerEQ hw oEQ oGT oGE Z0 q30 q37 q47 q48 ) (by decide) (by decide) (lenOf own_pd3 rfl) rfl (Nat.le_of_eq rfl) at_43 rfl rfl (by decide) (by decide) (fun v86 h87 hq88 => ?_)
    obtain ⟨rfl, rfl⟩ := hq88
    show own_Run p_ l e_ _ s_ m_ _ b_ mt_ c_ n0 _ h _ _ (mkF m_ 46 #[.val (.int p0), .val (.int (0 : Int32)), .val (.ref oEQ), .val (.ref sEQ), .val (.int (0 : Int32)), .unset] [(.int (0 : Int32))])
    refine own_istore C (pc' := 48) (Ls' := #[.val (.int p0), .val (.int (0 : Int32)), .val (.ref oEQ), .val (.ref sEQ), .val (.int (0 : Int32)), .val (.int (0 : Int32))]) at_46 rfl rfl ?_
    refine own_iload C (pc' := 50) at_48 rfl rfl ?_
    refine own_iload C (pc' := 52) at_50 rfl rfl ?_
    refine own_ii_ne C (pc1 := 71) (pc2 := 55) at_52 rfl rfl (fun c89 => absurd c89 (by decide)) (fun c89 => ?_)
    refine own_iload C (pc' := 57) at_55 rfl rfl ?_
    refine own_i0_eq C (pc1 := 67) (pc2 := 60) at_57 rfl rfl (fun c90 => ?_) (fun c90 => absurd c90 (by decide))
    refine own_iconst C (pc' := 68) (v := (1 : Int32)) at_67 rfl (by decide) ?_
    refine own_goto C (pc' := 72) at_68 rfl ?_
    exact own_ret C (t := .boolean) rfl rfl (Or.inl ⟨rfl, by simp, _, rfl⟩) at_72 (by decide) (by decide) (rfl)
  · skip
    rw [e71]
    show own_Run p_ l e_ _ s_ m_ _ b_ mt_ c_ n0 _ h _ _ (mkF m_ 8 #[.val (.int p0), .val (.int (1 : Int32)), .unset, .unset, .unset, .unset] [])
    refine own_iloadN C (pc' := 9) at_8 rfl rfl ?_
    refine own_callS C (pc' := 12) (y := (⟨"com/example/fanoutdb/fanoutdb/cql/OperatorIsLowerPinLaw", "pick", "(I)Lcom/example/fanoutdb/fanoutdb/cql/Relation$Operator;"⟩ : MethodName)) (argsL := [(.int (1 : Int32))]) (rest := []) 0 (hw _ (List.mem_of_getElem? (i := 1) rfl)) (hw _ (List.mem_of_getElem? (i := 2) rfl)) (hw _ (List.mem_of_getElem? (i := 3) rfl)) (hw _ (List.mem_of_getElem? (i := 4) rfl)) (by decide) (own_pickNE hw oNE Z0 q9 ) (by decide) (by decide) (lenOf own_pd5 rfl) rfl (Nat.le_of_eq rfl) at_9 rfl rfl (by decide) (by decide) (fun v91 h92 hq93 => ?_)
    obtain ⟨rfl, rfl⟩ := hq93
    show own_Run p_ l e_ _ s_ m_ _ b_ mt_ c_ n0 _ h _ _ (mkF m_ 12 #[.val (.int p0), .val (.int (1 : Int32)), .unset, .unset, .unset, .unset] [(.ref oNE)])
    refine own_astoreN C (pc' := 13) (Ls' := #[.val (.int p0), .val (.int (1 : Int32)), .val (.ref oNE), .unset, .unset, .unset]) at_12 rfl rfl rfl ?_
    refine own_aloadN C (pc' := 14) at_13 rfl rfl rfl ?_
    refine own_callV C (pc' := 17) (y := (⟨"com/example/fanoutdb/fanoutdb/cql/Relation$Operator", "toString", "()Ljava/lang/String;"⟩ : MethodName)) (a := oNE) (argsL := []) (rest := []) 0 q10 (hw _ (List.mem_of_getElem? (i := 8) rfl)) (hw _ (List.mem_of_getElem? (i := 9) rfl)) (hw _ (List.mem_of_getElem? (i := 11) rfl)) (hw _ (List.mem_of_getElem? (i := 10) rfl)) (hw _ (List.mem_of_getElem? (i := 12) rfl)) (hw _ (List.mem_of_getElem? (i := 6) rfl)) (by decide) (own_m2 hw oNE sNE Z0 q11 ) (by decide) (by decide) (lenOf own_pd6 rfl) rfl (Nat.le_of_eq rfl) at_14 rfl rfl (by decide) (by decide) (fun v94 h95 hq96 => ?_)
    obtain ⟨rfl, rfl⟩ := hq96
    show own_Run p_ l e_ _ s_ m_ _ b_ mt_ c_ n0 _ h _ _ (mkF m_ 17 #[.val (.int p0), .val (.int (1 : Int32)), .val (.ref oNE), .unset, .unset, .unset] [(.ref sNE)])
    refine own_astoreN C (pc' := 18) (Ls' := #[.val (.int p0), .val (.int (1 : Int32)), .val (.ref oNE), .val (.ref sNE), .unset, .unset]) at_17 rfl rfl rfl ?_
    refine own_aloadN C (pc' := 19) at_18 rfl rfl rfl ?_
    refine own_callV C (pc' := 22) (y := (⟨"java/lang/String", "length", "()I"⟩ : MethodName)) (a := sNE) (argsL := []) (rest := []) 0 q12 (hw _ (List.mem_of_getElem? (i := 15) rfl)) (hw _ (List.mem_of_getElem? (i := 16) rfl)) (hw _ (List.mem_of_getElem? (i := 18) rfl)) (hw _ (List.mem_of_getElem? (i := 17) rfl)) (hw _ (List.mem_of_getElem? (i := 20) rfl)) (hw _ (List.mem_of_getElem? (i := 19) rfl)) (by decide) (own_m3 hw sNE cs vNE 2 fNE (2 : Int32) Z0 q12 q0 q14 q13 q15 (hcs) (by decide)) (by decide) (by decide) (lenOf own_pd7 rfl) rfl (Nat.le_of_eq rfl) at_19 rfl rfl (by decide) (by decide) (fun v97 h98 hq99 => ?_)
    obtain ⟨rfl, rfl⟩ := hq99
    show own_Run p_ l e_ _ s_ m_ _ b_ mt_ c_ n0 _ h _ _ (mkF m_ 22 #[.val (.int p0), .val (.int (1 : Int32)), .val (.ref oNE), .val (.ref sNE), .unset, .unset] [(.int (2 : Int32))])
    refine own_i0_le C (pc1 := 39) (pc2 := 25) at_22 rfl rfl (fun c100 => absurd c100 (by decide)) (fun c100 => ?_)
    refine own_aloadN C (pc' := 26) at_25 rfl rfl rfl ?_
    refine own_iconst C (pc' := 27) (v := (0 : Int32)) at_26 rfl (by decide) ?_
    refine own_callV C (pc' := 30) (y := (⟨"java/lang/String", "charAt", "(I)C"⟩ : MethodName)) (a := sNE) (argsL := [(.int (0 : Int32))]) (rest := []) 0 q12 (hw _ (List.mem_of_getElem? (i := 31) rfl)) (hw _ (List.mem_of_getElem? (i := 32) rfl)) (hw _ (List.mem_of_getElem? (i := 34) rfl)) (hw _ (List.mem_of_getElem? (i := 33) rfl)) (hw _ (List.mem_of_getElem? (i := 35) rfl)) (hw _ (List.mem_of_getElem? (i := 19) rfl)) (by decide) (own_m5 hw sNE cs vNE 2 fNE (0 : Int32) 0 (33 : Int32) (33 : Int32) fm Z0 q12 q0 q14 q13 q15 q1 (hcs) (hfm) (by decide) (by decide) (by decide) (by decide) eNE0 (by decide) (by decide)) (by decide) (by decide) (lenOf own_pd8 rfl) rfl (Nat.le_of_eq rfl) at_27 rfl rfl (by decide) (by decide) (fun v101 h102 hq103 => ?_)
    obtain ⟨rfl, rfl⟩ := hq103
    show own_Run p_ l e_ _ s_ m_ _ b_ mt_ c_ n0 _ h _ _ (mkF m_ 30 #[.val (.int p0), .val (.int (1 : Int32)), .val (.ref oNE), .val (.ref sNE), .unset, .unset] [(.int (33 : Int32))])
    refine own_bipush C (pc' := 32) (v := (62 : Int32)) at_30 rfl (by decide) ?_
    refine own_ii_ne C (pc1 := 39) (pc2 := 35) at_32 rfl rfl (fun c104 => ?_) (fun c104 => absurd c104 (by decide))
    refine own_iconst C (pc' := 40) (v := (0 : Int32)) at_39 rfl (by decide) ?_
    refine own_istore C (pc' := 42) (Ls' := #[.val (.int p0), .val (.int (1 : Int32)), .val (.ref oNE), .val (.ref sNE), .val (.int (0 : Int32)), .unset]) at_40 rfl rfl ?_
    refine own_aloadN C (pc' := 43) at_42 rfl rfl rfl ?_
    refine own_callV C (pc' := 46) (y := (⟨"com/example/fanoutdb/fanoutdb/cql/Relation$Operator", "isLower", "()Z"⟩ : MethodName)) (a := oNE) (argsL := []) (rest := []) 0 q10 (hw _ (List.mem_of_getElem? (i := 53) rfl)) (hw _ (List.mem_of_getElem? (i := 54) rfl)) (hw _ (List.mem_of_getElem? (i := 56) rfl)) (hw _ (List.mem_of_getElem? (i := 55) rfl)) (hw _ (List.mem_of_getElem? (i := 57) rfl)) (hw _ (List.mem_of_getElem? (i := 6) rfl)) (by decide) (own_isLowerNE hw oNE oGT oGE Z0 q30 q37 q51 q52 ) (by decide) (by decide) (lenOf own_pd3 rfl) rfl (Nat.le_of_eq rfl) at_43 rfl rfl (by decide) (by decide) (fun v105 h106 hq107 => ?_)
    obtain ⟨rfl, rfl⟩ := hq107
    show own_Run p_ l e_ _ s_ m_ _ b_ mt_ c_ n0 _ h _ _ (mkF m_ 46 #[.val (.int p0), .val (.int (1 : Int32)), .val (.ref oNE), .val (.ref sNE), .val (.int (0 : Int32)), .unset] [(.int (0 : Int32))])
    refine own_istore C (pc' := 48) (Ls' := #[.val (.int p0), .val (.int (1 : Int32)), .val (.ref oNE), .val (.ref sNE), .val (.int (0 : Int32)), .val (.int (0 : Int32))]) at_46 rfl rfl ?_
    refine own_iload C (pc' := 50) at_48 rfl rfl ?_
    refine own_iload C (pc' := 52) at_50 rfl rfl ?_
    refine own_ii_ne C (pc1 := 71) (pc2 := 55) at_52 rfl rfl (fun c108 => absurd c108 (by decide)) (fun c108 => ?_)
    refine own_iload C (pc' := 57) at_55 rfl rfl ?_
    refine own_i0_eq C (pc1 := 67) (pc2 := 60) at_57 rfl rfl (fun c109 => ?_) (fun c109 => absurd c109 (by decide))
    refine own_iconst C (pc' := 68) (v := (1 : Int32)) at_67 rfl (by decide) ?_
    refine own_goto C (pc' := 72) at_68 rfl ?_
    exact own_ret C (t := .boolean) rfl rfl (Or.inl ⟨rfl, by simp, _, rfl⟩) at_72 (by decide) (by decide) (rfl)
  · skip
    rw [e71]
    show own_Run p_ l e_ _ s_ m_ _ b_ mt_ c_ n0 _ h _ _ (mkF m_ 8 #[.val (.int p0), .val (.int (2 : Int32)), .unset, .unset, .unset, .unset] [])
    refine own_iloadN C (pc' := 9) at_8 rfl rfl ?_
    refine own_callS C (pc' := 12) (y := (⟨"com/example/fanoutdb/fanoutdb/cql/OperatorIsLowerPinLaw", "pick", "(I)Lcom/example/fanoutdb/fanoutdb/cql/Relation$Operator;"⟩ : MethodName)) (argsL := [(.int (2 : Int32))]) (rest := []) 0 (hw _ (List.mem_of_getElem? (i := 1) rfl)) (hw _ (List.mem_of_getElem? (i := 2) rfl)) (hw _ (List.mem_of_getElem? (i := 3) rfl)) (hw _ (List.mem_of_getElem? (i := 4) rfl)) (by decide) (own_pickLT hw oLT Z0 q16 ) (by decide) (by decide) (lenOf own_pd5 rfl) rfl (Nat.le_of_eq rfl) at_9 rfl rfl (by decide) (by decide) (fun v110 h111 hq112 => ?_)
    obtain ⟨rfl, rfl⟩ := hq112
    show own_Run p_ l e_ _ s_ m_ _ b_ mt_ c_ n0 _ h _ _ (mkF m_ 12 #[.val (.int p0), .val (.int (2 : Int32)), .unset, .unset, .unset, .unset] [(.ref oLT)])
    refine own_astoreN C (pc' := 13) (Ls' := #[.val (.int p0), .val (.int (2 : Int32)), .val (.ref oLT), .unset, .unset, .unset]) at_12 rfl rfl rfl ?_
    refine own_aloadN C (pc' := 14) at_13 rfl rfl rfl ?_
    refine own_callV C (pc' := 17) (y := (⟨"com/example/fanoutdb/fanoutdb/cql/Relation$Operator", "toString", "()Ljava/lang/String;"⟩ : MethodName)) (a := oLT) (argsL := []) (rest := []) 0 q17 (hw _ (List.mem_of_getElem? (i := 8) rfl)) (hw _ (List.mem_of_getElem? (i := 9) rfl)) (hw _ (List.mem_of_getElem? (i := 11) rfl)) (hw _ (List.mem_of_getElem? (i := 10) rfl)) (hw _ (List.mem_of_getElem? (i := 12) rfl)) (hw _ (List.mem_of_getElem? (i := 6) rfl)) (by decide) (own_m2 hw oLT sLT Z0 q18 ) (by decide) (by decide) (lenOf own_pd6 rfl) rfl (Nat.le_of_eq rfl) at_14 rfl rfl (by decide) (by decide) (fun v113 h114 hq115 => ?_)
    obtain ⟨rfl, rfl⟩ := hq115
    show own_Run p_ l e_ _ s_ m_ _ b_ mt_ c_ n0 _ h _ _ (mkF m_ 17 #[.val (.int p0), .val (.int (2 : Int32)), .val (.ref oLT), .unset, .unset, .unset] [(.ref sLT)])
    refine own_astoreN C (pc' := 18) (Ls' := #[.val (.int p0), .val (.int (2 : Int32)), .val (.ref oLT), .val (.ref sLT), .unset, .unset]) at_17 rfl rfl rfl ?_
    refine own_aloadN C (pc' := 19) at_18 rfl rfl rfl ?_
    refine own_callV C (pc' := 22) (y := (⟨"java/lang/String", "length", "()I"⟩ : MethodName)) (a := sLT) (argsL := []) (rest := []) 0 q19 (hw _ (List.mem_of_getElem? (i := 15) rfl)) (hw _ (List.mem_of_getElem? (i := 16) rfl)) (hw _ (List.mem_of_getElem? (i := 18) rfl)) (hw _ (List.mem_of_getElem? (i := 17) rfl)) (hw _ (List.mem_of_getElem? (i := 20) rfl)) (hw _ (List.mem_of_getElem? (i := 19) rfl)) (by decide) (own_m3 hw sLT cs vLT 1 fLT (1 : Int32) Z0 q19 q0 q21 q20 q22 (hcs) (by decide)) (by decide) (by decide) (lenOf own_pd7 rfl) rfl (Nat.le_of_eq rfl) at_19 rfl rfl (by decide) (by decide) (fun v116 h117 hq118 => ?_)
    obtain ⟨rfl, rfl⟩ := hq118
    show own_Run p_ l e_ _ s_ m_ _ b_ mt_ c_ n0 _ h _ _ (mkF m_ 22 #[.val (.int p0), .val (.int (2 : Int32)), .val (.ref oLT), .val (.ref sLT), .unset, .unset] [(.int (1 : Int32))])
    refine own_i0_le C (pc1 := 39) (pc2 := 25) at_22 rfl rfl (fun c119 => absurd c119 (by decide)) (fun c119 => ?_)
    refine own_aloadN C (pc' := 26) at_25 rfl rfl rfl ?_
    refine own_iconst C (pc' := 27) (v := (0 : Int32)) at_26 rfl (by decide) ?_
    refine own_callV C (pc' := 30) (y := (⟨"java/lang/String", "charAt", "(I)C"⟩ : MethodName)) (a := sLT) (argsL := [(.int (0 : Int32))]) (rest := []) 0 q19 (hw _ (List.mem_of_getElem? (i := 31) rfl)) (hw _ (List.mem_of_getElem? (i := 32) rfl)) (hw _ (List.mem_of_getElem? (i := 34) rfl)) (hw _ (List.mem_of_getElem? (i := 33) rfl)) (hw _ (List.mem_of_getElem? (i := 35) rfl)) (hw _ (List.mem_of_getElem? (i := 19) rfl)) (by decide) (own_m5 hw sLT cs vLT 1 fLT (0 : Int32) 0 (60 : Int32) (60 : Int32) fm Z0 q19 q0 q21 q20 q22 q1 (hcs) (hfm) (by decide) (by decide) (by decide) (by decide) eLT0 (by decide) (by decide)) (by decide) (by decide) (lenOf own_pd8 rfl) rfl (Nat.le_of_eq rfl) at_27 rfl rfl (by decide) (by decide) (fun v120 h121 hq122 => ?_)
    obtain ⟨rfl, rfl⟩ := hq122
    show own_Run p_ l e_ _ s_ m_ _ b_ mt_ c_ n0 _ h _ _ (mkF m_ 30 #[.val (.int p0), .val (.int (2 : Int32)), .val (.ref oLT), .val (.ref sLT), .unset, .unset] [(.int (60 : Int32))])
    refine own_bipush C (pc' := 32) (v := (62 : Int32)) at_30 rfl (by decide) ?_
    refine own_ii_ne C (pc1 := 39) (pc2 := 35) at_32 rfl rfl (fun c123 => ?_) (fun c123 => absurd c123 (by decide))
    refine own_iconst C (pc' := 40) (v := (0 : Int32)) at_39 rfl (by decide) ?_
    refine own_istore C (pc' := 42) (Ls' := #[.val (.int p0), .val (.int (2 : Int32)), .val (.ref oLT), .val (.ref sLT), .val (.int (0 : Int32)), .unset]) at_40 rfl rfl ?_
    refine own_aloadN C (pc' := 43) at_42 rfl rfl rfl ?_
    refine own_callV C (pc' := 46) (y := (⟨"com/example/fanoutdb/fanoutdb/cql/Relation$Operator", "isLower", "()Z"⟩ : MethodName)) (a := oLT) (argsL := []) (rest := []) 0 q17 (hw _ (List.mem_of_getElem? (i := 53) rfl)) (hw _ (List.mem_of_getElem? (i := 54) rfl)) (hw _ (List.mem_of_getElem? (i := 56) rfl)) (hw _ (List.mem_of_getElem? (i := 55) rfl)) (hw _ (List.mem_of_getElem? (i := 57) rfl)) (hw _ (List.mem_of_getElem? (i := 6) rfl)) (by decide) (own_isLowerLT hw oLT oGT oGE Z0 q30 q37 q54 q55 ) (by decide) (by decide) (lenOf own_pd3 rfl) rfl (Nat.le_of_eq rfl) at_43 rfl rfl (by decide) (by decide) (fun v124 h125 hq126 => ?_)
    obtain ⟨rfl, rfl⟩ := hq126
    show own_Run p_ l e_ _ s_ m_ _ b_ mt_ c_ n0 _ h _ _ (mkF m_ 46 #[.val (.int p0), .val (.int (2 : Int32)), .val (.ref oLT), .val (.ref sLT), .val (.int (0 : Int32)), .unset] [(.int (0 : Int32))])
    refine own_istore C (pc' := 48) (Ls' := #[.val (.int p0), .val (.int (2 : Int32)), .val (.ref oLT), .val (.ref sLT), .val (.int (0 : Int32)), .val (.int (0 : Int32))]) at_46 rfl rfl ?_
    refine own_iload C (pc' := 50) at_48 rfl rfl ?_
    refine own_iload C (pc' := 52) at_50 rfl rfl ?_
    refine own_ii_ne C (pc1 := 71) (pc2 := 55) at_52 rfl rfl (fun c127 => absurd c127 (by decide)) (fun c127 => ?_)
    refine own_iload C (pc' := 57) at_55 rfl rfl ?_
    refine own_i0_eq C (pc1 := 67) (pc2 := 60) at_57 rfl rfl (fun c128 => ?_) (fun c128 => absurd c128 (by decide))
    refine own_iconst C (pc' := 68) (v := (1 : Int32)) at_67 rfl (by decide) ?_
    refine own_goto C (pc' := 72) at_68 rfl ?_
    exact own_ret C (t := .boolean) rfl rfl (Or.inl ⟨rfl, by simp, _, rfl⟩) at_72 (by decide) (by decide) (rfl)
  · skip
    rw [e71]
    show own_Run p_ l e_ _ s_ m_ _ b_ mt_ c_ n0 _ h _ _ (mkF m_ 8 #[.val (.int p0), .val (.int (3 : Int32)), .unset, .unset, .unset, .unset] [])
    refine own_iloadN C (pc' := 9) at_8 rfl rfl ?_
    refine own_callS C (pc' := 12) (y := (⟨"com/example/fanoutdb/fanoutdb/cql/OperatorIsLowerPinLaw", "pick", "(I)Lcom/example/fanoutdb/fanoutdb/cql/Relation$Operator;"⟩ : MethodName)) (argsL := [(.int (3 : Int32))]) (rest := []) 0 (hw _ (List.mem_of_getElem? (i := 1) rfl)) (hw _ (List.mem_of_getElem? (i := 2) rfl)) (hw _ (List.mem_of_getElem? (i := 3) rfl)) (hw _ (List.mem_of_getElem? (i := 4) rfl)) (by decide) (own_pickLE hw oLE Z0 q23 ) (by decide) (by decide) (lenOf own_pd5 rfl) rfl (Nat.le_of_eq rfl) at_9 rfl rfl (by decide) (by decide) (fun v129 h130 hq131 => ?_)
    obtain ⟨rfl, rfl⟩ := hq131
    show own_Run p_ l e_ _ s_ m_ _ b_ mt_ c_ n0 _ h _ _ (mkF m_ 12 #[.val (.int p0), .val (.int (3 : Int32)), .unset, .unset, .unset, .unset] [(.ref oLE)])
    refine own_astoreN C (pc' := 13) (Ls' := #[.val (.int p0), .val (.int (3 : Int32)), .val (.ref oLE), .unset, .unset, .unset]) at_12 rfl rfl rfl ?_
    refine own_aloadN C (pc' := 14) at_13 rfl rfl rfl ?_
    refine own_callV C (pc' := 17) (y := (⟨"com/example/fanoutdb/fanoutdb/cql/Relation$Operator", "toString", "()Ljava/lang/String;"⟩ : MethodName)) (a := oLE) (argsL := []) (rest := []) 0 q24 (hw _ (List.mem_of_getElem? (i := 8) rfl)) (hw _ (List.mem_of_getElem? (i := 9) rfl)) (hw _ (List.mem_of_getElem? (i := 11) rfl)) (hw _ (List.mem_of_getElem? (i := 10) rfl)) (hw _ (List.mem_of_getElem? (i := 12) rfl)) (hw _ (List.mem_of_getElem? (i := 6) rfl)) (by decide) (own_m2 hw oLE sLE Z0 q25 ) (by decide) (by decide) (lenOf own_pd6 rfl) rfl (Nat.le_of_eq rfl) at_14 rfl rfl (by decide) (by decide) (fun v132 h133 hq134 => ?_)
    obtain ⟨rfl, rfl⟩ := hq134
    show own_Run p_ l e_ _ s_ m_ _ b_ mt_ c_ n0 _ h _ _ (mkF m_ 17 #[.val (.int p0), .val (.int (3 : Int32)), .val (.ref oLE), .unset, .unset, .unset] [(.ref sLE)])
    refine own_astoreN C (pc' := 18) (Ls' := #[.val (.int p0), .val (.int (3 : Int32)), .val (.ref oLE), .val (.ref sLE), .unset, .unset]) at_17 rfl rfl rfl ?_
    refine own_aloadN C (pc' := 19) at_18 rfl rfl rfl ?_
    refine own_callV C (pc' := 22) (y := (⟨"java/lang/String", "length", "()I"⟩ : MethodName)) (a := sLE) (argsL := []) (rest := []) 0 q26 (hw _ (List.mem_of_getElem? (i := 15) rfl)) (hw _ (List.mem_of_getElem? (i := 16) rfl)) (hw _ (List.mem_of_getElem? (i := 18) rfl)) (hw _ (List.mem_of_getElem? (i := 17) rfl)) (hw _ (List.mem_of_getElem? (i := 20) rfl)) (hw _ (List.mem_of_getElem? (i := 19) rfl)) (by decide) (own_m3 hw sLE cs vLE 2 fLE (2 : Int32) Z0 q26 q0 q28 q27 q29 (hcs) (by decide)) (by decide) (by decide) (lenOf own_pd7 rfl) rfl (Nat.le_of_eq rfl) at_19 rfl rfl (by decide) (by decide) (fun v135 h136 hq137 => ?_)
    obtain ⟨rfl, rfl⟩ := hq137
    show own_Run p_ l e_ _ s_ m_ _ b_ mt_ c_ n0 _ h _ _ (mkF m_ 22 #[.val (.int p0), .val (.int (3 : Int32)), .val (.ref oLE), .val (.ref sLE), .unset, .unset] [(.int (2 : Int32))])
    refine own_i0_le C (pc1 := 39) (pc2 := 25) at_22 rfl rfl (fun c138 => absurd c138 (by decide)) (fun c138 => ?_)
    refine own_aloadN C (pc' := 26) at_25 rfl rfl rfl ?_
    refine own_iconst C (pc' := 27) (v := (0 : Int32)) at_26 rfl (by decide) ?_
    refine own_callV C (pc' := 30) (y := (⟨"java/lang/String", "charAt", "(I)C"⟩ : MethodName)) (a := sLE) (argsL := [(.int (0 : Int32))]) (rest := []) 0 q26 (hw _ (List.mem_of_getElem? (i := 31) rfl)) (hw _ (List.mem_of_getElem? (i := 32) rfl)) (hw _ (List.mem_of_getElem? (i := 34) rfl)) (hw _ (List.mem_of_getElem? (i := 33) rfl)) (hw _ (List.mem_of_getElem? (i := 35) rfl)) (hw _ (List.mem_of_getElem? (i := 19) rfl)) (by decide) (own_m5 hw sLE cs vLE 2 fLE (0 : Int32) 0 (60 : Int32) (60 : Int32) fm Z0 q26 q0 q28 q27 q29 q1 (hcs) (hfm) (by decide) (by decide) (by decide) (by decide) eLE0 (by decide) (by decide)) (by decide) (by decide) (lenOf own_pd8 rfl) rfl (Nat.le_of_eq rfl) at_27 rfl rfl (by decide) (by decide) (fun v139 h140 hq141 => ?_)
    obtain ⟨rfl, rfl⟩ := hq141
    show own_Run p_ l e_ _ s_ m_ _ b_ mt_ c_ n0 _ h _ _ (mkF m_ 30 #[.val (.int p0), .val (.int (3 : Int32)), .val (.ref oLE), .val (.ref sLE), .unset, .unset] [(.int (60 : Int32))])
    refine own_bipush C (pc' := 32) (v := (62 : Int32)) at_30 rfl (by decide) ?_
    refine own_ii_ne C (pc1 := 39) (pc2 := 35) at_32 rfl rfl (fun c142 => ?_) (fun c142 => absurd c142 (by decide))
    refine own_iconst C (pc' := 40) (v := (0 : Int32)) at_39 rfl (by decide) ?_
    refine own_istore C (pc' := 42) (Ls' := #[.val (.int p0), .val (.int (3 : Int32)), .val (.ref oLE), .val (.ref sLE), .val (.int (0 : Int32)), .unset]) at_40 rfl rfl ?_
    refine own_aloadN C (pc' := 43) at_42 rfl rfl rfl ?_
    refine own_callV C (pc' := 46) (y := (⟨"com/example/fanoutdb/fanoutdb/cql/Relation$Operator", "isLower", "()Z"⟩ : MethodName)) (a := oLE) (argsL := []) (rest := []) 0 q24 (hw _ (List.mem_of_getElem? (i := 53) rfl)) (hw _ (List.mem_of_getElem? (i := 54) rfl)) (hw _ (List.mem_of_getElem? (i := 56) rfl)) (hw _ (List.mem_of_getElem? (i := 55) rfl)) (hw _ (List.mem_of_getElem? (i := 57) rfl)) (hw _ (List.mem_of_getElem? (i := 6) rfl)) (by decide) (own_isLowerLE hw oLE oGT oGE Z0 q30 q37 q56 q57 ) (by decide) (by decide) (lenOf own_pd3 rfl) rfl (Nat.le_of_eq rfl) at_43 rfl rfl (by decide) (by decide) (fun v143 h144 hq145 => ?_)
    obtain ⟨rfl, rfl⟩ := hq145
    show own_Run p_ l e_ _ s_ m_ _ b_ mt_ c_ n0 _ h _ _ (mkF m_ 46 #[.val (.int p0), .val (.int (3 : Int32)), .val (.ref oLE), .val (.ref sLE), .val (.int (0 : Int32)), .unset] [(.int (0 : Int32))])
    refine own_istore C (pc' := 48) (Ls' := #[.val (.int p0), .val (.int (3 : Int32)), .val (.ref oLE), .val (.ref sLE), .val (.int (0 : Int32)), .val (.int (0 : Int32))]) at_46 rfl rfl ?_
    refine own_iload C (pc' := 50) at_48 rfl rfl ?_
    refine own_iload C (pc' := 52) at_50 rfl rfl ?_
    refine own_ii_ne C (pc1 := 71) (pc2 := 55) at_52 rfl rfl (fun c146 => absurd c146 (by decide)) (fun c146 => ?_)
    refine own_iload C (pc' := 57) at_55 rfl rfl ?_
    refine own_i0_eq C (pc1 := 67) (pc2 := 60) at_57 rfl rfl (fun c147 => ?_) (fun c147 => absurd c147 (by decide))
    refine own_iconst C (pc' := 68) (v := (1 : Int32)) at_67 rfl (by decide) ?_
    refine own_goto C (pc' := 72) at_68 rfl ?_
    exact own_ret C (t := .boolean) rfl rfl (Or.inl ⟨rfl, by simp, _, rfl⟩) at_72 (by decide) (by decide) (rfl)
  · skip
    rw [e71]
    show own_Run p_ l e_ _ s_ m_ _ b_ mt_ c_ n0 _ h _ _ (mkF m_ 8 #[.val (.int p0), .val (.int (4 : Int32)), .unset, .unset, .unset, .unset] [])
    refine own_iloadN C (pc' := 9) at_8 rfl rfl ?_
    refine own_callS C (pc' := 12) (y := (⟨"com/example/fanoutdb/fanoutdb/cql/OperatorIsLowerPinLaw", "pick", "(I)Lcom/example/fanoutdb/fanoutdb/cql/Relation$Operator;"⟩ : MethodName)) (argsL := [(.int (4 : Int32))]) (rest := []) 0 (hw _ (List.mem_of_getElem? (i := 1) rfl)) (hw _ (List.mem_of_getElem? (i := 2) rfl)) (hw _ (List.mem_of_getElem? (i := 3) rfl)) (hw _ (List.mem_of_getElem? (i := 4) rfl)) (by decide) (own_pickGT hw oGT Z0 q30 ) (by decide) (by decide) (lenOf own_pd5 rfl) rfl (Nat.le_of_eq rfl) at_9 rfl rfl (by decide) (by decide) (fun v148 h149 hq150 => ?_)
    obtain ⟨rfl, rfl⟩ := hq150
    show own_Run p_ l e_ _ s_ m_ _ b_ mt_ c_ n0 _ h _ _ (mkF m_ 12 #[.val (.int p0), .val (.int (4 : Int32)), .unset, .unset, .unset, .unset] [(.ref oGT)])
    refine own_astoreN C (pc' := 13) (Ls' := #[.val (.int p0), .val (.int (4 : Int32)), .val (.ref oGT), .unset, .unset, .unset]) at_12 rfl rfl rfl ?_
    refine own_aloadN C (pc' := 14) at_13 rfl rfl rfl ?_
    refine own_callV C (pc' := 17) (y := (⟨"com/example/fanoutdb/fanoutdb/cql/Relation$Operator", "toString", "()Ljava/lang/String;"⟩ : MethodName)) (a := oGT) (argsL := []) (rest := []) 0 q31 (hw _ (List.mem_of_getElem? (i := 8) rfl)) (hw _ (List.mem_of_getElem? (i := 9) rfl)) (hw _ (List.mem_of_getElem? (i := 11) rfl)) (hw _ (List.mem_of_getElem? (i := 10) rfl)) (hw _ (List.mem_of_getElem? (i := 12) rfl)) (hw _ (List.mem_of_getElem? (i := 6) rfl)) (by decide) (own_m2 hw oGT sGT Z0 q32 ) (by decide) (by decide) (lenOf own_pd6 rfl) rfl (Nat.le_of_eq rfl) at_14 rfl rfl (by decide) (by decide) (fun v151 h152 hq153 => ?_)
    obtain ⟨rfl, rfl⟩ := hq153
    show own_Run p_ l e_ _ s_ m_ _ b_ mt_ c_ n0 _ h _ _ (mkF m_ 17 #[.val (.int p0), .val (.int (4 : Int32)), .val (.ref oGT), .unset, .unset, .unset] [(.ref sGT)])
    refine own_astoreN C (pc' := 18) (Ls' := #[.val (.int p0), .val (.int (4 : Int32)), .val (.ref oGT), .val (.ref sGT), .unset, .unset]) at_17 rfl rfl rfl ?_
    refine own_aloadN C (pc' := 19) at_18 rfl rfl rfl ?_
    refine own_callV C (pc' := 22) (y := (⟨"java/lang/String", "length", "()I"⟩ : MethodName)) (a := sGT) (argsL := []) (rest := []) 0 q33 (hw _ (List.mem_of_getElem? (i := 15) rfl)) (hw _ (List.mem_of_getElem? (i := 16) rfl)) (hw _ (List.mem_of_getElem? (i := 18) rfl)) (hw _ (List.mem_of_getElem? (i := 17) rfl)) (hw _ (List.mem_of_getElem? (i := 20) rfl)) (hw _ (List.mem_of_getElem? (i := 19) rfl)) (by decide) (own_m3 hw sGT cs vGT 1 fGT (1 : Int32) Z0 q33 q0 q35 q34 q36 (hcs) (by decide)) (by decide) (by decide) (lenOf own_pd7 rfl) rfl (Nat.le_of_eq rfl) at_19 rfl rfl (by decide) (by decide) (fun v154 h155 hq156 => ?_)
    obtain ⟨rfl, rfl⟩ := hq156
    show own_Run p_ l e_ _ s_ m_ _ b_ mt_ c_ n0 _ h _ _ (mkF m_ 22 #[.val (.int p0), .val (.int (4 : Int32)), .val (.ref oGT), .val (.ref sGT), .unset, .unset] [(.int (1 : Int32))])
    refine own_i0_le C (pc1 := 39) (pc2 := 25) at_22 rfl rfl (fun c157 => absurd c157 (by decide)) (fun c157 => ?_)
    refine own_aloadN C (pc' := 26) at_25 rfl rfl rfl ?_
    refine own_iconst C (pc' := 27) (v := (0 : Int32)) at_26 rfl (by decide) ?_
    refine own_callV C (pc' := 30) (y := (⟨"java/lang/String", "charAt", "(I)C"⟩ : MethodName)) (a := sGT) (argsL := [(.int (0 : Int32))]) (rest := []) 0 q33 (hw _ (List.mem_of_getElem? (i := 31) rfl)) (hw _ (List.mem_of_getElem? (i := 32) rfl)) (hw _ (List.mem_of_getElem? (i := 34) rfl)) (hw _ (List.mem_of_getElem? (i := 33) rfl)) (hw _ (List.mem_of_getElem? (i := 35) rfl)) (hw _ (List.mem_of_getElem? (i := 19) rfl)) (by decide) (own_m5 hw sGT cs vGT 1 fGT (0 : Int32) 0 (62 : Int32) (62 : Int32) fm Z0 q33 q0 q35 q34 q36 q1 (hcs) (hfm) (by decide) (by decide) (by decide) (by decide) eGT0 (by decide) (by decide)) (by decide) (by decide) (lenOf own_pd8 rfl) rfl (Nat.le_of_eq rfl) at_27 rfl rfl (by decide) (by decide) (fun v158 h159 hq160 => ?_)
    obtain ⟨rfl, rfl⟩ := hq160
    show own_Run p_ l e_ _ s_ m_ _ b_ mt_ c_ n0 _ h _ _ (mkF m_ 30 #[.val (.int p0), .val (.int (4 : Int32)), .val (.ref oGT), .val (.ref sGT), .unset, .unset] [(.int (62 : Int32))])
    refine own_bipush C (pc' := 32) (v := (62 : Int32)) at_30 rfl (by decide) ?_
    refine own_ii_ne C (pc1 := 39) (pc2 := 35) at_32 rfl rfl (fun c161 => absurd c161 (by decide)) (fun c161 => ?_)
    refine own_iconst C (pc' := 36) (v := (1 : Int32)) at_35 rfl (by decide) ?_
    refine own_goto C (pc' := 40) at_36 rfl ?_
    refine own_istore C (pc' := 42) (Ls' := #[.val (.int p0), .val (.int (4 : Int32)), .val (.ref oGT), .val (.ref sGT), .val (.int (1 : Int32)), .unset]) at_40 rfl rfl ?_
    refine own_aloadN C (pc' := 43) at_42 rfl rfl rfl ?_
    refine own_callV C (pc' := 46) (y := (⟨"com/example/fanoutdb/fanoutdb/cql/Relation$Operator", "isLower", "()Z"⟩ : MethodName)) (a := oGT) (argsL := []) (rest := []) 0 q31 (hw _ (List.mem_of_getElem? (i := 53) rfl)) (hw _ (List.mem_of_getElem? (i := 54) rfl)) (hw _ (List.mem_of_getElem? (i := 56) rfl)) (hw _ (List.mem_of_getElem? (i := 55) rfl)) (hw _ (List.mem_of_getElem? (i := 57) rfl)) (hw _ (List.mem_of_getElem? (i := 6) rfl)) (by decide) (own_isLowerGT hw oGT Z0 q30 ) (by decide) (by decide) (lenOf own_pd3 rfl) rfl (Nat.le_of_eq rfl) at_43 rfl rfl (by decide) (by decide) (fun v162 h163 hq164 => ?_)
    obtain ⟨rfl, rfl⟩ := hq164
    show own_Run p_ l e_ _ s_ m_ _ b_ mt_ c_ n0 _ h _ _ (mkF m_ 46 #[.val (.int p0), .val (.int (4 : Int32)), .val (.ref oGT), .val (.ref sGT), .val (.int (1 : Int32)), .unset] [(.int (1 : Int32))])
    refine own_istore C (pc' := 48) (Ls' := #[.val (.int p0), .val (.int (4 : Int32)), .val (.ref oGT), .val (.ref sGT), .val (.int (1 : Int32)), .val (.int (1 : Int32))]) at_46 rfl rfl ?_
    refine own_iload C (pc' := 50) at_48 rfl rfl ?_
    refine own_iload C (pc' := 52) at_50 rfl rfl ?_
    refine own_ii_ne C (pc1 := 71) (pc2 := 55) at_52 rfl rfl (fun c165 => absurd c165 (by decide)) (fun c165 => ?_)
    refine own_iload C (pc' := 57) at_55 rfl rfl ?_
    refine own_i0_eq C (pc1 := 67) (pc2 := 60) at_57 rfl rfl (fun c166 => absurd c166 (by decide)) (fun c166 => ?_)
    refine own_aloadN C (pc' := 61) at_60 rfl rfl rfl ?_
    refine own_callV C (pc' := 64) (y := (⟨"com/example/fanoutdb/fanoutdb/cql/Relation$Operator", "isBound", "()Z"⟩ : MethodName)) (a := oGT) (argsL := []) (rest := []) 0 q31 (hw _ (List.mem_of_getElem? (i := 69) rfl)) (hw _ (List.mem_of_getElem? (i := 70) rfl)) (hw _ (List.mem_of_getElem? (i := 72) rfl)) (hw _ (List.mem_of_getElem? (i := 71) rfl)) (hw _ (List.mem_of_getElem? (i := 73) rfl)) (hw _ (List.mem_of_getElem? (i := 6) rfl)) (by decide) (own_isBoundGT hw oGT oLT oLE Z0 q16 q23 q30 (Ne.symm q54) (Ne.symm q56) ) (by decide) (by decide) (lenOf own_pd3 rfl) rfl (Nat.le_of_eq rfl) at_61 rfl rfl (by decide) (by decide) (fun v167 h168 hq169 => ?_)
    obtain ⟨rfl, rfl⟩ := hq169
    show own_Run p_ l e_ _ s_ m_ _ b_ mt_ c_ n0 _ h _ _ (mkF m_ 64 #[.val (.int p0), .val (.int (4 : Int32)), .val (.ref oGT), .val (.ref sGT), .val (.int (1 : Int32)), .val (.int (1 : Int32))] [(.int (1 : Int32))])
    refine own_i0_eq C (pc1 := 71) (pc2 := 67) at_64 rfl rfl (fun c170 => absurd c170 (by decide)) (fun c170 => ?_)
    refine own_iconst C (pc' := 68) (v := (1 : Int32)) at_67 rfl (by decide) ?_
    refine own_goto C (pc' := 72) at_68 rfl ?_
    exact own_ret C (t := .boolean) rfl rfl (Or.inl ⟨rfl, by simp, _, rfl⟩) at_72 (by decide) (by decide) (rfl)
  · skip
    rw [e71]
    show own_Run p_ l e_ _ s_ m_ _ b_ mt_ c_ n0 _ h _ _ (mkF m_ 8 #[.val (.int p0), .val (.int (5 : Int32)), .unset, .unset, .unset, .unset] [])
    refine own_iloadN C (pc' := 9) at_8 rfl rfl ?_
    refine own_callS C (pc' := 12) (y := (⟨"com/example/fanoutdb/fanoutdb/cql/OperatorIsLowerPinLaw", "pick", "(I)Lcom/example/fanoutdb/fanoutdb/cql/Relation$Operator;"⟩ : MethodName)) (argsL := [(.int (5 : Int32))]) (rest := []) 0 (hw _ (List.mem_of_getElem? (i := 1) rfl)) (hw _ (List.mem_of_getElem? (i := 2) rfl)) (hw _ (List.mem_of_getElem? (i := 3) rfl)) (hw _ (List.mem_of_getElem? (i := 4) rfl)) (by decide) (own_pickGE hw oGE Z0 q37 ) (by decide) (by decide) (lenOf own_pd5 rfl) rfl (Nat.le_of_eq rfl) at_9 rfl rfl (by decide) (by decide) (fun v171 h172 hq173 => ?_)
    obtain ⟨rfl, rfl⟩ := hq173
    show own_Run p_ l e_ _ s_ m_ _ b_ mt_ c_ n0 _ h _ _ (mkF m_ 12 #[.val (.int p0), .val (.int (5 : Int32)), .unset, .unset, .unset, .unset] [(.ref oGE)])
    refine own_astoreN C (pc' := 13) (Ls' := #[.val (.int p0), .val (.int (5 : Int32)), .val (.ref oGE), .unset, .unset, .unset]) at_12 rfl rfl rfl ?_
    refine own_aloadN C (pc' := 14) at_13 rfl rfl rfl ?_
    refine own_callV C (pc' := 17) (y := (⟨"com/example/fanoutdb/fanoutdb/cql/Relation$Operator", "toString", "()Ljava/lang/String;"⟩ : MethodName)) (a := oGE) (argsL := []) (rest := []) 0 q38 (hw _ (List.mem_of_getElem? (i := 8) rfl)) (hw _ (List.mem_of_getElem? (i := 9) rfl)) (hw _ (List.mem_of_getElem? (i := 11) rfl)) (hw _ (List.mem_of_getElem? (i := 10) rfl)) (hw _ (List.mem_of_getElem? (i := 12) rfl)) (hw _ (List.mem_of_getElem? (i := 6) rfl)) (by decide) (own_m2 hw oGE sGE Z0 q39 ) (by decide) (by decide) (lenOf own_pd6 rfl) rfl (Nat.le_of_eq rfl) at_14 rfl rfl (by decide) (by decide) (fun v174 h175 hq176 => ?_)
    obtain ⟨rfl, rfl⟩ := hq176
    show own_Run p_ l e_ _ s_ m_ _ b_ mt_ c_ n0 _ h _ _ (mkF m_ 17 #[.val (.int p0), .val (.int (5 : Int32)), .val (.ref oGE), .unset, .unset, .unset] [(.ref sGE)])
    refine own_astoreN C (pc' := 18) (Ls' := #[.val (.int p0), .val (.int (5 : Int32)), .val (.ref oGE), .val (.ref sGE), .unset, .unset]) at_17 rfl rfl rfl ?_
    refine own_aloadN C (pc' := 19) at_18 rfl rfl rfl ?_
    refine own_callV C (pc' := 22) (y := (⟨"java/lang/String", "length", "()I"⟩ : MethodName)) (a := sGE) (argsL := []) (rest := []) 0 q40 (hw _ (List.mem_of_getElem? (i := 15) rfl)) (hw _ (List.mem_of_getElem? (i := 16) rfl)) (hw _ (List.mem_of_getElem? (i := 18) rfl)) (hw _ (List.mem_of_getElem? (i := 17) rfl)) (hw _ (List.mem_of_getElem? (i := 20) rfl)) (hw _ (List.mem_of_getElem? (i := 19) rfl)) (by decide) (own_m3 hw sGE cs vGE 2 fGE (2 : Int32) Z0 q40 q0 q42 q41 q43 (hcs) (by decide)) (by decide) (by decide) (lenOf own_pd7 rfl) rfl (Nat.le_of_eq rfl) at_19 rfl rfl (by decide) (by decide) (fun v177 h178 hq179 => ?_)
    obtain ⟨rfl, rfl⟩ := hq179
    show own_Run p_ l e_ _ s_ m_ _ b_ mt_ c_ n0 _ h _ _ (mkF m_ 22 #[.val (.int p0), .val (.int (5 : Int32)), .val (.ref oGE), .val (.ref sGE), .unset, .unset] [(.int (2 : Int32))])
    refine own_i0_le C (pc1 := 39) (pc2 := 25) at_22 rfl rfl (fun c180 => absurd c180 (by decide)) (fun c180 => ?_)
    refine own_aloadN C (pc' := 26) at_25 rfl rfl rfl ?_
    refine own_iconst C (pc' := 27) (v := (0 : Int32)) at_26 rfl (by decide) ?_
    refine own_callV C (pc' := 30) (y := (⟨"java/lang/String", "charAt", "(I)C"⟩ : MethodName)) (a := sGE) (argsL := [(.int (0 : Int32))]) (rest := []) 0 q40 (hw _ (List.mem_of_getElem? (i := 31) rfl)) (hw _ (List.mem_of_getElem? (i := 32) rfl)) (hw _ (List.mem_of_getElem? (i := 34) rfl)) (hw _ (List.mem_of_getElem? (i := 33) rfl)) (hw _ (List.mem_of_getElem? (i := 35) rfl)) (hw _ (List.mem_of_getElem? (i := 19) rfl)) (by decide) (own_m5 hw sGE cs vGE 2 fGE (0 : Int32) 0 (62 : Int32) (62 : Int32) fm Z0 q40 q0 q42 q41 q43 q1 (hcs) (hfm) (by decide) (by decide) (by decide) (by decide) eGE0 (by decide) (by decide)) (by decide) (by decide) (lenOf own_pd8 rfl) rfl (Nat.le_of_eq rfl) at_27 rfl rfl (by decide) (by decide) (fun v181 h182 hq183 => ?_)
    obtain ⟨rfl, rfl⟩ := hq183
    show own_Run p_ l e_ _ s_ m_ _ b_ mt_ c_ n0 _ h _ _ (mkF m_ 30 #[.val (.int p0), .val (.int (5 : Int32)), .val (.ref oGE), .val (.ref sGE), .unset, .unset] [(.int (62 : Int32))])
    refine own_bipush C (pc' := 32) (v := (62 : Int32)) at_30 rfl (by decide) ?_
    refine own_ii_ne C (pc1 := 39) (pc2 := 35) at_32 rfl rfl (fun c184 => absurd c184 (by decide)) (fun c184 => ?_)
    refine own_iconst C (pc' := 36) (v := (1 : Int32)) at_35 rfl (by decide) ?_
    refine own_goto C (pc' := 40) at_36 rfl ?_
    refine own_istore C (pc' := 42) (Ls' := #[.val (.int p0), .val (.int (5 : Int32)), .val (.ref oGE), .val (.ref sGE), .val (.int (1 : Int32)), .unset]) at_40 rfl rfl ?_
    refine own_aloadN C (pc' := 43) at_42 rfl rfl rfl ?_
    refine own_callV C (pc' := 46) (y := (⟨"com/example/fanoutdb/fanoutdb/cql/Relation$Operator", "isLower", "()Z"⟩ : MethodName)) (a := oGE) (argsL := []) (rest := []) 0 q38 (hw _ (List.mem_of_getElem? (i := 53) rfl)) (hw _ (List.mem_of_getElem? (i := 54) rfl)) (hw _ (List.mem_of_getElem? (i := 56) rfl)) (hw _ (List.mem_of_getElem? (i := 55) rfl)) (hw _ (List.mem_of_getElem? (i := 57) rfl)) (hw _ (List.mem_of_getElem? (i := 6) rfl)) (by decide) (own_isLowerGE hw oGE oGT Z0 q30 q37 (Ne.symm q58) ) (by decide) (by decide) (lenOf own_pd3 rfl) rfl (Nat.le_of_eq rfl) at_43 rfl rfl (by decide) (by decide) (fun v185 h186 hq187 => ?_)
    obtain ⟨rfl, rfl⟩ := hq187
    show own_Run p_ l e_ _ s_ m_ _ b_ mt_ c_ n0 _ h _ _ (mkF m_ 46 #[.val (.int p0), .val (.int (5 : Int32)), .val (.ref oGE), .val (.ref sGE), .val (.int (1 : Int32)), .unset] [(.int (1 : Int32))])
    refine own_istore C (pc' := 48) (Ls' := #[.val (.int p0), .val (.int (5 : Int32)), .val (.ref oGE), .val (.ref sGE), .val (.int (1 : Int32)), .val (.int (1 : Int32))]) at_46 rfl rfl ?_
    refine own_iload C (pc' := 50) at_48 rfl rfl ?_
    refine own_iload C (pc' := 52) at_50 rfl rfl ?_
    refine own_ii_ne C (pc1 := 71) (pc2 := 55) at_52 rfl rfl (fun c188 => absurd c188 (by decide)) (fun c188 => ?_)
    refine own_iload C (pc' := 57) at_55 rfl rfl ?_
    refine own_i0_eq C (pc1 := 67) (pc2 := 60) at_57 rfl rfl (fun c189 => absurd c189 (by decide)) (fun c189 => ?_)
    refine own_aloadN C (pc' := 61) at_60 rfl rfl rfl ?_
    refine own_callV C (pc' := 64) (y := (⟨"com/example/fanoutdb/fanoutdb/cql/Relation$Operator", "isBound", "()Z"⟩ : MethodName)) (a := oGE) (argsL := []) (rest := []) 0 q38 (hw _ (List.mem_of_getElem? (i := 69) rfl)) (hw _ (List.mem_of_getElem? (i := 70) rfl)) (hw _ (List.mem_of_getElem? (i := 72) rfl)) (hw _ (List.mem_of_getElem? (i := 71) rfl)) (hw _ (List.mem_of_getElem? (i := 73) rfl)) (hw _ (List.mem_of_getElem? (i := 6) rfl)) (by decide) (own_isBoundGE hw oGE oLT oLE oGT Z0 q16 q23 q30 q37 (Ne.symm q55) (Ne.symm q57) (Ne.symm q58) ) (by decide) (by decide) (lenOf own_pd3 rfl) rfl (Nat.le_of_eq rfl) at_61 rfl rfl (by decide) (by decide) (fun v190 h191 hq192 => ?_)
    obtain ⟨rfl, rfl⟩ := hq192
    show own_Run p_ l e_ _ s_ m_ _ b_ mt_ c_ n0 _ h _ _ (mkF m_ 64 #[.val (.int p0), .val (.int (5 : Int32)), .val (.ref oGE), .val (.ref sGE), .val (.int (1 : Int32)), .val (.int (1 : Int32))] [(.int (1 : Int32))])
    refine own_i0_eq C (pc1 := 71) (pc2 := 67) at_64 rfl rfl (fun c193 => absurd c193 (by decide)) (fun c193 => ?_)
    refine own_iconst C (pc' := 68) (v := (1 : Int32)) at_67 rfl (by decide) ?_
    refine own_goto C (pc' := 72) at_68 rfl ?_
    exact own_ret C (t := .boolean) rfl rfl (Or.inl ⟨rfl, by simp, _, rfl⟩) at_72 (by decide) (by decide) (rfl)
set_option maxRecDepth 65536 in
set_option maxHeartbeats 40000000 in
theorem own_comes {Post : Tables → Env → Array Value → State → Outcome → State → Prop} (hpost : ∀ tb e args s v u, (limb_1_1.after args s (.returned v) u = true ∧ limb_1_2.after args s (.returned v) u = true ∧ True) → FrameEnd s (.returned v) u (Jvm.fieldLocs frame_1_writes args s ++ Jvm.arrayLocs frame_1_arrays args s ++ Jvm.staticLocs frame_1_statics s) 0 0 → Post tb e args s (.returned v) u) :
    ArmFor flags0 classFile x code maxLocals ret World_1 tables_1 room_1 Calls_1 rest_1 Pre_1 Post := by
  intro l hfl _ _ p e ha hc hk s m args below hf hA hF happ hP
  obtain ⟨hcalls, hrest, hpre⟩ := hP
  obtain ⟨-, -, -, hnamed, -, -, -, hat⟩ := (Spec.applies_iff hf).mp happ
  obtain ⟨hg, hn⟩ := and_e (Cond.before_iff.mp (show (Jvm.Cond.and given_1 narrow_1).before args s = true from hpre))
  obtain ⟨g0, r0⟩ := and_e hg
  obtain ⟨w0, rfl⟩ : ∃ w0 : Value, args = #[w0] := by
    have hs : args.size = 1 := by simpa [Cond.value, given_1] using g0
    obtain ⟨L⟩ := args
    match L, hs with
    | [w0], _ => exact ⟨w0, rfl⟩
  have hw := fun d (hd : d ∈ tables_1) => atoms_spec (ws := Jvm.Cond.code x code maxLocals ret :: tables_1) hat d (List.mem_cons_of_mem _ hd)
  obtain ⟨hsets, hown0⟩ := atoms_of _ (rest_1_c_eq ▸ (show rest_1_c.before _ s = true from hrest))
  have hfit : Fit s := fun {y c} hc i hi => by
      obtain ⟨ha, rfl⟩ := Array.getElem?_eq_some_iff.mp hc
      have q := List.all_eq_true.mp ((Array.all_eq_true_iff_forall_mem.mp hF) _ (Array.getElem_mem ha)) i (List.mem_range.mpr hi)
      simpa [Array.getElem?_eq_getElem hi] using q
  obtain ⟨cs, hcs0⟩ := is_v (Cond.before_iff.mp (hsets _ (List.mem_of_getElem? (i := 1) rfl)))
  have hcs : ¬ cs = 0 := fun e => by
      have n5 := not_v (Cond.before_iff.mp (hsets _ (List.mem_of_getElem? (i := 2) rfl)))
      simp [Cond.value, hcs0, e, Term.int_eval] at n5
  have k0 : Sta s s.heap "java/lang/String" "COMPACT_STRINGS" "Z" (.int cs) := Sta.start hcs0 (Or.inl (hsets _ (List.mem_of_getElem? (i := 0) rfl)))
  obtain ⟨fm, hfm0, hfm⟩ := isR_v (Cond.before_iff.mp (hsets _ (List.mem_of_getElem? (i := 8) rfl)))
  have k1 : Sta s s.heap "jdk/internal/util/Preconditions" "SIOOBE_FORMATTER" "Ljava/util/function/BiFunction;" fm := Sta.start hfm0 (Or.inl (hsets _ (List.mem_of_getElem? (i := 7) rfl)))
  obtain ⟨c0, d0⟩ := and_e hn
  obtain ⟨c1, d1⟩ := and_e d0
  obtain ⟨c2, d2⟩ := and_e d1
  obtain ⟨c3, d3⟩ := and_e d2
  obtain ⟨c4, d4⟩ := and_e d3
  obtain ⟨c5, d5⟩ := and_e d4
  obtain ⟨c6, d6⟩ := and_e d5
  obtain ⟨c7, d7⟩ := and_e d6
  obtain ⟨c8, d8⟩ := and_e d7
  obtain ⟨c9, d9⟩ := and_e d8
  obtain ⟨c10, d10⟩ := and_e d9
  obtain ⟨c11, d11⟩ := and_e d10
  obtain ⟨c12, d12⟩ := and_e d11
  obtain ⟨c13, d13⟩ := and_e d12
  obtain ⟨c14, d14⟩ := and_e d13
  obtain ⟨c15, d15⟩ := and_e d14
  obtain ⟨c16, d16⟩ := and_e d15
  obtain ⟨c17, d17⟩ := and_e d16
  obtain ⟨c18, d18⟩ := and_e d17
  obtain ⟨c19, d19⟩ := and_e d18
  obtain ⟨c20, d20⟩ := and_e d19
  obtain ⟨c21, d21⟩ := and_e d20
  obtain ⟨c22, d22⟩ := and_e d21
  obtain ⟨c23, d23⟩ := and_e d22
  obtain ⟨c24, d24⟩ := and_e d23
  obtain ⟨c25, d25⟩ := and_e d24
  obtain ⟨c26, d26⟩ := and_e d25
  obtain ⟨c27, d27⟩ := and_e d26
  obtain ⟨c28, d28⟩ := and_e d27
  obtain ⟨c29, d29⟩ := and_e d28
  obtain ⟨c30, d30⟩ := and_e d29
  obtain ⟨c31, d31⟩ := and_e d30
  obtain ⟨c32, d32⟩ := and_e d31
  obtain ⟨c33, d33⟩ := and_e d32
  obtain ⟨c34, d34⟩ := and_e d33
  obtain ⟨c35, d35⟩ := and_e d34
  obtain ⟨c36, d36⟩ := and_e d35
  obtain ⟨c37, d37⟩ := and_e d36
  obtain ⟨c38, d38⟩ := and_e d37
  obtain ⟨c39, d39⟩ := and_e d38
  obtain ⟨c40, d40⟩ := and_e d39
  obtain ⟨c41, d41⟩ := and_e d40
  obtain ⟨c42, d42⟩ := and_e d41
  obtain ⟨c43, d43⟩ := and_e d42
  obtain ⟨oEQ, eoEQ⟩ := exa_v c0
  obtain ⟨sEQ, esEQ⟩ := exa_v c1
  obtain ⟨vEQ, evEQ⟩ := arr_v c2
  obtain ⟨lEQ, AEQ, VEQ⟩ := own_str (n := 1) hfit evEQ c2 c3 (by decide)
  have eEQ0 := own_el AEQ evEQ c5 0 rfl
  have orEQ : Fld s s.heap oEQ "java/lang/Enum" "ordinal" "I" (.int (0 : Int32)) := Fld.start ((fld_at eoEQ).symm.trans (own_eqI c7))
  obtain ⟨oNE, eoNE⟩ := exa_v c25
  obtain ⟨sNE, esNE⟩ := exa_v c26
  obtain ⟨vNE, evNE⟩ := arr_v c27
  obtain ⟨lNE, ANE, VNE⟩ := own_str (n := 2) hfit evNE c27 c28 (by decide)
  have eNE0 := own_el ANE evNE c30 0 rfl
  have eNE1 := own_el ANE evNE c43 1 rfl
  have orNE : Fld s s.heap oNE "java/lang/Enum" "ordinal" "I" (.int (1 : Int32)) := Fld.start ((fld_at eoNE).symm.trans (own_eqI c31))
  obtain ⟨oLT, eoLT⟩ := exa_v c18
  obtain ⟨sLT, esLT⟩ := exa_v c19
  obtain ⟨vLT, evLT⟩ := arr_v c20
  obtain ⟨lLT, ALT, VLT⟩ := own_str (n := 1) hfit evLT c20 c21 (by decide)
  have eLT0 := own_el ALT evLT c23 0 rfl
  have orLT : Fld s s.heap oLT "java/lang/Enum" "ordinal" "I" (.int (2 : Int32)) := Fld.start ((fld_at eoLT).symm.trans (own_eqI c24))
  obtain ⟨oLE, eoLE⟩ := exa_v c11
  obtain ⟨sLE, esLE⟩ := exa_v c12
  obtain ⟨vLE, evLE⟩ := arr_v c13
  obtain ⟨lLE, ALE, VLE⟩ := own_str (n := 2) hfit evLE c13 c14 (by decide)
  have eLE0 := own_el ALE evLE c16 0 rfl
  have eLE1 := own_el ALE evLE c42 1 rfl
  have orLE : Fld s s.heap oLE "java/lang/Enum" "ordinal" "I" (.int (3 : Int32)) := Fld.start ((fld_at eoLE).symm.trans (own_eqI c17))
  obtain ⟨oGT, eoGT⟩ := exa_v c6
  obtain ⟨sGT, esGT⟩ := exa_v c37
  obtain ⟨vGT, evGT⟩ := arr_v c38
  obtain ⟨lGT, AGT, VGT⟩ := own_str (n := 1) hfit evGT c38 c39 (by decide)
  have eGT0 := own_el AGT evGT c41 0 rfl
  have orGT : Fld s s.heap oGT "java/lang/Enum" "ordinal" "I" (.int (4 : Int32)) := Fld.start ((fld_at eoGT).symm.trans (own_eqI c8))
  obtain ⟨oGE, eoGE⟩ := exa_v c9
  obtain ⟨sGE, esGE⟩ := exa_v c32
  obtain ⟨vGE, evGE⟩ := arr_v c33
  obtain ⟨lGE, AGE, VGE⟩ := own_str (n := 2) hfit evGE c33 c34 (by decide)
  have eGE0 := own_el AGE evGE c36 0 rfl
  have eGE1 := own_el AGE evGE d43 1 rfl
  have orGE : Fld s s.heap oGE "java/lang/Enum" "ordinal" "I" (.int (5 : Int32)) := Fld.start ((fld_at eoGE).symm.trans (own_eqI c10))
  obtain ⟨i0, ei0⟩ := is_v r0
  obtain rfl : w0 = (.int i0) := Option.some.inj ei0
  obtain ⟨n, o, h1, h2, h3, _, L, rfl, ⟨N, rfl⟩, hq⟩ := own_law (l := l) (Z := s) hw (n0 := s.heap.size) (ws := tables_1) (h := s.heap) i0 (Nat.le_refl _) cs fm oEQ sEQ vEQ (own_at lEQ) oNE sNE vNE (own_at lNE) oLT sLT vLT (own_at lLT) oLE sLE vLE (own_at lLE) oGT sGT vGT (own_at lGT) oGE sGE vGE (own_at lGE) hcs hfm eEQ0 eNE0 eNE1 eLT0 eLE0 eLE1 eGT0 eGE0 eGE1 k0 k1 (Sta.start eoEQ (Or.inr ⟨hw _ (List.mem_of_getElem? (i := 6) rfl), hw _ (List.mem_of_getElem? (i := 7) rfl)⟩)) (Exa.start eoEQ c0) (Fld.start ((fld_at eoEQ).symm.trans esEQ)) (Exa.start esEQ c1) (Fld.start ((fld_at esEQ).symm.trans evEQ)) (Fld.start ((fld_at esEQ).symm.trans (own_eqI c4))) VEQ (Sta.start eoNE (Or.inr ⟨hw _ (List.mem_of_getElem? (i := 6) rfl), hw _ (List.mem_of_getElem? (i := 67) rfl)⟩)) (Exa.start eoNE c25) (Fld.start ((fld_at eoNE).symm.trans esNE)) (Exa.start esNE c26) (Fld.start ((fld_at esNE).symm.trans evNE)) (Fld.start ((fld_at esNE).symm.trans (own_eqI c29))) VNE (Sta.start eoLT (Or.inr ⟨hw _ (List.mem_of_getElem? (i := 6) rfl), hw _ (List.mem_of_getElem? (i := 65) rfl)⟩)) (Exa.start eoLT c18) (Fld.start ((fld_at eoLT).symm.trans esLT)) (Exa.start esLT c19) (Fld.start ((fld_at esLT).symm.trans evLT)) (Fld.start ((fld_at esLT).symm.trans (own_eqI c22))) VLT (Sta.start eoLE (Or.inr ⟨hw _ (List.mem_of_getElem? (i := 6) rfl), hw _ (List.mem_of_getElem? (i := 63) rfl)⟩)) (Exa.start eoLE c11) (Fld.start ((fld_at eoLE).symm.trans esLE)) (Exa.start esLE c12) (Fld.start ((fld_at esLE).symm.trans evLE)) (Fld.start ((fld_at esLE).symm.trans (own_eqI c15))) VLE (Sta.start eoGT (Or.inr ⟨hw _ (List.mem_of_getElem? (i := 6) rfl), hw _ (List.mem_of_getElem? (i := 59) rfl)⟩)) (Exa.start eoGT c6) (Fld.start ((fld_at eoGT).symm.trans esGT)) (Exa.start esGT c37) (Fld.start ((fld_at esGT).symm.trans evGT)) (Fld.start ((fld_at esGT).symm.trans (own_eqI c40))) VGT (Sta.start eoGE (Or.inr ⟨hw _ (List.mem_of_getElem? (i := 6) rfl), hw _ (List.mem_of_getElem? (i := 61) rfl)⟩)) (Exa.start eoGE c9) (Fld.start ((fld_at eoGE).symm.trans esGE)) (Exa.start esGE c32) (Fld.start ((fld_at esGE).symm.trans evGE)) (Fld.start ((fld_at esGE).symm.trans (own_eqI c35))) VGE (Fld.ne orEQ orNE (by decide)) (Fld.ne orEQ orLT (by decide)) (Fld.ne orEQ orLE (by decide)) (Fld.ne orEQ orGT (by decide)) (Fld.ne orEQ orGE (by decide)) (Fld.ne orNE orLT (by decide)) (Fld.ne orNE orLE (by decide)) (Fld.ne orNE orGT (by decide)) (Fld.ne orNE orGE (by decide)) (Fld.ne orLT orLE (by decide)) (Fld.ne orLT orGT (by decide)) (Fld.ne orLT orGE (by decide)) (Fld.ne orLE orGT (by decide)) (Fld.ne orLE orGE (by decide)) (Fld.ne orGT orGE (by decide)) p e ha hc hk s m _ below hf ((Spec.applies_iff_loose hf).mp happ).1 ⟨rfl, State.Warmed39.refl s, rfl⟩ trivial
  refine ⟨n, _, h1, h2, h3, hpost _ _ _ _ _ _ ⟨Cond.after_iff.mpr rfl, Cond.after_iff.mpr (eq_i res_at (Term.int_eval (1)) rfl), trivial⟩ ⟨hq.1, hq.2.1, (hq.2.2.sift fun y hy => Or.inr (N y hy)).mono (by decide) (by decide)⟩⟩
theorem main_1_1 : Claimed_1_1 := own_comes fun _ _ _ _ _ _ h hF => ⟨h.1, hF⟩
theorem main_1_2 : Claimed_1_2 := own_comes fun _ _ _ _ _ _ h hF => ⟨h.2.1, hF⟩
end Jvm.Pilot.@@N@@
namespace Jvm.Pilot.@@N@@
open Jvm Jvm.ClassFile Sem Op Lib Jvm.Free Jvm.Stand Jvm.Pilot.@@N@@.Jvm.D
/-! MADE BY PROGRAM (witnessworld.py) out of the Statement's table words and the real class files: 18 classes; the members and pool entries that the words name. The judged class is class 1, her method 2. -/
namespace start1
open Jvm.ClassFile
def u (s : String) : CpInfo := .utf8 (stringToUtf16 s)
/-- a pool by its gaps: so many unusable entries, then the entry; so many at the end -/
def gap : Nat → List CpInfo → List CpInfo
  | 0, r => r
  | n + 1, r => .unusable :: gap n r
def poolList (es : List (Nat × CpInfo)) (last : Nat) : List CpInfo := es.foldr (fun e r => gap e.1 (e.2 :: r)) (gap last [])
def pool (es : List (Nat × CpInfo)) (last : Nat) : Array CpInfo := ⟨poolList es last⟩
def fileOf (pool : Array CpInfo) (this : Nat) (attrs : Array Attribute := #[]) (ms : Array MethodInfo := #[]) (fl : Nat := 33) (sup : Nat := 0) (ifs : Array Nat := #[]) (fds : Array FieldInfo := #[]) : ClassFile where
  minorVersion := 0
  majorVersion := 65
  constantPool := pool
  accessFlags := fl
  thisClass := this
  superClass := sup
  interfaces := ifs
  fields := fds
  methods := ms
  attributes := attrs
def plain (name : String) (sup : Option ClassId) : Class where
  name := name
  kind := .ordinary
  loader := none
  accessFlags := 33
  super := sup
  interfaces := #[]
  cf := none
  fields := #[]
  methods := #[]
  instanceTypes := #[]
  staticTypes := #[]
  resolved := #[]
  callSites := []
  init := .initialized
  statics := none
  mirror := none

def pool0 : Array CpInfo := pool [(5, u "<init>"), (0, u "()V"), (1, .class_ 10), (1, u "java/lang/Object")] 113

def k0m0 : Method := { name := "<init>", desc := "()V", sig := { parameters := [], returnType := none }, accessFlags := 1, code := none }
/-- java/lang/Object -/
def k0 : Class := { plain "java/lang/Object" none with
  accessFlags := 33
  interfaces := #[]
  cf := some (fileOf pool0 8 #[] #[{ accessFlags := 1, nameIndex := 5, descriptorIndex := 6, attributes := #[] }] 33 0 #[] #[])
  fields := #[]
  methods := #[k0m0]
  instanceTypes := #[]
  staticTypes := #[]
  resolved := Array.replicate 124 none
  statics := none }

def pool1 : Array CpInfo := pool [(2, .class_ 4), (1, u "java/lang/Object"), (0, u "<init>"), (0, u "()V"), (0, .fieldref 8 9), (0, .class_ 10), (0, .nameAndType 11 12), (0, u "com/example/fanoutdb/fanoutdb/cql/Relation$Operator"), (0, u "EQ"), (0, u "Lcom/example/fanoutdb/fanoutdb/cql/Relation$Operator;"), (0, .fieldref 8 14), (0, .nameAndType 15 12), (0, u "NE"), (0, .fieldref 8 17), (0, .nameAndType 18 12), (0, u "LT"), (0, .fieldref 8 20), (0, .nameAndType 21 12), (0, u "LE"), (0, .fieldref 8 23), (0, .nameAndType 24 12), (0, u "GT"), (0, .fieldref 8 26), (0, .nameAndType 27 12), (0, u "GE"), (0, .integer 2147483647), (0, .methodref 30 31), (0, .class_ 32), (0, .nameAndType 33 34), (0, u "com/example/fanoutdb/fanoutdb/cql/OperatorIsLowerPinLaw"), (0, u "pick"), (0, u "(I)Lcom/example/fanoutdb/fanoutdb/cql/Relation$Operator;"), (0, .methodref 8 36), (0, .nameAndType 37 38), (0, u "toString"), (0, u "()Ljava/lang/String;"), (0, .methodref 40 41), (0, .class_ 42), (0, .nameAndType 43 44), (0, u "java/lang/String"), (0, u "length"), (0, u "()I"), (0, .methodref 40 46), (0, .nameAndType 47 48), (0, u "charAt"), (0, u "(I)C"), (0, .methodref 8 50), (0, .nameAndType 51 52), (0, u "isLower"), (0, u "()Z"), (0, .methodref 8 54), (0, .nameAndType 55 52), (0, u "isBound"), (3, u "law"), (0, u "(I)Z")] 6

def k1m0 : Method := { name := "<init>", desc := "()V", sig := { parameters := [], returnType := none }, accessFlags := 1, code := none }
def k1c1 : Code := { maxStack := 2, maxLocals := 2, code := method_2_code, exceptionTable := #[], attributes := #[] }
def k1m1 : Method := { name := "pick", desc := "(I)Lcom/example/fanoutdb/fanoutdb/cql/Relation$Operator;", sig := { parameters := [.int], returnType := some (.object "com/example/fanoutdb/fanoutdb/cql/Relation$Operator") }, accessFlags := 10, code := some k1c1 }
def k1c2 : Code := { maxStack := 2, maxLocals := 6, code := code, exceptionTable := #[], attributes := #[] }
def k1m2 : Method := { name := "law", desc := "(I)Z", sig := { parameters := [.int], returnType := some .boolean }, accessFlags := 9, code := some k1c2 }
/-- com/example/fanoutdb/fanoutdb/cql/OperatorIsLowerPinLaw -/
def k1 : Class := { plain "com/example/fanoutdb/fanoutdb/cql/OperatorIsLowerPinLaw" (some 0) with
  accessFlags := 49
  interfaces := #[]
  cf := some (fileOf pool1 30 #[] #[{ accessFlags := 1, nameIndex := 5, descriptorIndex := 6, attributes := #[] }, { accessFlags := 10, nameIndex := 33, descriptorIndex := 34, attributes := #[] }, { accessFlags := 9, nameIndex := 59, descriptorIndex := 60, attributes := #[] }] 49 2 #[] #[])
  fields := #[]
  methods := #[k1m0, k1m1, k1m2]
  instanceTypes := #[]
  staticTypes := #[]
  resolved := Array.replicate 67 none
  statics := none }

def pool2 : Array CpInfo := pool [(1, .class_ 2), (0, u "java/lang/constant/Constable"), (0, .class_ 4), (0, u "java/lang/Object")] 6

/-- java/lang/constant/Constable -/
def k2 : Class := { plain "java/lang/constant/Constable" (some 0) with
  accessFlags := 1537
  interfaces := #[]
  cf := some (fileOf pool2 1 #[] #[] 1537 3 #[] #[])
  fields := #[]
  methods := #[]
  instanceTypes := #[]
  staticTypes := #[]
  resolved := Array.replicate 11 none
  statics := none }

def pool3 : Array CpInfo := pool [(1, .class_ 2), (0, u "java/lang/Comparable"), (0, .class_ 4), (0, u "java/lang/Object")] 7

/-- java/lang/Comparable -/
def k3 : Class := { plain "java/lang/Comparable" (some 0) with
  accessFlags := 1537
  interfaces := #[]
  cf := some (fileOf pool3 1 #[] #[] 1537 3 #[] #[])
  fields := #[]
  methods := #[]
  instanceTypes := #[]
  staticTypes := #[]
  resolved := Array.replicate 12 none
  statics := none }

def pool4 : Array CpInfo := pool [(1, .class_ 2), (0, u "java/io/Serializable"), (0, .class_ 4), (0, u "java/lang/Object")] 2

/-- java/io/Serializable -/
def k4 : Class := { plain "java/io/Serializable" (some 0) with
  accessFlags := 1537
  interfaces := #[]
  cf := some (fileOf pool4 1 #[] #[] 1537 3 #[] #[])
  fields := #[]
  methods := #[]
  instanceTypes := #[]
  staticTypes := #[]
  resolved := Array.replicate 7 none
  statics := none }

def pool5 : Array CpInfo := pool [(2, .class_ 4), (1, u "java/lang/Enum"), (0, u "name"), (0, u "Ljava/lang/String;"), (2, u "ordinal"), (0, u "I"), (1, .class_ 14), (1, u "java/lang/Object"), (4, u "hash"), (86, .class_ 108), (1, u "java/lang/Enum$EnumDesc"), (2, .class_ 112), (0, u "java/lang/constant/Constable"), (0, .class_ 114), (0, u "java/lang/Comparable"), (0, .class_ 116), (0, u "java/io/Serializable")] 87

/-- java/lang/Enum -/
def k5 : Class := { plain "java/lang/Enum" (some 0) with
  accessFlags := 1057
  interfaces := #[2, 3, 4]
  cf := some (fileOf pool5 2 #[.nestMembers #[106]] #[] 1057 12 #[111, 113, 115] #[{ accessFlags := 18, nameIndex := 5, descriptorIndex := 6, attributes := #[] }, { accessFlags := 18, nameIndex := 9, descriptorIndex := 10, attributes := #[] }, { accessFlags := 2, nameIndex := 19, descriptorIndex := 10, attributes := #[] }])
  fields := #[{ name := "name", type := (.object "java/lang/String"), accessFlags := 18, slot := 0, constantValue := 0 }, { name := "ordinal", type := .int, accessFlags := 18, slot := 1, constantValue := 0 }, { name := "hash", type := .int, accessFlags := 2, slot := 2, constantValue := 0 }]
  methods := #[]
  instanceTypes := #[(.object "java/lang/String"), .int, .int]
  staticTypes := #[]
  resolved := Array.replicate 204 none
  statics := none }

def pool6 : Array CpInfo := pool [(1, .class_ 2), (0, u "com/example/fanoutdb/fanoutdb/cql/Relation$Operator"), (2, u "EQ"), (0, u "Lcom/example/fanoutdb/fanoutdb/cql/Relation$Operator;"), (2, u "NE"), (0, .fieldref 1 11), (0, .nameAndType 12 6), (0, u "LT"), (0, .fieldref 1 14), (0, .nameAndType 15 6), (0, u "LE"), (0, .fieldref 1 17), (0, .nameAndType 18 6), (0, u "GT"), (0, .fieldref 1 20), (0, .nameAndType 21 6), (0, u "GE"), (2, u "$VALUES"), (0, u "[Lcom/example/fanoutdb/fanoutdb/cql/Relation$Operator;"), (6, .class_ 34), (1, u "java/lang/Enum"), (6, .fieldref 1 42), (0, .nameAndType 43 44), (0, u "symbol"), (0, u "Ljava/lang/String;"), (42, u "isBound"), (0, u "()Z"), (0, u "isLower"), (1, u "toString"), (0, u "()Ljava/lang/String;"), (6, .class_ 100), (0, u "com/example/fanoutdb/fanoutdb/cql/Relation")] 2

def k6c0 : Code := { maxStack := 2, maxLocals := 1, code := prog_40_method_5_code, exceptionTable := #[], attributes := #[] }
def k6m0 : Method := { name := "isBound", desc := "()Z", sig := { parameters := [], returnType := some .boolean }, accessFlags := 1, code := some k6c0 }
def k6c1 : Code := { maxStack := 2, maxLocals := 1, code := prog_40_method_6_code, exceptionTable := #[], attributes := #[] }
def k6m1 : Method := { name := "isLower", desc := "()Z", sig := { parameters := [], returnType := some .boolean }, accessFlags := 1, code := some k6c1 }
def k6c2 : Code := { maxStack := 1, maxLocals := 1, code := prog_40_method_8_code, exceptionTable := #[], attributes := #[] }
def k6m2 : Method := { name := "toString", desc := "()Ljava/lang/String;", sig := { parameters := [], returnType := some (.object "java/lang/String") }, accessFlags := 1, code := some k6c2 }
/-- com/example/fanoutdb/fanoutdb/cql/Relation$Operator -/
def k6 : Class := { plain "com/example/fanoutdb/fanoutdb/cql/Relation$Operator" (some 5) with
  accessFlags := 16433
  interfaces := #[]
  cf := some (fileOf pool6 1 #[.nestHost 99] #[{ accessFlags := 1, nameIndex := 87, descriptorIndex := 88, attributes := #[] }, { accessFlags := 1, nameIndex := 89, descriptorIndex := 88, attributes := #[] }, { accessFlags := 1, nameIndex := 91, descriptorIndex := 92, attributes := #[] }] 16433 32 #[] #[{ accessFlags := 16409, nameIndex := 5, descriptorIndex := 6, attributes := #[] }, { accessFlags := 16409, nameIndex := 9, descriptorIndex := 6, attributes := #[] }, { accessFlags := 16409, nameIndex := 12, descriptorIndex := 6, attributes := #[] }, { accessFlags := 16409, nameIndex := 15, descriptorIndex := 6, attributes := #[] }, { accessFlags := 16409, nameIndex := 18, descriptorIndex := 6, attributes := #[] }, { accessFlags := 16409, nameIndex := 21, descriptorIndex := 6, attributes := #[] }, { accessFlags := 18, nameIndex := 43, descriptorIndex := 44, attributes := #[] }, { accessFlags := 4122, nameIndex := 24, descriptorIndex := 25, attributes := #[] }])
  fields := #[{ name := "EQ", type := (.object "com/example/fanoutdb/fanoutdb/cql/Relation$Operator"), accessFlags := 16409, slot := 0, constantValue := 0 }, { name := "NE", type := (.object "com/example/fanoutdb/fanoutdb/cql/Relation$Operator"), accessFlags := 16409, slot := 1, constantValue := 0 }, { name := "LT", type := (.object "com/example/fanoutdb/fanoutdb/cql/Relation$Operator"), accessFlags := 16409, slot := 2, constantValue := 0 }, { name := "LE", type := (.object "com/example/fanoutdb/fanoutdb/cql/Relation$Operator"), accessFlags := 16409, slot := 3, constantValue := 0 }, { name := "GT", type := (.object "com/example/fanoutdb/fanoutdb/cql/Relation$Operator"), accessFlags := 16409, slot := 4, constantValue := 0 }, { name := "GE", type := (.object "com/example/fanoutdb/fanoutdb/cql/Relation$Operator"), accessFlags := 16409, slot := 5, constantValue := 0 }, { name := "symbol", type := (.object "java/lang/String"), accessFlags := 18, slot := 3, constantValue := 0 }, { name := "$VALUES", type := (.array (.object "com/example/fanoutdb/fanoutdb/cql/Relation$Operator")), accessFlags := 4122, slot := 6, constantValue := 0 }]
  methods := #[k6m0, k6m1, k6m2]
  instanceTypes := #[(.object "java/lang/String"), .int, .int, (.object "java/lang/String")]
  staticTypes := #[(.object "com/example/fanoutdb/fanoutdb/cql/Relation$Operator"), (.object "com/example/fanoutdb/fanoutdb/cql/Relation$Operator"), (.object "com/example/fanoutdb/fanoutdb/cql/Relation$Operator"), (.object "com/example/fanoutdb/fanoutdb/cql/Relation$Operator"), (.object "com/example/fanoutdb/fanoutdb/cql/Relation$Operator"), (.object "com/example/fanoutdb/fanoutdb/cql/Relation$Operator"), (.array (.object "com/example/fanoutdb/fanoutdb/cql/Relation$Operator"))]
  resolved := Array.replicate 103 none
  statics := some 0 }

def pool7 : Array CpInfo := pool [(2, .class_ 4), (1, u "java/lang/CharSequence"), (42, .class_ 48), (0, u "java/lang/CharSequence$1CodePointIterator"), (10, .class_ 60), (0, u "java/lang/CharSequence$1CharIterator"), (5, .class_ 67), (0, u "java/lang/Object")] 63

/-- java/lang/CharSequence -/
def k7 : Class := { plain "java/lang/CharSequence" (some 0) with
  accessFlags := 1537
  interfaces := #[]
  cf := some (fileOf pool7 2 #[.nestMembers #[47, 59]] #[] 1537 66 #[] #[])
  fields := #[]
  methods := #[]
  instanceTypes := #[]
  staticTypes := #[]
  resolved := Array.replicate 131 none
  statics := none }

def pool8 : Array CpInfo := pool [(1, .class_ 2), (0, u "java/lang/constant/ConstantDesc"), (0, .class_ 4), (0, u "java/lang/Object")] 32

/-- java/lang/constant/ConstantDesc -/
def k8 : Class := { plain "java/lang/constant/ConstantDesc" (some 0) with
  accessFlags := 1537
  interfaces := #[]
  cf := some (fileOf pool8 1 #[] #[] 1537 3 #[] #[])
  fields := #[]
  methods := #[]
  instanceTypes := #[]
  staticTypes := #[]
  resolved := Array.replicate 37 none
  statics := none }

def pool9 : Array CpInfo := pool [(2, .class_ 4), (1, u "java/lang/Object"), (0, u "<init>"), (0, u "()V"), (2, .fieldref 10 11), (0, .class_ 12), (0, .nameAndType 13 14), (0, u "java/lang/String"), (0, u "value"), (0, u "[B"), (0, .fieldref 10 16), (0, .nameAndType 17 18), (0, u "coder"), (0, u "B"), (2, u "hash"), (0, u "I"), (2, u "hashIsZero"), (0, u "Z"), (11, .fieldref 10 39), (0, .nameAndType 40 26), (0, u "COMPACT_STRINGS"), (66, .class_ 109), (1, u "java/lang/StringLatin1"), (32, u "()Z"), (191, u "()I"), (0, .methodref 10 336), (0, .nameAndType 17 337), (0, u "()B"), (25, u "([BI)C"), (27, u "(II)V"), (35, u "(I)C"), (64, .methodref 10 493), (0, .nameAndType 494 142), (0, u "isLatin1"), (0, .methodref 107 496), (0, .nameAndType 497 363), (0, u "charAt"), (3, u "checkIndex"), (5, u "length"), (67, .class_ 576), (0, u "java/lang/CharSequence"), (22, u "CASE_INSENSITIVE_ORDER"), (0, u "Ljava/util/Comparator;"), (452, .fieldref 1054 1055), (0, .class_ 1056), (0, .nameAndType 1057 1058), (0, u "jdk/internal/util/Preconditions"), (0, u "SIOOBE_FORMATTER"), (0, u "Ljava/util/function/BiFunction;"), (0, .methodref 1054 1060), (0, .nameAndType 501 1061), (0, u "(IILjava/util/function/BiFunction;)I"), (39, u "serialPersistentFields"), (0, u "[Ljava/io/ObjectStreamField;"), (0, .class_ 1104), (0, u "java/lang/String$CaseInsensitiveComparator"), (1, .class_ 1107), (0, u "java/io/Serializable"), (0, .class_ 1109), (0, u "java/lang/Comparable"), (0, .class_ 1111), (0, u "java/lang/constant/Constable"), (0, .class_ 1113), (0, u "java/lang/constant/ConstantDesc"), (2, u "serialVersionUID"), (0, u "J"), (3, u "REPL"), (0, u "C"), (2, u "LATIN1"), (1, u "UTF16")] 323

def k9m0 : Method := { name := "<init>", desc := "()V", sig := { parameters := [], returnType := none }, accessFlags := 1, code := none }
def k9c1 : Code := { maxStack := 2, maxLocals := 1, code := jdk_42_method_54_code, exceptionTable := #[], attributes := #[] }
def k9m1 : Method := { name := "length", desc := "()I", sig := { parameters := [], returnType := some .int }, accessFlags := 1, code := some k9c1 }
def k9c2 : Code := { maxStack := 2, maxLocals := 2, code := jdk_42_method_56_code, exceptionTable := #[], attributes := #[] }
def k9m2 : Method := { name := "charAt", desc := "(I)C", sig := { parameters := [.int], returnType := some .char }, accessFlags := 1, code := some k9c2 }
def k9c3 : Code := { maxStack := 1, maxLocals := 1, code := jdk_42_method_152_code, exceptionTable := #[], attributes := #[] }
def k9m3 : Method := { name := "coder", desc := "()B", sig := { parameters := [], returnType := some .byte }, accessFlags := 0, code := some k9c3 }
def k9c4 : Code := { maxStack := 1, maxLocals := 1, code := jdk_42_method_154_code, exceptionTable := #[], attributes := #[] }
def k9m4 : Method := { name := "isLatin1", desc := "()Z", sig := { parameters := [], returnType := some .boolean }, accessFlags := 0, code := some k9c4 }
def k9c5 : Code := { maxStack := 3, maxLocals := 2, code := jdk_42_method_155_code, exceptionTable := #[], attributes := #[] }
def k9m5 : Method := { name := "checkIndex", desc := "(II)V", sig := { parameters := [.int, .int], returnType := none }, accessFlags := 8, code := some k9c5 }
/-- java/lang/String -/
def k9 : Class := { plain "java/lang/String" (some 0) with
  accessFlags := 49
  interfaces := #[4, 3, 7, 2, 8]
  cf := some (fileOf pool9 10 #[.nestMembers #[1103]] #[{ accessFlags := 1, nameIndex := 5, descriptorIndex := 6, attributes := #[] }, { accessFlags := 1, nameIndex := 507, descriptorIndex := 334, attributes := #[] }, { accessFlags := 1, nameIndex := 497, descriptorIndex := 427, attributes := #[] }, { accessFlags := 0, nameIndex := 17, descriptorIndex := 337, attributes := #[] }, { accessFlags := 0, nameIndex := 494, descriptorIndex := 142, attributes := #[] }, { accessFlags := 8, nameIndex := 501, descriptorIndex := 391, attributes := #[] }] 49 2 #[1106, 1108, 575, 1110, 1112] #[{ accessFlags := 18, nameIndex := 13, descriptorIndex := 14, attributes := #[] }, { accessFlags := 18, nameIndex := 17, descriptorIndex := 18, attributes := #[] }, { accessFlags := 2, nameIndex := 21, descriptorIndex := 22, attributes := #[] }, { accessFlags := 2, nameIndex := 25, descriptorIndex := 26, attributes := #[] }, { accessFlags := 26, nameIndex := 1116, descriptorIndex := 1117, attributes := #[] }, { accessFlags := 24, nameIndex := 40, descriptorIndex := 26, attributes := #[] }, { accessFlags := 26, nameIndex := 1101, descriptorIndex := 1102, attributes := #[] }, { accessFlags := 26, nameIndex := 1121, descriptorIndex := 1122, attributes := #[] }, { accessFlags := 25, nameIndex := 599, descriptorIndex := 600, attributes := #[] }, { accessFlags := 24, nameIndex := 1125, descriptorIndex := 18, attributes := #[] }, { accessFlags := 24, nameIndex := 1127, descriptorIndex := 18, attributes := #[] }])
  fields := #[{ name := "value", type := (.array .byte), accessFlags := 18, slot := 0, constantValue := 0 }, { name := "coder", type := .byte, accessFlags := 18, slot := 1, constantValue := 0 }, { name := "hash", type := .int, accessFlags := 2, slot := 2, constantValue := 0 }, { name := "hashIsZero", type := .boolean, accessFlags := 2, slot := 3, constantValue := 0 }, { name := "serialVersionUID", type := .long, accessFlags := 26, slot := 0, constantValue := 0 }, { name := "COMPACT_STRINGS", type := .boolean, accessFlags := 24, slot := 1, constantValue := 0 }, { name := "serialPersistentFields", type := (.array (.object "java/io/ObjectStreamField")), accessFlags := 26, slot := 2, constantValue := 0 }, { name := "REPL", type := .char, accessFlags := 26, slot := 3, constantValue := 0 }, { name := "CASE_INSENSITIVE_ORDER", type := (.object "java/util/Comparator"), accessFlags := 25, slot := 4, constantValue := 0 }, { name := "LATIN1", type := .byte, accessFlags := 24, slot := 5, constantValue := 0 }, { name := "UTF16", type := .byte, accessFlags := 24, slot := 6, constantValue := 0 }]
  methods := #[k9m0, k9m1, k9m2, k9m3, k9m4, k9m5]
  instanceTypes := #[(.array .byte), .byte, .int, .boolean]
  staticTypes := #[.long, .boolean, (.array (.object "java/io/ObjectStreamField")), .char, (.object "java/util/Comparator"), .byte, .byte]
  resolved := Array.replicate 1451 none
  statics := some 1 }

def pool10 : Array CpInfo := pool [(1, .class_ 2), (0, u "java/lang/String"), (1, .class_ 6), (1, u "java/lang/Object"), (0, u "<init>"), (0, u "()V"), (0, .methodref 1 10), (0, .nameAndType 11 12), (0, u "checkIndex"), (0, u "(II)V"), (1, .class_ 16), (1, u "java/lang/StringLatin1"), (36, u "([BI)C"), (67, u "$assertionsDisabled"), (0, u "Z"), (98, .class_ 223), (1, u "java/lang/StringLatin1$LinesSpliterator"), (28, u "charAt"), (137, .class_ 391), (0, u "java/lang/StringLatin1$CharsSpliterator")] 3

def k10m0 : Method := { name := "<init>", desc := "()V", sig := { parameters := [], returnType := none }, accessFlags := 0, code := none }
def k10c1 : Code := { maxStack := 2, maxLocals := 2, code := jdk_43_method_2_code, exceptionTable := #[], attributes := #[] }
def k10m1 : Method := { name := "charAt", desc := "([BI)C", sig := { parameters := [(.array .byte), .int], returnType := some .char }, accessFlags := 9, code := some k10c1 }
/-- java/lang/StringLatin1 -/
def k10 : Class := { plain "java/lang/StringLatin1" (some 0) with
  accessFlags := 48
  interfaces := #[]
  cf := some (fileOf pool10 14 #[.nestMembers #[390, 221]] #[{ accessFlags := 0, nameIndex := 7, descriptorIndex := 8, attributes := #[] }, { accessFlags := 9, nameIndex := 252, descriptorIndex := 53, attributes := #[] }] 48 4 #[] #[{ accessFlags := 4120, nameIndex := 121, descriptorIndex := 122, attributes := #[] }])
  fields := #[{ name := "$assertionsDisabled", type := .boolean, accessFlags := 4120, slot := 0, constantValue := 0 }]
  methods := #[k10m0, k10m1]
  instanceTypes := #[]
  staticTypes := #[.boolean]
  resolved := Array.replicate 395 none
  statics := none }

def pool11 : Array CpInfo := pool [(2, .class_ 4), (1, u "java/lang/Object"), (0, u "<init>"), (0, u "()V"), (17, .class_ 26), (1, u "jdk/internal/util/Preconditions"), (6, u "checkIndex"), (21, .class_ 56), (0, u "jdk/internal/util/Preconditions$4"), (57, .class_ 115), (0, u "jdk/internal/util/Preconditions$1"), (7, u "SIOOBE_FORMATTER"), (0, u "Ljava/util/function/BiFunction;"), (0, .class_ 126), (0, u "jdk/internal/util/Preconditions$2"), (3, u "AIOOBE_FORMATTER"), (0, .class_ 132), (0, u "jdk/internal/util/Preconditions$3"), (3, u "IOOBE_FORMATTER"), (41, u "(IILjava/util/function/BiFunction;)I")] 15

def k11m0 : Method := { name := "<init>", desc := "()V", sig := { parameters := [], returnType := none }, accessFlags := 1, code := none }
def k11c1 : Code := { maxStack := 3, maxLocals := 3, code := jdk_41_method_11_code, exceptionTable := #[], attributes := #[] }
def k11m1 : Method := { name := "checkIndex", desc := "(IILjava/util/function/BiFunction;)I", sig := { parameters := [.int, .int, (.object "java/util/function/BiFunction")], returnType := some .int }, accessFlags := 9, code := some k11c1 }
/-- jdk/internal/util/Preconditions -/
def k11 : Class := { plain "jdk/internal/util/Preconditions" (some 0) with
  accessFlags := 33
  interfaces := #[]
  cf := some (fileOf pool11 24 #[.nestMembers #[55, 131, 125, 114]] #[{ accessFlags := 1, nameIndex := 5, descriptorIndex := 6, attributes := #[] }, { accessFlags := 9, nameIndex := 33, descriptorIndex := 178, attributes := #[] }] 33 2 #[] #[{ accessFlags := 25, nameIndex := 123, descriptorIndex := 124, attributes := #[] }, { accessFlags := 25, nameIndex := 130, descriptorIndex := 124, attributes := #[] }, { accessFlags := 25, nameIndex := 136, descriptorIndex := 124, attributes := #[] }])
  fields := #[{ name := "SIOOBE_FORMATTER", type := (.object "java/util/function/BiFunction"), accessFlags := 25, slot := 0, constantValue := 0 }, { name := "AIOOBE_FORMATTER", type := (.object "java/util/function/BiFunction"), accessFlags := 25, slot := 1, constantValue := 0 }, { name := "IOOBE_FORMATTER", type := (.object "java/util/function/BiFunction"), accessFlags := 25, slot := 2, constantValue := 0 }]
  methods := #[k11m0, k11m1]
  instanceTypes := #[]
  staticTypes := #[(.object "java/util/function/BiFunction"), (.object "java/util/function/BiFunction"), (.object "java/util/function/BiFunction")]
  resolved := Array.replicate 194 none
  statics := some 2 }

def pool12 : Array CpInfo := pool [(9, u "<init>"), (6, .class_ 18), (1, u "java/lang/Object"), (0, u "()V"), (1, .class_ 23), (1, u "jdk/internal/util/ArraysSupport"), (0, u "LOG2_ARRAY_LONG_INDEX_SCALE"), (0, u "I"), (2, u "U"), (0, u "Ljdk/internal/misc/Unsafe;"), (8, u "BIG_ENDIAN"), (0, u "Z"), (8, u "LOG2_BYTE_BIT_SIZE"), (4, u "LOG2_ARRAY_INT_INDEX_SCALE"), (54, u "JLA"), (0, u "Ljdk/internal/access/JavaLangAccess;"), (11, u "LOG2_ARRAY_BOOLEAN_INDEX_SCALE"), (9, u "LOG2_ARRAY_BYTE_INDEX_SCALE"), (5, u "LOG2_ARRAY_CHAR_INDEX_SCALE"), (5, u "LOG2_ARRAY_SHORT_INDEX_SCALE"), (18, u "LOG2_ARRAY_FLOAT_INDEX_SCALE"), (24, u "LOG2_ARRAY_DOUBLE_INDEX_SCALE"), (89, u "T_BOOLEAN"), (2, u "T_CHAR"), (1, u "T_FLOAT"), (1, u "T_DOUBLE"), (1, u "T_BYTE"), (1, u "T_SHORT"), (1, u "T_INT"), (1, u "T_LONG"), (1, u "SOFT_MAX_ARRAY_LENGTH")] 83

def k12m0 : Method := { name := "<init>", desc := "()V", sig := { parameters := [], returnType := none }, accessFlags := 2, code := none }
/-- jdk/internal/util/ArraysSupport -/
def k12 : Class := { plain "jdk/internal/util/ArraysSupport" (some 0) with
  accessFlags := 33
  interfaces := #[]
  cf := some (fileOf pool12 21 #[] #[{ accessFlags := 2, nameIndex := 9, descriptorIndex := 19, attributes := #[] }] 33 16 #[] #[{ accessFlags := 24, nameIndex := 28, descriptorIndex := 29, attributes := #[] }, { accessFlags := 26, nameIndex := 38, descriptorIndex := 39, attributes := #[] }, { accessFlags := 25, nameIndex := 121, descriptorIndex := 25, attributes := #[] }, { accessFlags := 25, nameIndex := 131, descriptorIndex := 25, attributes := #[] }, { accessFlags := 25, nameIndex := 137, descriptorIndex := 25, attributes := #[] }, { accessFlags := 25, nameIndex := 143, descriptorIndex := 25, attributes := #[] }, { accessFlags := 25, nameIndex := 53, descriptorIndex := 25, attributes := #[] }, { accessFlags := 25, nameIndex := 24, descriptorIndex := 25, attributes := #[] }, { accessFlags := 25, nameIndex := 162, descriptorIndex := 25, attributes := #[] }, { accessFlags := 25, nameIndex := 187, descriptorIndex := 25, attributes := #[] }, { accessFlags := 26, nameIndex := 48, descriptorIndex := 25, attributes := #[] }, { accessFlags := 25, nameIndex := 277, descriptorIndex := 25, attributes := #[] }, { accessFlags := 25, nameIndex := 280, descriptorIndex := 25, attributes := #[] }, { accessFlags := 25, nameIndex := 282, descriptorIndex := 25, attributes := #[] }, { accessFlags := 25, nameIndex := 284, descriptorIndex := 25, attributes := #[] }, { accessFlags := 25, nameIndex := 286, descriptorIndex := 25, attributes := #[] }, { accessFlags := 25, nameIndex := 288, descriptorIndex := 25, attributes := #[] }, { accessFlags := 25, nameIndex := 290, descriptorIndex := 25, attributes := #[] }, { accessFlags := 25, nameIndex := 292, descriptorIndex := 25, attributes := #[] }, { accessFlags := 26, nameIndex := 108, descriptorIndex := 109, attributes := #[] }, { accessFlags := 25, nameIndex := 294, descriptorIndex := 25, attributes := #[] }])
  fields := #[{ name := "U", type := (.object "jdk/internal/misc/Unsafe"), accessFlags := 24, slot := 0, constantValue := 0 }, { name := "BIG_ENDIAN", type := .boolean, accessFlags := 26, slot := 1, constantValue := 0 }, { name := "LOG2_ARRAY_BOOLEAN_INDEX_SCALE", type := .int, accessFlags := 25, slot := 2, constantValue := 0 }, { name := "LOG2_ARRAY_BYTE_INDEX_SCALE", type := .int, accessFlags := 25, slot := 3, constantValue := 0 }, { name := "LOG2_ARRAY_CHAR_INDEX_SCALE", type := .int, accessFlags := 25, slot := 4, constantValue := 0 }, { name := "LOG2_ARRAY_SHORT_INDEX_SCALE", type := .int, accessFlags := 25, slot := 5, constantValue := 0 }, { name := "LOG2_ARRAY_INT_INDEX_SCALE", type := .int, accessFlags := 25, slot := 6, constantValue := 0 }, { name := "LOG2_ARRAY_LONG_INDEX_SCALE", type := .int, accessFlags := 25, slot := 7, constantValue := 0 }, { name := "LOG2_ARRAY_FLOAT_INDEX_SCALE", type := .int, accessFlags := 25, slot := 8, constantValue := 0 }, { name := "LOG2_ARRAY_DOUBLE_INDEX_SCALE", type := .int, accessFlags := 25, slot := 9, constantValue := 0 }, { name := "LOG2_BYTE_BIT_SIZE", type := .int, accessFlags := 26, slot := 10, constantValue := 0 }, { name := "T_BOOLEAN", type := .int, accessFlags := 25, slot := 11, constantValue := 0 }, { name := "T_CHAR", type := .int, accessFlags := 25, slot := 12, constantValue := 0 }, { name := "T_FLOAT", type := .int, accessFlags := 25, slot := 13, constantValue := 0 }, { name := "T_DOUBLE", type := .int, accessFlags := 25, slot := 14, constantValue := 0 }, { name := "T_BYTE", type := .int, accessFlags := 25, slot := 15, constantValue := 0 }, { name := "T_SHORT", type := .int, accessFlags := 25, slot := 16, constantValue := 0 }, { name := "T_INT", type := .int, accessFlags := 25, slot := 17, constantValue := 0 }, { name := "T_LONG", type := .int, accessFlags := 25, slot := 18, constantValue := 0 }, { name := "JLA", type := (.object "jdk/internal/access/JavaLangAccess"), accessFlags := 26, slot := 19, constantValue := 0 }, { name := "SOFT_MAX_ARRAY_LENGTH", type := .int, accessFlags := 25, slot := 20, constantValue := 0 }]
  methods := #[k12m0]
  instanceTypes := #[]
  staticTypes := #[(.object "jdk/internal/misc/Unsafe"), .boolean, .int, .int, .int, .int, .int, .int, .int, .int, .int, .int, .int, .int, .int, .int, .int, .int, .int, (.object "jdk/internal/access/JavaLangAccess"), .int]
  resolved := Array.replicate 378 none
  statics := none }

def pool13 : Array CpInfo := pool [(1, u "java/lang/Cloneable"), (0, .class_ 1), (0, u "java/lang/Object"), (0, .class_ 3)] 3

/-- java/lang/Cloneable -/
def k13 : Class := { plain "java/lang/Cloneable" (some 0) with
  accessFlags := 1537
  interfaces := #[]
  cf := some (fileOf pool13 2 #[] #[] 1537 4 #[] #[])
  fields := #[]
  methods := #[]
  instanceTypes := #[]
  staticTypes := #[]
  resolved := Array.replicate 8 none
  statics := none }

/-- the primitive byte -/
def k14 : Class := { plain "byte" none with kind := .primitive 'B', accessFlags := 0x411 }
/-- [B -/
def k15 : Class := { plain "[B" (some 0) with kind := .array 14 .byte, interfaces := #[13, 4], accessFlags := 1041 }

/-- the primitive int -/
def k16 : Class := { plain "int" none with kind := .primitive 'I', accessFlags := 0x411 }
/-- [I -/
def k17 : Class := { plain "[I" (some 0) with kind := .array 16 .int, interfaces := #[13, 4], accessFlags := 1041 }

def heap : Heap := #[{ cls := 6, slots := #[.ref 5, .ref 8, .ref 11, .ref 14, .ref 17, .ref 20, .null], vm := .statics 6 },
  { cls := 9, slots := #[.long 0, .int 1, .null, .int 0, .null, .int 0, .int 0], vm := .statics 9 },
  { cls := 11, slots := #[.null, .null, .null], vm := .statics 11 },
  { cls := 15, slots := #[.int 61], vm := .none },
  { cls := 9, slots := #[.ref 3, .int 0, .int 0, .int 0], vm := .none },
  { cls := 6, slots := #[.null, .int 0, .int 0, .ref 4], vm := .none },
  { cls := 15, slots := #[.int 33, .int 61], vm := .none },
  { cls := 9, slots := #[.ref 6, .int 0, .int 0, .int 0], vm := .none },
  { cls := 6, slots := #[.null, .int 1, .int 0, .ref 7], vm := .none },
  { cls := 15, slots := #[.int 60], vm := .none },
  { cls := 9, slots := #[.ref 9, .int 0, .int 0, .int 0], vm := .none },
  { cls := 6, slots := #[.null, .int 2, .int 0, .ref 10], vm := .none },
  { cls := 15, slots := #[.int 60, .int 61], vm := .none },
  { cls := 9, slots := #[.ref 12, .int 0, .int 0, .int 0], vm := .none },
  { cls := 6, slots := #[.null, .int 3, .int 0, .ref 13], vm := .none },
  { cls := 15, slots := #[.int 62], vm := .none },
  { cls := 9, slots := #[.ref 15, .int 0, .int 0, .int 0], vm := .none },
  { cls := 6, slots := #[.null, .int 4, .int 0, .ref 16], vm := .none },
  { cls := 15, slots := #[.int 62, .int 61], vm := .none },
  { cls := 9, slots := #[.ref 18, .int 0, .int 0, .int 0], vm := .none },
  { cls := 6, slots := #[.null, .int 5, .int 0, .ref 19], vm := .none }]
def classes : Array Class := #[k0, k1, k2, k3, k4, k5, k6, k7, k8, k9, k10, k11, k12, k13, k14, k15, k16, k17]
def interned : List (Array UInt16 × Addr) := []
def slotsUsed : Nat := 74
def theMethod : MethodId := ⟨1, 2⟩
def args0 : Array Value := #[.int 5]
def aboutOver (below : List Frame) : State where
  vm := { classes := classes, interned := interned.toArray }
  heap := heap
  slotsUsed := slotsUsed
  threads := #[{ frames := .invoking theMethod args0 :: below }]
def below0 : List Frame := [.native { method := ⟨0, 0⟩, args := #[] }]
def about1 : State := aboutOver below0
def p0 : Program := .bare "" "" ""
def e0 : Env := launch0.env 0 0 0
theorem w_frames : about1.frames = Frame.invoking theMethod args0 :: below0 := rfl
set_option maxRecDepth 65536 in
theorem w_args : argsFit about1.vm theMethod args0 = true := by decide +kernel
set_option maxRecDepth 65536 in
theorem w_heap : heapFits about1 = true := by decide +kernel
set_option maxRecDepth 65536 in
theorem w_runnable : about1.curStatus? = some .runnable := by decide +kernel
set_option maxRecDepth 65536 in
theorem w_alone : about1.alone = true := by decide +kernel
set_option maxRecDepth 65536 in
theorem w_named : about1.methodNamed? x = some theMethod := by decide +kernel
set_option maxRecDepth 65536 in
theorem w_hears : about1.hears theMethod below0 = true := by decide +kernel
set_option maxRecDepth 65536 in
theorem w_ripe : about1.ripe theMethod args0 below0 = true := by decide +kernel
theorem w_running : about1.status = .running := rfl
set_option maxRecDepth 65536 in
theorem w_room : about1.hasRoom e0.platform room_1 = true :=
  launch0.hasRoom_least _ room_1 (by decide +kernel) (by decide +kernel) (by decide +kernel) (by decide +kernel) (by decide +kernel) (by decide +kernel)
theorem allAtoms_all (ts : List Jvm.Cond) (a : Array Jvm.Value) (st : Jvm.State) : (allAtoms ts).before a st = ts.all (fun c => c.before a st) := by
  induction ts with
  | nil => rfl
  | cons c t ih =>
    show (Jvm.Cond.and c (allAtoms t)).before a st = _
    rw [Jvm.Cond.before_and, ih, List.all_cons]
def words1 : List Jvm.Cond := Jvm.Cond.code x code maxLocals ret :: tables_1
/-- a 'code' word, met by the world's own term for the bytes: nothing is compared byte by byte -/
theorem code_word {y : MethodName} {bytes : ByteArray} {mx : Nat} {rt : Option FieldType} {a : Array Value} {s : State} {m : MethodId} {meth : Method} {c : Code} (h1 : s.methodNamed? y = some m) (h2 : s.vm.method? m = some meth) (h3 : meth.code = some c) (h4 : c.code = bytes)
    (h5 : (c.maxLocals == mx && c.exceptionTable.isEmpty && decide (c.maxStack ≤ mostOperands) && decide (meth.sig.returnType = rt) && !meth.locks && decide (parseMethodDescriptor y.desc = some meth.sig)) = true) : (Jvm.Cond.code y bytes mx rt).before a s = true := by
  simp only [Bool.and_eq_true, beq_iff_eq, Bool.not_eq_true', decide_eq_true_eq] at h5
  obtain ⟨⟨⟨⟨⟨g1, g2⟩, g3⟩, g4⟩, g5⟩, g6⟩ := h5
  simp [Cond.before, Cond.holds, Cond.value, h1, h2, h3, h4, g1, g2, g3, g4, g5, g6]
def isCode : Jvm.Cond → Bool
  | .code _ _ _ _ => true
  | _ => false
theorem all_split {L : List Jvm.Cond} {P : Jvm.Cond → Bool} (h1 : L.all (fun c => isCode c || P c) = true) (h2 : ∀ c ∈ L.filter isCode, P c = true) : L.all P = true := by
  refine List.all_eq_true.mpr fun c hc => ?_
  have h := List.all_eq_true.mp h1 c hc
  rcases Bool.eq_false_or_eq_true (isCode c) with hi | hi
  · exact h2 c (List.mem_filter.mpr ⟨hc, hi⟩)
  · simpa [hi] using h
set_option maxRecDepth 65536 in
theorem w_c0 : (Jvm.Cond.code x code maxLocals ret).before args0 about1 = true := code_word (m := ⟨1, 2⟩) (meth := k1m2) (c := k1c2) (by decide +kernel) rfl rfl rfl (by decide +kernel)
set_option maxRecDepth 65536 in
theorem w_c1 : (Jvm.Cond.code ({ cls := "com/example/fanoutdb/fanoutdb/cql/OperatorIsLowerPinLaw", name := "pick", desc := "(I)Lcom/example/fanoutdb/fanoutdb/cql/Relation$Operator;" } : Jvm.MethodName) method_2_code (2 : Nat) (Option.some (Jvm.ClassFile.FieldType.object "com/example/fanoutdb/fanoutdb/cql/Relation$Operator"))).before args0 about1 = true := code_word (m := ⟨1, 1⟩) (meth := k1m1) (c := k1c1) (by decide +kernel) rfl rfl rfl (by decide +kernel)
set_option maxRecDepth 65536 in
theorem w_c2 : (Jvm.Cond.code ({ cls := "com/example/fanoutdb/fanoutdb/cql/Relation$Operator", name := "toString", desc := "()Ljava/lang/String;" } : Jvm.MethodName) prog_40_method_8_code (1 : Nat) (Option.some (Jvm.ClassFile.FieldType.object "java/lang/String"))).before args0 about1 = true := code_word (m := ⟨6, 2⟩) (meth := k6m2) (c := k6c2) (by decide +kernel) rfl rfl rfl (by decide +kernel)
set_option maxRecDepth 65536 in
theorem w_c3 : (Jvm.Cond.code ({ cls := "java/lang/String", name := "length", desc := "()I" } : Jvm.MethodName) jdk_42_method_54_code (1 : Nat) (Option.some Jvm.ClassFile.FieldType.int)).before args0 about1 = true := code_word (m := ⟨9, 1⟩) (meth := k9m1) (c := k9c1) (by decide +kernel) rfl rfl rfl (by decide +kernel)
set_option maxRecDepth 65536 in
theorem w_c4 : (Jvm.Cond.code ({ cls := "java/lang/String", name := "coder", desc := "()B" } : Jvm.MethodName) jdk_42_method_152_code (1 : Nat) (Option.some Jvm.ClassFile.FieldType.byte)).before args0 about1 = true := code_word (m := ⟨9, 3⟩) (meth := k9m3) (c := k9c3) (by decide +kernel) rfl rfl rfl (by decide +kernel)
set_option maxRecDepth 65536 in
theorem w_c5 : (Jvm.Cond.code ({ cls := "java/lang/String", name := "charAt", desc := "(I)C" } : Jvm.MethodName) jdk_42_method_56_code (2 : Nat) (Option.some Jvm.ClassFile.FieldType.char)).before args0 about1 = true := code_word (m := ⟨9, 2⟩) (meth := k9m2) (c := k9c2) (by decide +kernel) rfl rfl rfl (by decide +kernel)
set_option maxRecDepth 65536 in
theorem w_c6 : (Jvm.Cond.code ({ cls := "java/lang/String", name := "isLatin1", desc := "()Z" } : Jvm.MethodName) jdk_42_method_154_code (1 : Nat) (Option.some Jvm.ClassFile.FieldType.boolean)).before args0 about1 = true := code_word (m := ⟨9, 4⟩) (meth := k9m4) (c := k9c4) (by decide +kernel) rfl rfl rfl (by decide +kernel)
set_option maxRecDepth 65536 in
theorem w_c7 : (Jvm.Cond.code ({ cls := "java/lang/StringLatin1", name := "charAt", desc := "([BI)C" } : Jvm.MethodName) jdk_43_method_2_code (2 : Nat) (Option.some Jvm.ClassFile.FieldType.char)).before args0 about1 = true := code_word (m := ⟨10, 1⟩) (meth := k10m1) (c := k10c1) (by decide +kernel) rfl rfl rfl (by decide +kernel)
set_option maxRecDepth 65536 in
theorem w_c8 : (Jvm.Cond.code ({ cls := "java/lang/String", name := "checkIndex", desc := "(II)V" } : Jvm.MethodName) jdk_42_method_155_code (2 : Nat) (Option.none : Option Jvm.ClassFile.FieldType)).before args0 about1 = true := code_word (m := ⟨9, 5⟩) (meth := k9m5) (c := k9c5) (by decide +kernel) rfl rfl rfl (by decide +kernel)
set_option maxRecDepth 65536 in
theorem w_c9 : (Jvm.Cond.code ({ cls := "jdk/internal/util/Preconditions", name := "checkIndex", desc := "(IILjava/util/function/BiFunction;)I" } : Jvm.MethodName) jdk_41_method_11_code (3 : Nat) (Option.some Jvm.ClassFile.FieldType.int)).before args0 about1 = true := code_word (m := ⟨11, 1⟩) (meth := k11m1) (c := k11c1) (by decide +kernel) rfl rfl rfl (by decide +kernel)
set_option maxRecDepth 65536 in
theorem w_c10 : (Jvm.Cond.code ({ cls := "com/example/fanoutdb/fanoutdb/cql/Relation$Operator", name := "isLower", desc := "()Z" } : Jvm.MethodName) prog_40_method_6_code (1 : Nat) (Option.some Jvm.ClassFile.FieldType.boolean)).before args0 about1 = true := code_word (m := ⟨6, 1⟩) (meth := k6m1) (c := k6c1) (by decide +kernel) rfl rfl rfl (by decide +kernel)
set_option maxRecDepth 65536 in
theorem w_c11 : (Jvm.Cond.code ({ cls := "com/example/fanoutdb/fanoutdb/cql/Relation$Operator", name := "isBound", desc := "()Z" } : Jvm.MethodName) prog_40_method_5_code (1 : Nat) (Option.some Jvm.ClassFile.FieldType.boolean)).before args0 about1 = true := code_word (m := ⟨6, 0⟩) (meth := k6m0) (c := k6c0) (by decide +kernel) rfl rfl rfl (by decide +kernel)
def codes1 : List Jvm.Cond := [Jvm.Cond.code x code maxLocals ret, Jvm.Cond.code ({ cls := "com/example/fanoutdb/fanoutdb/cql/OperatorIsLowerPinLaw", name := "pick", desc := "(I)Lcom/example/fanoutdb/fanoutdb/cql/Relation$Operator;" } : Jvm.MethodName) method_2_code (2 : Nat) (Option.some (Jvm.ClassFile.FieldType.object "com/example/fanoutdb/fanoutdb/cql/Relation$Operator")), Jvm.Cond.code ({ cls := "com/example/fanoutdb/fanoutdb/cql/Relation$Operator", name := "toString", desc := "()Ljava/lang/String;" } : Jvm.MethodName) prog_40_method_8_code (1 : Nat) (Option.some (Jvm.ClassFile.FieldType.object "java/lang/String")), Jvm.Cond.code ({ cls := "java/lang/String", name := "length", desc := "()I" } : Jvm.MethodName) jdk_42_method_54_code (1 : Nat) (Option.some Jvm.ClassFile.FieldType.int), Jvm.Cond.code ({ cls := "java/lang/String", name := "coder", desc := "()B" } : Jvm.MethodName) jdk_42_method_152_code (1 : Nat) (Option.some Jvm.ClassFile.FieldType.byte), Jvm.Cond.code ({ cls := "java/lang/String", name := "charAt", desc := "(I)C" } : Jvm.MethodName) jdk_42_method_56_code (2 : Nat) (Option.some Jvm.ClassFile.FieldType.char), Jvm.Cond.code ({ cls := "java/lang/String", name := "isLatin1", desc := "()Z" } : Jvm.MethodName) jdk_42_method_154_code (1 : Nat) (Option.some Jvm.ClassFile.FieldType.boolean), Jvm.Cond.code ({ cls := "java/lang/StringLatin1", name := "charAt", desc := "([BI)C" } : Jvm.MethodName) jdk_43_method_2_code (2 : Nat) (Option.some Jvm.ClassFile.FieldType.char), Jvm.Cond.code ({ cls := "java/lang/String", name := "checkIndex", desc := "(II)V" } : Jvm.MethodName) jdk_42_method_155_code (2 : Nat) (Option.none : Option Jvm.ClassFile.FieldType), Jvm.Cond.code ({ cls := "jdk/internal/util/Preconditions", name := "checkIndex", desc := "(IILjava/util/function/BiFunction;)I" } : Jvm.MethodName) jdk_41_method_11_code (3 : Nat) (Option.some Jvm.ClassFile.FieldType.int), Jvm.Cond.code ({ cls := "com/example/fanoutdb/fanoutdb/cql/Relation$Operator", name := "isLower", desc := "()Z" } : Jvm.MethodName) prog_40_method_6_code (1 : Nat) (Option.some Jvm.ClassFile.FieldType.boolean), Jvm.Cond.code ({ cls := "com/example/fanoutdb/fanoutdb/cql/Relation$Operator", name := "isBound", desc := "()Z" } : Jvm.MethodName) prog_40_method_5_code (1 : Nat) (Option.some Jvm.ClassFile.FieldType.boolean)]
set_option maxRecDepth 65536 in
theorem codes_eq : words1.filter isCode = codes1 := rfl
theorem w_codes : ∀ c ∈ words1.filter isCode, c.before args0 about1 = true := by
  rw [codes_eq]
  intro c hc
  simp only [codes1, List.mem_cons, List.not_mem_nil, or_false] at hc
  rcases hc with rfl | rfl | rfl | rfl | rfl | rfl | rfl | rfl | rfl | rfl | rfl | rfl
  · exact w_c0
  · exact w_c1
  · exact w_c2
  · exact w_c3
  · exact w_c4
  · exact w_c5
  · exact w_c6
  · exact w_c7
  · exact w_c8
  · exact w_c9
  · exact w_c10
  · exact w_c11
set_option maxRecDepth 65536 in
theorem w_t1 : (words1.take 24).all (fun c => isCode c || c.before args0 about1) = true := by decide +kernel
set_option maxRecDepth 65536 in
theorem w_t2 : ((words1.drop 24).take 24).all (fun c => isCode c || c.before args0 about1) = true := by decide +kernel
set_option maxRecDepth 65536 in
theorem w_t3 : (((words1.drop 24).drop 24).take 24).all (fun c => isCode c || c.before args0 about1) = true := by decide +kernel
set_option maxRecDepth 65536 in
theorem w_t4 : (((words1.drop 24).drop 24).drop 24).all (fun c => isCode c || c.before args0 about1) = true := by decide +kernel
theorem w_tables : (allAtoms (Jvm.Cond.code x code maxLocals ret :: tables_1)).before args0 about1 = true := by
  rw [allAtoms_all]
  show words1.all (fun c => c.before args0 about1) = true
  refine all_split ?_ w_codes
  rw [← List.take_append_drop 24 words1, List.all_append, w_t1, ← List.take_append_drop 24 (words1.drop 24), List.all_append, w_t2, ← List.take_append_drop 24 ((words1.drop 24).drop 24), List.all_append, w_t3, w_t4]
  rfl
set_option maxRecDepth 65536 in
theorem w_rest : rest_1_c.before args0 about1 = true := by decide +kernel
set_option maxRecDepth 65536 in
theorem w_case : (Jvm.Cond.and given_1 narrow_1).before args0 about1 = true := by decide +kernel
theorem w_applies : (headSpec (Jvm.Cond.code x code maxLocals ret :: tables_1) room_1).applies x e0.platform about1 = true :=
  (Spec.applies_iff w_frames).mpr ⟨w_running, w_runnable, w_alone, w_named, w_hears, w_ripe, w_room, w_tables⟩
theorem atStart : AtStart classFile x code maxLocals ret World_1 tables_1 room_1 Calls_1 rest_1 Pre_1 launch0 p0 e0 about1 theMethod args0 below0 :=
  ⟨lists_1, trivial, launch0.admits_env _ _ _, launch0.least_env, fairChoices_fair.cas, fairChoices_fair.clock, w_frames, w_args, w_heap, w_applies, trivial, w_rest, w_case⟩
end start1
theorem witness_1 : WitnessClaimed_1 := ⟨start1.p0, start1.e0, start1.about1, start1.theMethod, start1.args0, start1.below0, start1.atStart⟩
end Jvm.Pilot.@@N@@
