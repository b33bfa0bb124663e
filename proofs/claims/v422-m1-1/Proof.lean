import JvmDerived
import JvmDerived.Pilot.@@N@@Statement
import JvmDerived.Pilot.@@N@@Code
set_option linter.unusedVariables false
set_option linter.unusedSimpArgs false
namespace Jvm.Pilot.@@N@@
open Jvm Jvm.ClassFile Sem Op Lib Jvm.Free Jvm.Stand Jvm.LawKit Jvm.RoadKit Bundle Jvm.Pilot.@@N@@.Jvm.D
section Own
variable {p : Program} {l : Launch} {e : Env} {R : Room} {s : State} {m : MethodId} {args : Array Value} {below : List Frame} {meth : Method} {c : Code} {Z : State} {a0 : Array Value} {n0 : Nat} {Q : Option Value → Heap → Prop} {Kf : State → Outcome → Prop} {h : Heap} {k q : Nat} {own nm : String} {bytes : ByteArray} {maxL : Nat} {ret : Option FieldType} {pc pc' pc1 pc2 : Nat} {Ls Ls' : Array Slot} {rest : List Value}
/-- how a run of the body ends: it returns, nothing old is written, and Q holds of what is returned and of the heap -/
def own_K (below : List Frame) (R : Room) (s : State) (n0 : Nat) (Q : Option Value → Heap → Prop) (t : State) (o : Outcome) : Prop :=
  t.status = .running ∧ Ended t below o ∧ ∃ v L, o = .returned v ∧ (Fr n0 L ∧ Q v t.heap) ∧ FrameEnd s o t L R.cells R.slots
/-- from the frame g, with the heap h, k cells and q slots made so far: the run ends as own_K says -/
def own_Run (p : Program) (l : Launch) (e : Env) (R : Room) (s : State) (m : MethodId) (args : Array Value) (below : List Frame) (meth : Method) (c : Code) (n0 : Nat) (Kf : State → Outcome → Prop) (h : Heap) (k q : Nat) (g : JFrame) : Prop :=
  ∀ (T : State) (locs : List Loc), Stand p l e R s m args below meth c T locs k q → T.heap = h → Fr n0 locs → ∃ t o, Steps p.tables e below (T.setTop g) t ∧ Kf t o
/-- what stands fast through a body -/
def own_Ctx (p : Program) (s : State) (m : MethodId) (meth : Method) (c : Code) (Z : State) (own nm : String) (bytes : ByteArray) (maxL : Nat) (ret : Option FieldType) : Prop :=
  p.tables.exec = Jvm.exec ∧ Z.Warmed39 s.vm ∧ s.vm.findClass own = some m.cls ∧ c.code = bytes ∧ c.maxLocals = maxL ∧ meth.sig.returnType = ret ∧ meth.locks = false ∧ meth.name = nm
theorem own_Ctx.g_x (C : own_Ctx p s m meth c Z own nm bytes maxL ret) : p.tables.exec = Jvm.exec := C.1
theorem own_Ctx.g_z (C : own_Ctx p s m meth c Z own nm bytes maxL ret) : Z.Warmed39 s.vm := C.2.1
theorem own_Ctx.g_own (C : own_Ctx p s m meth c Z own nm bytes maxL ret) : s.vm.findClass own = some m.cls := C.2.2.1
theorem own_Ctx.g_by (C : own_Ctx p s m meth c Z own nm bytes maxL ret) : c.code = bytes := C.2.2.2.1
theorem own_Ctx.g_ml (C : own_Ctx p s m meth c Z own nm bytes maxL ret) : c.maxLocals = maxL := C.2.2.2.2.1
theorem own_Ctx.g_rt (C : own_Ctx p s m meth c Z own nm bytes maxL ret) : meth.sig.returnType = ret := C.2.2.2.2.2.1
theorem own_Ctx.g_lk (C : own_Ctx p s m meth c Z own nm bytes maxL ret) : meth.locks = false := C.2.2.2.2.2.2.1
theorem own_Ctx.g_nm (C : own_Ctx p s m meth c Z own nm bytes maxL ret) : meth.name = nm := C.2.2.2.2.2.2.2
/-- a method's contract: called with these arguments at the heap h, it returns as Q says -/
def own_Met (l : Launch) (Z : State) (n0 : Nat) (y : MethodName) (bytes : ByteArray) (maxL : Nat) (ret : Option FieldType) (rm : Room) (ws : List Jvm.Cond) (as' : Array Value) (h : Heap) (Q : Option Value → Heap → Prop) : Prop :=
  MetFree l y (head1 (Jvm.Cond.code y bytes maxL ret :: ws) rm) (fun a U => a = as' ∧ Z.Warmed39 U.vm ∧ U.heap = h) (fun _ _ _ _ _ => True) (fun _ U o U' => ∃ v L, o = .returned v ∧ (Fr n0 L ∧ Q v U'.heap) ∧ FrameEnd U o U' L rm.cells rm.slots)
theorem own_met {y : MethodName} {rm : Room} {ws : List Jvm.Cond} {as' : Array Value} (hn : plainName y.cls = true) (Ls : Array Slot) (hef : ∀ m : MethodId, entryFrame m as' maxL = mkF m 0 Ls [])
    (body : ∀ (p : Program) (e : Env) (s : State) (m : MethodId) (below : List Frame) (meth : Method) (c : Code), own_Ctx p s m meth c Z y.cls y.name bytes maxL ret → own_Run p l e rm s m as' below meth c n0 (own_K below rm s n0 Q) h 0 0 (mkF m 0 Ls [])) :
    own_Met l Z n0 y bytes maxL ret rm ws as' h Q := by
  refine MetFree.of_bodySF (plainFor_of_name hn) hisR ?_
  intro p e s m args below meth c s₁ Bd hml0 hP hK
  obtain ⟨rfl, hZ, hh⟩ := hP
  have C : own_Ctx p s m meth c Z y.cls y.name bytes maxL ret := ⟨Bd.exec, hZ, findClass_of_methodNamed Bd.named, Bd.bytes, hml0, Bd.returns, BodyLoose.notSynchronized Bd, (name_of_methodNamed Bd.named Bd.method).1⟩
  obtain ⟨t, o, h1, h2, h3, h4⟩ := body p e s m below meth c C s₁ [] (Stand.of_body Bd) (by rw [← hh, Bd.state]; rfl) (Fr.nil n0)
  exact ⟨t, o, castTop (hef m) h1, h2, h3, h4⟩
theorem own_st {g g' : JFrame} (h1 : ∀ (T : State) (locs : List Loc), Stand p l e R s m args below meth c T locs k q → T.heap = h → ∀ target, Steps p.tables e below (T.setTop g') target → Steps p.tables e below (T.setTop g) target) (r : own_Run p l e R s m args below meth c n0 Kf h k q g') : own_Run p l e R s m args below meth c n0 Kf h k q g := fun T locs X eT N => by
  obtain ⟨t, o, h2, h3⟩ := r T locs X eT N
  exact ⟨t, o, h1 T locs X eT t h2, h3⟩
theorem own_more {k' q' : Nat} {g : JFrame} (hk : k ≤ k') (hq : q ≤ q') (r : own_Run p l e R s m args below meth c n0 Kf h k' q' g) : own_Run p l e R s m args below meth c n0 Kf h k q g := fun T locs X eT N => r T locs (X.more hk hq) eT N
theorem own_iloadN (C : own_Ctx p s m meth c Z own nm bytes maxL ret) {i : Fin 4} {v : Int32} (hd : decode bytes pc = .ok (.iload_n i, 1)) (hp : pc + 1 = pc') (hl : Ls[i.val]? = some (.val (.int v))) (r : own_Run p l e R s m args below meth c n0 Kf h k q (mkF m pc' Ls (.int v :: rest))) : own_Run p l e R s m args below meth c n0 Kf h k q (mkF m pc Ls (rest)) :=
  own_st (fun T locs X eT t kk => by subst hp; exact Jvm.Free.XS.iloadN X.here C.g_x rfl (hb C.g_by hd) hl kk) r
theorem own_iload (C : own_Ctx p s m meth c Z own nm bytes maxL ret) {i : Nat} {v : Int32} (hd : decode bytes pc = .ok (.iload i, 2)) (hp : pc + 2 = pc') (hl : Ls[i]? = some (.val (.int v))) (r : own_Run p l e R s m args below meth c n0 Kf h k q (mkF m pc' Ls (.int v :: rest))) : own_Run p l e R s m args below meth c n0 Kf h k q (mkF m pc Ls (rest)) :=
  own_st (fun T locs X eT t kk => by subst hp; exact Jvm.Free.XS.iload X.here C.g_x rfl (hb C.g_by hd) hl kk) r
theorem own_lloadN (C : own_Ctx p s m meth c Z own nm bytes maxL ret) {i : Fin 4} {v : Int64} (hd : decode bytes pc = .ok (.lload_n i, 1)) (hp : pc + 1 = pc') (hl : Ls[i.val]? = some (.val (.long v))) (r : own_Run p l e R s m args below meth c n0 Kf h k q (mkF m pc' Ls (.long v :: rest))) : own_Run p l e R s m args below meth c n0 Kf h k q (mkF m pc Ls (rest)) :=
  own_st (fun T locs X eT t kk => by subst hp; exact Jvm.Free.XT.lloadN X.here C.g_x rfl (hb C.g_by hd) hl kk) r
theorem own_lload (C : own_Ctx p s m meth c Z own nm bytes maxL ret) {i : Nat} {v : Int64} (hd : decode bytes pc = .ok (.lload i, 2)) (hp : pc + 2 = pc') (hl : Ls[i]? = some (.val (.long v))) (r : own_Run p l e R s m args below meth c n0 Kf h k q (mkF m pc' Ls (.long v :: rest))) : own_Run p l e R s m args below meth c n0 Kf h k q (mkF m pc Ls (rest)) :=
  own_st (fun T locs X eT t kk => by subst hp; exact Jvm.Free.XT.lload X.here C.g_x rfl (hb C.g_by hd) hl kk) r
theorem own_aloadN (C : own_Ctx p s m meth c Z own nm bytes maxL ret) {i : Fin 4} {v : Value} (hd : decode bytes pc = .ok (.aload_n i, 1)) (hp : pc + 1 = pc') (hl : Ls[i.val]? = some (.val v)) (hv : v.isRef = true) (r : own_Run p l e R s m args below meth c n0 Kf h k q (mkF m pc' Ls (v :: rest))) : own_Run p l e R s m args below meth c n0 Kf h k q (mkF m pc Ls (rest)) :=
  own_st (fun T locs X eT t kk => by subst hp; exact Jvm.Free.XS.aloadN X.here C.g_x rfl (hb C.g_by hd) hl hv kk) r
theorem own_aload (C : own_Ctx p s m meth c Z own nm bytes maxL ret) {i : Nat} {v : Value} (hd : decode bytes pc = .ok (.aload i, 2)) (hp : pc + 2 = pc') (hl : Ls[i]? = some (.val v)) (hv : v.isRef = true) (r : own_Run p l e R s m args below meth c n0 Kf h k q (mkF m pc' Ls (v :: rest))) : own_Run p l e R s m args below meth c n0 Kf h k q (mkF m pc Ls (rest)) :=
  own_st (fun T locs X eT t kk => by subst hp; exact Jvm.Free.XS.aload X.here C.g_x rfl (hb C.g_by hd) hl hv kk) r
theorem own_istoreN (C : own_Ctx p s m meth c Z own nm bytes maxL ret) {i : Fin 4} {v : Int32} (hd : decode bytes pc = .ok (.istore_n i, 1)) (hp : pc + 1 = pc') (hl : storeLocals Ls i.val (.int v) = some Ls') (r : own_Run p l e R s m args below meth c n0 Kf h k q (mkF m pc' Ls' (rest))) : own_Run p l e R s m args below meth c n0 Kf h k q (mkF m pc Ls (.int v :: rest)) :=
  own_st (fun T locs X eT t kk => by subst hp; exact Jvm.Free.XS.istoreN X.here C.g_x rfl (hb C.g_by hd) rfl hl kk) r
theorem own_istore (C : own_Ctx p s m meth c Z own nm bytes maxL ret) {i : Nat} {v : Int32} (hd : decode bytes pc = .ok (.istore i, 2)) (hp : pc + 2 = pc') (hl : storeLocals Ls i (.int v) = some Ls') (r : own_Run p l e R s m args below meth c n0 Kf h k q (mkF m pc' Ls' (rest))) : own_Run p l e R s m args below meth c n0 Kf h k q (mkF m pc Ls (.int v :: rest)) :=
  own_st (fun T locs X eT t kk => by subst hp; exact Jvm.Free.XS.istore X.here C.g_x rfl (hb C.g_by hd) rfl hl kk) r
theorem own_lstoreN (C : own_Ctx p s m meth c Z own nm bytes maxL ret) {i : Fin 4} {v : Int64} (hd : decode bytes pc = .ok (.lstore_n i, 1)) (hp : pc + 1 = pc') (hl : storeLocals Ls i.val (.long v) = some Ls') (r : own_Run p l e R s m args below meth c n0 Kf h k q (mkF m pc' Ls' (rest))) : own_Run p l e R s m args below meth c n0 Kf h k q (mkF m pc Ls (.long v :: rest)) :=
  own_st (fun T locs X eT t kk => by subst hp; exact Jvm.Free.XT.lstoreN X.here C.g_x rfl (hb C.g_by hd) rfl hl kk) r
theorem own_lstore (C : own_Ctx p s m meth c Z own nm bytes maxL ret) {i : Nat} {v : Int64} (hd : decode bytes pc = .ok (.lstore i, 2)) (hp : pc + 2 = pc') (hl : storeLocals Ls i (.long v) = some Ls') (r : own_Run p l e R s m args below meth c n0 Kf h k q (mkF m pc' Ls' (rest))) : own_Run p l e R s m args below meth c n0 Kf h k q (mkF m pc Ls (.long v :: rest)) :=
  own_st (fun T locs X eT t kk => by subst hp; exact Jvm.Free.XT.lstore X.here C.g_x rfl (hb C.g_by hd) rfl hl kk) r
theorem own_astoreN (C : own_Ctx p s m meth c Z own nm bytes maxL ret) {i : Fin 4} {v : Value} (hd : decode bytes pc = .ok (.astore_n i, 1)) (hp : pc + 1 = pc') (hv : v.isRef = true) (hl : storeLocals Ls i.val v = some Ls') (r : own_Run p l e R s m args below meth c n0 Kf h k q (mkF m pc' Ls' (rest))) : own_Run p l e R s m args below meth c n0 Kf h k q (mkF m pc Ls (v :: rest)) :=
  own_st (fun T locs X eT t kk => by subst hp; exact Jvm.Free.XS.astoreN X.here C.g_x rfl (hb C.g_by hd) rfl hv hl kk) r
theorem own_astore (C : own_Ctx p s m meth c Z own nm bytes maxL ret) {i : Nat} {v : Value} (hd : decode bytes pc = .ok (.astore i, 2)) (hp : pc + 2 = pc') (hv : v.isRef = true) (hl : storeLocals Ls i v = some Ls') (r : own_Run p l e R s m args below meth c n0 Kf h k q (mkF m pc' Ls' (rest))) : own_Run p l e R s m args below meth c n0 Kf h k q (mkF m pc Ls (v :: rest)) :=
  own_st (fun T locs X eT t kk => by subst hp; exact Jvm.Free.XS.astore X.here C.g_x rfl (hb C.g_by hd) rfl hv hl kk) r
theorem own_iinc (C : own_Ctx p s m meth c Z own nm bytes maxL ret) {i : Nat} {cst : Int} {v w : Int32} (hd : decode bytes pc = .ok (.iinc i cst, 3)) (hp : pc + 3 = pc') (hv : Int32.ofInt cst = w) (hl : Ls[i]? = some (.val (.int v))) (hl' : storeLocals Ls i (.int (v + w)) = some Ls') (r : own_Run p l e R s m args below meth c n0 Kf h k q (mkF m pc' Ls' (rest))) : own_Run p l e R s m args below meth c n0 Kf h k q (mkF m pc Ls (rest)) :=
  own_st (fun T locs X eT t kk => by subst hp; exact Jvm.Free.XT.iincV X.here C.g_x rfl w (hb C.g_by hd) hv hl hl' kk) r
theorem own_iincV (C : own_Ctx p s m meth c Z own nm bytes maxL ret) {i : Nat} {cst : Int} {v w x : Int32} (hd : decode bytes pc = .ok (.iinc i cst, 3)) (hp : pc + 3 = pc') (hv : Int32.ofInt cst = w) (hs : v + w = x) (hl : Ls[i]? = some (.val (.int v))) (hl' : storeLocals Ls i (.int x) = some Ls') (r : own_Run p l e R s m args below meth c n0 Kf h k q (mkF m pc' Ls' (rest))) : own_Run p l e R s m args below meth c n0 Kf h k q (mkF m pc Ls (rest)) :=
  own_st (fun T locs X eT t kk => by subst hp; exact Jvm.Free.XT.iincV X.here C.g_x rfl w (hb C.g_by hd) hv hl (by rw [hs]; exact hl') kk) r
theorem own_iconst (C : own_Ctx p s m meth c Z own nm bytes maxL ret) {i : Int} {v : Int32} (hd : decode bytes pc = .ok (.iconst i, 1)) (hp : pc + 1 = pc') (hv : Int32.ofInt i = v) (r : own_Run p l e R s m args below meth c n0 Kf h k q (mkF m pc' Ls (.int v :: rest))) : own_Run p l e R s m args below meth c n0 Kf h k q (mkF m pc Ls (rest)) :=
  own_st (fun T locs X eT t kk => by subst hp; exact Jvm.Free.XT.iconstV X.here C.g_x rfl v (hb C.g_by hd) hv kk) r
theorem own_bipush (C : own_Ctx p s m meth c Z own nm bytes maxL ret) {i : Int} {v : Int32} (hd : decode bytes pc = .ok (.bipush i, 2)) (hp : pc + 2 = pc') (hv : (Int8.ofInt i).toInt32 = v) (r : own_Run p l e R s m args below meth c n0 Kf h k q (mkF m pc' Ls (.int v :: rest))) : own_Run p l e R s m args below meth c n0 Kf h k q (mkF m pc Ls (rest)) :=
  own_st (fun T locs X eT t kk => by subst hp; exact Jvm.Free.XT.bipushV X.here C.g_x rfl v (hb C.g_by hd) hv kk) r
theorem own_sipush (C : own_Ctx p s m meth c Z own nm bytes maxL ret) {i : Int} {v : Int32} (hd : decode bytes pc = .ok (.sipush i, 3)) (hp : pc + 3 = pc') (hv : (Int16.ofInt i).toInt32 = v) (r : own_Run p l e R s m args below meth c n0 Kf h k q (mkF m pc' Ls (.int v :: rest))) : own_Run p l e R s m args below meth c n0 Kf h k q (mkF m pc Ls (rest)) :=
  own_st (fun T locs X eT t kk => by subst hp; exact Jvm.Free.XT.sipushV X.here C.g_x rfl v (hb C.g_by hd) hv kk) r
theorem own_lconst (C : own_Ctx p s m meth c Z own nm bytes maxL ret) {i : Fin 2} {v : Int64} (hd : decode bytes pc = .ok (.lconst i, 1)) (hp : pc + 1 = pc') (hv : Int64.ofNat i = v) (r : own_Run p l e R s m args below meth c n0 Kf h k q (mkF m pc' Ls (.long v :: rest))) : own_Run p l e R s m args below meth c n0 Kf h k q (mkF m pc Ls (rest)) :=
  own_st (fun T locs X eT t kk => by subst hp; exact Jvm.Free.XT.lconstV X.here C.g_x rfl v (hb C.g_by hd) hv kk) r
theorem own_aconst (C : own_Ctx p s m meth c Z own nm bytes maxL ret)  (hd : decode bytes pc = .ok (.aconst_null, 1)) (hp : pc + 1 = pc')  (r : own_Run p l e R s m args below meth c n0 Kf h k q (mkF m pc' Ls (.null :: rest))) : own_Run p l e R s m args below meth c n0 Kf h k q (mkF m pc Ls (rest)) :=
  own_st (fun T locs X eT t kk => by subst hp; exact Jvm.Free.XS.aconstNull X.here C.g_x rfl (hb C.g_by hd) kk) r
theorem own_ldc (C : own_Ctx p s m meth c Z own nm bytes maxL ret) {i : Nat} {v : Int32} (hd : decode bytes pc = .ok (.ldc i, 2)) (hp : pc + 2 = pc') (hc : (Jvm.Cond.constant own i v).before a0 Z = true) (r : own_Run p l e R s m args below meth c n0 Kf h k q (mkF m pc' Ls (.int v :: rest))) : own_Run p l e R s m args below meth c n0 Kf h k q (mkF m pc Ls (rest)) :=
  own_st (fun T locs X eT t kk => by subst hp; exact X.ldcI C.g_x C.g_own (mvT C.g_z hc) rfl (hb C.g_by hd) kk) r
theorem own_ldc2 (C : own_Ctx p s m meth c Z own nm bytes maxL ret) {i : Nat} {v : Int64} (hd : decode bytes pc = .ok (.ldc2_w i, 3)) (hp : pc + 3 = pc') (hc : (Jvm.Cond.constantLong own i v).before a0 Z = true) (r : own_Run p l e R s m args below meth c n0 Kf h k q (mkF m pc' Ls (.long v :: rest))) : own_Run p l e R s m args below meth c n0 Kf h k q (mkF m pc Ls (rest)) :=
  own_st (fun T locs X eT t kk => by subst hp; exact X.ldc2J C.g_x C.g_own (mvT C.g_z hc) rfl (hb C.g_by hd) kk) r
theorem own_dup (C : own_Ctx p s m meth c Z own nm bytes maxL ret) {v : Value} (hd : decode bytes pc = .ok (.dup, 1)) (hp : pc + 1 = pc') (hc : v.category = 1) (r : own_Run p l e R s m args below meth c n0 Kf h k q (mkF m pc' Ls (v :: v :: rest))) : own_Run p l e R s m args below meth c n0 Kf h k q (mkF m pc Ls (v :: rest)) :=
  own_st (fun T locs X eT t kk => by subst hp; exact Jvm.Free.XS.dup X.here C.g_x rfl (hb C.g_by hd) rfl hc kk) r
theorem own_pop (C : own_Ctx p s m meth c Z own nm bytes maxL ret) {v : Value} (hd : decode bytes pc = .ok (.pop, 1)) (hp : pc + 1 = pc') (hc : v.category = 1) (r : own_Run p l e R s m args below meth c n0 Kf h k q (mkF m pc' Ls (rest))) : own_Run p l e R s m args below meth c n0 Kf h k q (mkF m pc Ls (v :: rest)) :=
  own_st (fun T locs X eT t kk => by subst hp; exact Jvm.Free.XT.pop X.here C.g_x rfl (hb C.g_by hd) rfl hc kk) r
theorem own_dupX1 (C : own_Ctx p s m meth c Z own nm bytes maxL ret) {v w : Value} (hd : decode bytes pc = .ok (.dup_x1, 1)) (hp : pc + 1 = pc') (hc : v.category = 1) (hc' : w.category = 1) (r : own_Run p l e R s m args below meth c n0 Kf h k q (mkF m pc' Ls (v :: w :: v :: rest))) : own_Run p l e R s m args below meth c n0 Kf h k q (mkF m pc Ls (v :: w :: rest)) :=
  own_st (fun T locs X eT t kk => by subst hp; exact Jvm.Free.XT.dupX1 X.here C.g_x rfl (hb C.g_by hd) rfl hc hc' kk) r
theorem own_dup2 (C : own_Ctx p s m meth c Z own nm bytes maxL ret) {v w : Value} (hd : decode bytes pc = .ok (.dup2, 1)) (hp : pc + 1 = pc') (hc : v.category = 1) (hc' : w.category = 1) (r : own_Run p l e R s m args below meth c n0 Kf h k q (mkF m pc' Ls (v :: w :: v :: w :: rest))) : own_Run p l e R s m args below meth c n0 Kf h k q (mkF m pc Ls (v :: w :: rest)) :=
  own_st (fun T locs X eT t kk => by subst hp; exact Jvm.Free.XT.dup2 X.here C.g_x rfl (hb C.g_by hd) rfl hc hc' kk) r
theorem own_iadd (C : own_Ctx p s m meth c Z own nm bytes maxL ret) {x y : Int32} (hd : decode bytes pc = .ok (.iadd, 1)) (hp : pc + 1 = pc')  (r : own_Run p l e R s m args below meth c n0 Kf h k q (mkF m pc' Ls (.int (x + y) :: rest))) : own_Run p l e R s m args below meth c n0 Kf h k q (mkF m pc Ls (.int y :: .int x :: rest)) :=
  own_st (fun T locs X eT t kk => by subst hp; exact Jvm.Free.XS.iadd X.here C.g_x rfl (hb C.g_by hd) rfl kk) r
theorem own_isub (C : own_Ctx p s m meth c Z own nm bytes maxL ret) {x y : Int32} (hd : decode bytes pc = .ok (.isub, 1)) (hp : pc + 1 = pc')  (r : own_Run p l e R s m args below meth c n0 Kf h k q (mkF m pc' Ls (.int (x - y) :: rest))) : own_Run p l e R s m args below meth c n0 Kf h k q (mkF m pc Ls (.int y :: .int x :: rest)) :=
  own_st (fun T locs X eT t kk => by subst hp; exact Jvm.Free.XS.isub X.here C.g_x rfl (hb C.g_by hd) rfl kk) r
theorem own_iand (C : own_Ctx p s m meth c Z own nm bytes maxL ret) {x y : Int32} (hd : decode bytes pc = .ok (.iand, 1)) (hp : pc + 1 = pc')  (r : own_Run p l e R s m args below meth c n0 Kf h k q (mkF m pc' Ls (.int (x &&& y) :: rest))) : own_Run p l e R s m args below meth c n0 Kf h k q (mkF m pc Ls (.int y :: .int x :: rest)) :=
  own_st (fun T locs X eT t kk => by subst hp; exact Jvm.Free.XS.iand X.here C.g_x rfl (hb C.g_by hd) rfl kk) r
theorem own_imul (C : own_Ctx p s m meth c Z own nm bytes maxL ret) {x y : Int32} (hd : decode bytes pc = .ok (.imul, 1)) (hp : pc + 1 = pc')  (r : own_Run p l e R s m args below meth c n0 Kf h k q (mkF m pc' Ls (.int (x * y) :: rest))) : own_Run p l e R s m args below meth c n0 Kf h k q (mkF m pc Ls (.int y :: .int x :: rest)) :=
  own_st (fun T locs X eT t kk => by subst hp; exact Jvm.Free.XS.imul X.here C.g_x rfl (hb C.g_by hd) rfl kk) r
theorem own_ior (C : own_Ctx p s m meth c Z own nm bytes maxL ret) {x y : Int32} (hd : decode bytes pc = .ok (.ior, 1)) (hp : pc + 1 = pc')  (r : own_Run p l e R s m args below meth c n0 Kf h k q (mkF m pc' Ls (.int (x ||| y) :: rest))) : own_Run p l e R s m args below meth c n0 Kf h k q (mkF m pc Ls (.int y :: .int x :: rest)) :=
  own_st (fun T locs X eT t kk => by subst hp; exact Jvm.Free.XT.ior X.here C.g_x rfl (hb C.g_by hd) rfl kk) r
theorem own_ixor (C : own_Ctx p s m meth c Z own nm bytes maxL ret) {x y : Int32} (hd : decode bytes pc = .ok (.ixor, 1)) (hp : pc + 1 = pc')  (r : own_Run p l e R s m args below meth c n0 Kf h k q (mkF m pc' Ls (.int (x ^^^ y) :: rest))) : own_Run p l e R s m args below meth c n0 Kf h k q (mkF m pc Ls (.int y :: .int x :: rest)) :=
  own_st (fun T locs X eT t kk => by subst hp; exact Jvm.Free.XT.ixor X.here C.g_x rfl (hb C.g_by hd) rfl kk) r
theorem own_ishl (C : own_Ctx p s m meth c Z own nm bytes maxL ret) {x y : Int32} (hd : decode bytes pc = .ok (.ishl, 1)) (hp : pc + 1 = pc')  (r : own_Run p l e R s m args below meth c n0 Kf h k q (mkF m pc' Ls (.int (x <<< (y &&& 31)) :: rest))) : own_Run p l e R s m args below meth c n0 Kf h k q (mkF m pc Ls (.int y :: .int x :: rest)) :=
  own_st (fun T locs X eT t kk => by subst hp; exact Jvm.Free.XT.ishl X.here C.g_x rfl (hb C.g_by hd) rfl kk) r
theorem own_ishr (C : own_Ctx p s m meth c Z own nm bytes maxL ret) {x y : Int32} (hd : decode bytes pc = .ok (.ishr, 1)) (hp : pc + 1 = pc')  (r : own_Run p l e R s m args below meth c n0 Kf h k q (mkF m pc' Ls (.int (x >>> (y &&& 31)) :: rest))) : own_Run p l e R s m args below meth c n0 Kf h k q (mkF m pc Ls (.int y :: .int x :: rest)) :=
  own_st (fun T locs X eT t kk => by subst hp; exact Jvm.Free.XT.ishr X.here C.g_x rfl (hb C.g_by hd) rfl kk) r
theorem own_iushr (C : own_Ctx p s m meth c Z own nm bytes maxL ret) {x y : Int32} (hd : decode bytes pc = .ok (.iushr, 1)) (hp : pc + 1 = pc')  (r : own_Run p l e R s m args below meth c n0 Kf h k q (mkF m pc' Ls (.int (Jvm.Free.XT.ushr x y) :: rest))) : own_Run p l e R s m args below meth c n0 Kf h k q (mkF m pc Ls (.int y :: .int x :: rest)) :=
  own_st (fun T locs X eT t kk => by subst hp; exact Jvm.Free.XT.iushr X.here C.g_x rfl (hb C.g_by hd) rfl kk) r
theorem own_irem (C : own_Ctx p s m meth c Z own nm bytes maxL ret) {x y : Int32} (hd : decode bytes pc = .ok (.irem, 1)) (hp : pc + 1 = pc') (hy : y ≠ 0) (r : own_Run p l e R s m args below meth c n0 Kf h k q (mkF m pc' Ls (.int (x % y) :: rest))) : own_Run p l e R s m args below meth c n0 Kf h k q (mkF m pc Ls (.int y :: .int x :: rest)) :=
  own_st (fun T locs X eT t kk => by subst hp; exact iremM X C.g_x rfl (hb C.g_by hd) rfl hy kk) r
theorem own_idivV (C : own_Ctx p s m meth c Z own nm bytes maxL ret) {x y v : Int32} (hd : decode bytes pc = .ok (.idiv, 1)) (hp : pc + 1 = pc') (hy : y ≠ 0) (hv : x / y = v) (r : own_Run p l e R s m args below meth c n0 Kf h k q (mkF m pc' Ls (.int v :: rest))) : own_Run p l e R s m args below meth c n0 Kf h k q (mkF m pc Ls (.int y :: .int x :: rest)) :=
  own_st (fun T locs X eT t kk => by subst hp; exact Jvm.Free.XS.idiv X.here C.g_x rfl (hb C.g_by hd) rfl hy (by rw [hv]; exact kk)) r
theorem own_ineg (C : own_Ctx p s m meth c Z own nm bytes maxL ret) {x : Int32} (hd : decode bytes pc = .ok (.ineg, 1)) (hp : pc + 1 = pc')  (r : own_Run p l e R s m args below meth c n0 Kf h k q (mkF m pc' Ls (.int (-x) :: rest))) : own_Run p l e R s m args below meth c n0 Kf h k q (mkF m pc Ls (.int x :: rest)) :=
  own_st (fun T locs X eT t kk => by subst hp; exact Jvm.Free.XS.ineg X.here C.g_x rfl (hb C.g_by hd) rfl kk) r
theorem own_ladd (C : own_Ctx p s m meth c Z own nm bytes maxL ret) {x y : Int64} (hd : decode bytes pc = .ok (.ladd, 1)) (hp : pc + 1 = pc')  (r : own_Run p l e R s m args below meth c n0 Kf h k q (mkF m pc' Ls (.long (x + y) :: rest))) : own_Run p l e R s m args below meth c n0 Kf h k q (mkF m pc Ls (.long y :: .long x :: rest)) :=
  own_st (fun T locs X eT t kk => by subst hp; exact Jvm.Free.XT.ladd X.here C.g_x rfl (hb C.g_by hd) rfl kk) r
theorem own_lsub (C : own_Ctx p s m meth c Z own nm bytes maxL ret) {x y : Int64} (hd : decode bytes pc = .ok (.lsub, 1)) (hp : pc + 1 = pc')  (r : own_Run p l e R s m args below meth c n0 Kf h k q (mkF m pc' Ls (.long (x - y) :: rest))) : own_Run p l e R s m args below meth c n0 Kf h k q (mkF m pc Ls (.long y :: .long x :: rest)) :=
  own_st (fun T locs X eT t kk => by subst hp; exact Jvm.Free.XT.lsub X.here C.g_x rfl (hb C.g_by hd) rfl kk) r
theorem own_land (C : own_Ctx p s m meth c Z own nm bytes maxL ret) {x y : Int64} (hd : decode bytes pc = .ok (.land, 1)) (hp : pc + 1 = pc')  (r : own_Run p l e R s m args below meth c n0 Kf h k q (mkF m pc' Ls (.long (x &&& y) :: rest))) : own_Run p l e R s m args below meth c n0 Kf h k q (mkF m pc Ls (.long y :: .long x :: rest)) :=
  own_st (fun T locs X eT t kk => by subst hp; exact Jvm.Free.XT.land X.here C.g_x rfl (hb C.g_by hd) rfl kk) r
theorem own_lor (C : own_Ctx p s m meth c Z own nm bytes maxL ret) {x y : Int64} (hd : decode bytes pc = .ok (.lor, 1)) (hp : pc + 1 = pc')  (r : own_Run p l e R s m args below meth c n0 Kf h k q (mkF m pc' Ls (.long (x ||| y) :: rest))) : own_Run p l e R s m args below meth c n0 Kf h k q (mkF m pc Ls (.long y :: .long x :: rest)) :=
  own_st (fun T locs X eT t kk => by subst hp; exact Jvm.Free.XT.lor X.here C.g_x rfl (hb C.g_by hd) rfl kk) r
theorem own_lxor (C : own_Ctx p s m meth c Z own nm bytes maxL ret) {x y : Int64} (hd : decode bytes pc = .ok (.lxor, 1)) (hp : pc + 1 = pc')  (r : own_Run p l e R s m args below meth c n0 Kf h k q (mkF m pc' Ls (.long (x ^^^ y) :: rest))) : own_Run p l e R s m args below meth c n0 Kf h k q (mkF m pc Ls (.long y :: .long x :: rest)) :=
  own_st (fun T locs X eT t kk => by subst hp; exact Jvm.Free.XT.lxor X.here C.g_x rfl (hb C.g_by hd) rfl kk) r
theorem own_lmul (C : own_Ctx p s m meth c Z own nm bytes maxL ret) {x y : Int64} (hd : decode bytes pc = .ok (.lmul, 1)) (hp : pc + 1 = pc')  (r : own_Run p l e R s m args below meth c n0 Kf h k q (mkF m pc' Ls (.long (x * y) :: rest))) : own_Run p l e R s m args below meth c n0 Kf h k q (mkF m pc Ls (.long y :: .long x :: rest)) :=
  own_st (fun T locs X eT t kk => by subst hp; exact Jvm.Free.XT.lmul X.here C.g_x rfl (hb C.g_by hd) rfl kk) r
theorem own_lcmp (C : own_Ctx p s m meth c Z own nm bytes maxL ret) {x y : Int64} (hd : decode bytes pc = .ok (.lcmp, 1)) (hp : pc + 1 = pc')  (r : own_Run p l e R s m args below meth c n0 Kf h k q (mkF m pc' Ls (.int (Jvm.Free.XT.cmpL x y) :: rest))) : own_Run p l e R s m args below meth c n0 Kf h k q (mkF m pc Ls (.long y :: .long x :: rest)) :=
  own_st (fun T locs X eT t kk => by subst hp; exact Jvm.Free.XT.lcmp X.here C.g_x rfl (hb C.g_by hd) rfl kk) r
theorem own_lshl (C : own_Ctx p s m meth c Z own nm bytes maxL ret) {x : Int64} {y : Int32} (hd : decode bytes pc = .ok (.lshl, 1)) (hp : pc + 1 = pc')  (r : own_Run p l e R s m args below meth c n0 Kf h k q (mkF m pc' Ls (.long (x <<< (y.toInt64 &&& 63)) :: rest))) : own_Run p l e R s m args below meth c n0 Kf h k q (mkF m pc Ls (.int y :: .long x :: rest)) :=
  own_st (fun T locs X eT t kk => by subst hp; exact Jvm.Free.XT.lshl X.here C.g_x rfl (hb C.g_by hd) rfl kk) r
theorem own_i2l (C : own_Ctx p s m meth c Z own nm bytes maxL ret) {x : Int32} (hd : decode bytes pc = .ok (.i2l, 1)) (hp : pc + 1 = pc')  (r : own_Run p l e R s m args below meth c n0 Kf h k q (mkF m pc' Ls (.long (x.toInt64) :: rest))) : own_Run p l e R s m args below meth c n0 Kf h k q (mkF m pc Ls (.int x :: rest)) :=
  own_st (fun T locs X eT t kk => by subst hp; exact Jvm.Free.XT.i2l X.here C.g_x rfl (hb C.g_by hd) rfl kk) r
theorem own_l2i (C : own_Ctx p s m meth c Z own nm bytes maxL ret) {x : Int64} (hd : decode bytes pc = .ok (.l2i, 1)) (hp : pc + 1 = pc')  (r : own_Run p l e R s m args below meth c n0 Kf h k q (mkF m pc' Ls (.int (x.toInt32) :: rest))) : own_Run p l e R s m args below meth c n0 Kf h k q (mkF m pc Ls (.long x :: rest)) :=
  own_st (fun T locs X eT t kk => by subst hp; exact Jvm.Free.XT.l2i X.here C.g_x rfl (hb C.g_by hd) rfl kk) r
theorem own_i2b (C : own_Ctx p s m meth c Z own nm bytes maxL ret) {x : Int32} (hd : decode bytes pc = .ok (.i2b, 1)) (hp : pc + 1 = pc')  (r : own_Run p l e R s m args below meth c n0 Kf h k q (mkF m pc' Ls (.int (x.toInt8.toInt32) :: rest))) : own_Run p l e R s m args below meth c n0 Kf h k q (mkF m pc Ls (.int x :: rest)) :=
  own_st (fun T locs X eT t kk => by subst hp; exact Jvm.Free.XT.i2b X.here C.g_x rfl (hb C.g_by hd) rfl kk) r
theorem own_i2c (C : own_Ctx p s m meth c Z own nm bytes maxL ret) {x : Int32} (hd : decode bytes pc = .ok (.i2c, 1)) (hp : pc + 1 = pc')  (r : own_Run p l e R s m args below meth c n0 Kf h k q (mkF m pc' Ls (.int (x.toUInt32.toUInt16.toUInt32.toInt32) :: rest))) : own_Run p l e R s m args below meth c n0 Kf h k q (mkF m pc Ls (.int x :: rest)) :=
  own_st (fun T locs X eT t kk => by subst hp; exact Jvm.Free.XT.i2c X.here C.g_x rfl (hb C.g_by hd) rfl kk) r
theorem own_iaddV (C : own_Ctx p s m meth c Z own nm bytes maxL ret) {x y v : Int32} (hd : decode bytes pc = .ok (.iadd, 1)) (hp : pc + 1 = pc') (hv : x + y = v) (r : own_Run p l e R s m args below meth c n0 Kf h k q (mkF m pc' Ls (.int v :: rest))) : own_Run p l e R s m args below meth c n0 Kf h k q (mkF m pc Ls (.int y :: .int x :: rest)) :=
  own_st (fun T locs X eT t kk => by subst hp; exact Jvm.Free.XS.iadd X.here C.g_x rfl (hb C.g_by hd) rfl (by rw [hv]; exact kk)) r
theorem own_isubV (C : own_Ctx p s m meth c Z own nm bytes maxL ret) {x y v : Int32} (hd : decode bytes pc = .ok (.isub, 1)) (hp : pc + 1 = pc') (hv : x - y = v) (r : own_Run p l e R s m args below meth c n0 Kf h k q (mkF m pc' Ls (.int v :: rest))) : own_Run p l e R s m args below meth c n0 Kf h k q (mkF m pc Ls (.int y :: .int x :: rest)) :=
  own_st (fun T locs X eT t kk => by subst hp; exact Jvm.Free.XS.isub X.here C.g_x rfl (hb C.g_by hd) rfl (by rw [hv]; exact kk)) r
theorem own_imulV (C : own_Ctx p s m meth c Z own nm bytes maxL ret) {x y v : Int32} (hd : decode bytes pc = .ok (.imul, 1)) (hp : pc + 1 = pc') (hv : x * y = v) (r : own_Run p l e R s m args below meth c n0 Kf h k q (mkF m pc' Ls (.int v :: rest))) : own_Run p l e R s m args below meth c n0 Kf h k q (mkF m pc Ls (.int y :: .int x :: rest)) :=
  own_st (fun T locs X eT t kk => by subst hp; exact Jvm.Free.XS.imul X.here C.g_x rfl (hb C.g_by hd) rfl (by rw [hv]; exact kk)) r
theorem own_iandV (C : own_Ctx p s m meth c Z own nm bytes maxL ret) {x y v : Int32} (hd : decode bytes pc = .ok (.iand, 1)) (hp : pc + 1 = pc') (hv : x &&& y = v) (r : own_Run p l e R s m args below meth c n0 Kf h k q (mkF m pc' Ls (.int v :: rest))) : own_Run p l e R s m args below meth c n0 Kf h k q (mkF m pc Ls (.int y :: .int x :: rest)) :=
  own_st (fun T locs X eT t kk => by subst hp; exact Jvm.Free.XS.iand X.here C.g_x rfl (hb C.g_by hd) rfl (by rw [hv]; exact kk)) r
theorem own_goto (C : own_Ctx p s m meth c Z own nm bytes maxL ret) {o : Int} {st : List Value} (hd : decode bytes pc = .ok (.goto o, 3)) (ho : (pc : Int) + o = (pc' : Int)) (r : own_Run p l e R s m args below meth c n0 Kf h k q (mkF m pc' Ls st)) : own_Run p l e R s m args below meth c n0 Kf h k q (mkF m pc Ls st) :=
  own_st (fun T locs X eT t kk => Jvm.Free.XS.goto X.here C.g_x rfl (pc0 := pc) (pc' := pc') rfl (hb C.g_by hd) (by omega) (by omega) kk) r
theorem own_ii_eq (C : own_Ctx p s m meth c Z own nm bytes maxL ret) {o : Int} {x y : Int32} (hd : decode bytes pc = .ok (.if_icmp .eq o, 3)) (ho : (pc : Int) + o = (pc1 : Int)) (hp : pc + 3 = pc2) (r1 : x = y → own_Run p l e R s m args below meth c n0 Kf h k q (mkF m pc1 Ls rest)) (r2 : ¬ x = y → own_Run p l e R s m args below meth c n0 Kf h k q (mkF m pc2 Ls rest)) : own_Run p l e R s m args below meth c n0 Kf h k q (mkF m pc Ls (.int y :: .int x :: rest)) := by
  by_cases hc : x = y
  · exact own_st (fun T locs X eT t kk => Jvm.Free.XS.icmpYes X.here C.g_x rfl (pc0 := pc) (pc' := pc1) rfl (hb C.g_by hd) rfl (Jvm.Free.XT.ii_eq_t hc) (by omega) (by omega) kk) (r1 hc)
  · subst hp; exact own_st (fun T locs X eT t kk => Jvm.Free.XS.icmpNo X.here C.g_x rfl (hb C.g_by hd) rfl (Jvm.Free.XT.ii_eq_f hc) kk) (r2 hc)
theorem own_i0_eq (C : own_Ctx p s m meth c Z own nm bytes maxL ret) {o : Int} {x : Int32} (hd : decode bytes pc = .ok (.ifCond .eq o, 3)) (ho : (pc : Int) + o = (pc1 : Int)) (hp : pc + 3 = pc2) (r1 : x = 0 → own_Run p l e R s m args below meth c n0 Kf h k q (mkF m pc1 Ls rest)) (r2 : ¬ x = 0 → own_Run p l e R s m args below meth c n0 Kf h k q (mkF m pc2 Ls rest)) : own_Run p l e R s m args below meth c n0 Kf h k q (mkF m pc Ls (.int x :: rest)) := by
  by_cases hc : x = 0
  · exact own_st (fun T locs X eT t kk => Jvm.Free.XS.ifYes X.here C.g_x rfl (pc0 := pc) (pc' := pc1) rfl (hb C.g_by hd) rfl (Jvm.Free.XT.i0_eq_t hc) (by omega) (by omega) kk) (r1 hc)
  · subst hp; exact own_st (fun T locs X eT t kk => Jvm.Free.XS.ifNo X.here C.g_x rfl (hb C.g_by hd) rfl (Jvm.Free.XT.i0_eq_f hc) kk) (r2 hc)
theorem own_ll_eq (C : own_Ctx p s m meth c Z own nm bytes maxL ret) {o : Int} {x y : Int64} (hd : decode bytes pc = .ok (.ifCond .eq o, 3)) (ho : (pc : Int) + o = (pc1 : Int)) (hp : pc + 3 = pc2) (r1 : x = y → own_Run p l e R s m args below meth c n0 Kf h k q (mkF m pc1 Ls rest)) (r2 : ¬ x = y → own_Run p l e R s m args below meth c n0 Kf h k q (mkF m pc2 Ls rest)) : own_Run p l e R s m args below meth c n0 Kf h k q (mkF m pc Ls (.int (Jvm.Free.XT.cmpL x y) :: rest)) := by
  by_cases hc : x = y
  · exact own_st (fun T locs X eT t kk => Jvm.Free.XS.ifYes X.here C.g_x rfl (pc0 := pc) (pc' := pc1) rfl (hb C.g_by hd) rfl (Jvm.Free.XT.ll_eq_t hc) (by omega) (by omega) kk) (r1 hc)
  · subst hp; exact own_st (fun T locs X eT t kk => Jvm.Free.XS.ifNo X.here C.g_x rfl (hb C.g_by hd) rfl (Jvm.Free.XT.ll_eq_f hc) kk) (r2 hc)
theorem own_ii_ne (C : own_Ctx p s m meth c Z own nm bytes maxL ret) {o : Int} {x y : Int32} (hd : decode bytes pc = .ok (.if_icmp .ne o, 3)) (ho : (pc : Int) + o = (pc1 : Int)) (hp : pc + 3 = pc2) (r1 : ¬ x = y → own_Run p l e R s m args below meth c n0 Kf h k q (mkF m pc1 Ls rest)) (r2 : x = y → own_Run p l e R s m args below meth c n0 Kf h k q (mkF m pc2 Ls rest)) : own_Run p l e R s m args below meth c n0 Kf h k q (mkF m pc Ls (.int y :: .int x :: rest)) := by
  by_cases hc : x = y
  · subst hp; exact own_st (fun T locs X eT t kk => Jvm.Free.XS.icmpNo X.here C.g_x rfl (hb C.g_by hd) rfl (Jvm.Free.XT.ii_ne_f hc) kk) (r2 hc)
  · exact own_st (fun T locs X eT t kk => Jvm.Free.XS.icmpYes X.here C.g_x rfl (pc0 := pc) (pc' := pc1) rfl (hb C.g_by hd) rfl (Jvm.Free.XT.ii_ne_t hc) (by omega) (by omega) kk) (r1 hc)
theorem own_i0_ne (C : own_Ctx p s m meth c Z own nm bytes maxL ret) {o : Int} {x : Int32} (hd : decode bytes pc = .ok (.ifCond .ne o, 3)) (ho : (pc : Int) + o = (pc1 : Int)) (hp : pc + 3 = pc2) (r1 : ¬ x = 0 → own_Run p l e R s m args below meth c n0 Kf h k q (mkF m pc1 Ls rest)) (r2 : x = 0 → own_Run p l e R s m args below meth c n0 Kf h k q (mkF m pc2 Ls rest)) : own_Run p l e R s m args below meth c n0 Kf h k q (mkF m pc Ls (.int x :: rest)) := by
  by_cases hc : x = 0
  · subst hp; exact own_st (fun T locs X eT t kk => Jvm.Free.XS.ifNo X.here C.g_x rfl (hb C.g_by hd) rfl (Jvm.Free.XT.i0_ne_f hc) kk) (r2 hc)
  · exact own_st (fun T locs X eT t kk => Jvm.Free.XS.ifYes X.here C.g_x rfl (pc0 := pc) (pc' := pc1) rfl (hb C.g_by hd) rfl (Jvm.Free.XT.i0_ne_t hc) (by omega) (by omega) kk) (r1 hc)
theorem own_ll_ne (C : own_Ctx p s m meth c Z own nm bytes maxL ret) {o : Int} {x y : Int64} (hd : decode bytes pc = .ok (.ifCond .ne o, 3)) (ho : (pc : Int) + o = (pc1 : Int)) (hp : pc + 3 = pc2) (r1 : ¬ x = y → own_Run p l e R s m args below meth c n0 Kf h k q (mkF m pc1 Ls rest)) (r2 : x = y → own_Run p l e R s m args below meth c n0 Kf h k q (mkF m pc2 Ls rest)) : own_Run p l e R s m args below meth c n0 Kf h k q (mkF m pc Ls (.int (Jvm.Free.XT.cmpL x y) :: rest)) := by
  by_cases hc : x = y
  · subst hp; exact own_st (fun T locs X eT t kk => Jvm.Free.XS.ifNo X.here C.g_x rfl (hb C.g_by hd) rfl (Jvm.Free.XT.ll_ne_f hc) kk) (r2 hc)
  · exact own_st (fun T locs X eT t kk => Jvm.Free.XS.ifYes X.here C.g_x rfl (pc0 := pc) (pc' := pc1) rfl (hb C.g_by hd) rfl (Jvm.Free.XT.ll_ne_t hc) (by omega) (by omega) kk) (r1 hc)
theorem own_ii_lt (C : own_Ctx p s m meth c Z own nm bytes maxL ret) {o : Int} {x y : Int32} (hd : decode bytes pc = .ok (.if_icmp .lt o, 3)) (ho : (pc : Int) + o = (pc1 : Int)) (hp : pc + 3 = pc2) (r1 : x < y → own_Run p l e R s m args below meth c n0 Kf h k q (mkF m pc1 Ls rest)) (r2 : ¬ x < y → own_Run p l e R s m args below meth c n0 Kf h k q (mkF m pc2 Ls rest)) : own_Run p l e R s m args below meth c n0 Kf h k q (mkF m pc Ls (.int y :: .int x :: rest)) := by
  by_cases hc : x < y
  · exact own_st (fun T locs X eT t kk => Jvm.Free.XS.icmpYes X.here C.g_x rfl (pc0 := pc) (pc' := pc1) rfl (hb C.g_by hd) rfl (Jvm.Free.XT.ii_lt_t hc) (by omega) (by omega) kk) (r1 hc)
  · subst hp; exact own_st (fun T locs X eT t kk => Jvm.Free.XS.icmpNo X.here C.g_x rfl (hb C.g_by hd) rfl (Jvm.Free.XT.ii_lt_f hc) kk) (r2 hc)
theorem own_i0_lt (C : own_Ctx p s m meth c Z own nm bytes maxL ret) {o : Int} {x : Int32} (hd : decode bytes pc = .ok (.ifCond .lt o, 3)) (ho : (pc : Int) + o = (pc1 : Int)) (hp : pc + 3 = pc2) (r1 : x < 0 → own_Run p l e R s m args below meth c n0 Kf h k q (mkF m pc1 Ls rest)) (r2 : ¬ x < 0 → own_Run p l e R s m args below meth c n0 Kf h k q (mkF m pc2 Ls rest)) : own_Run p l e R s m args below meth c n0 Kf h k q (mkF m pc Ls (.int x :: rest)) := by
  by_cases hc : x < 0
  · exact own_st (fun T locs X eT t kk => Jvm.Free.XS.ifYes X.here C.g_x rfl (pc0 := pc) (pc' := pc1) rfl (hb C.g_by hd) rfl (Jvm.Free.XT.i0_lt_t hc) (by omega) (by omega) kk) (r1 hc)
  · subst hp; exact own_st (fun T locs X eT t kk => Jvm.Free.XS.ifNo X.here C.g_x rfl (hb C.g_by hd) rfl (Jvm.Free.XT.i0_lt_f hc) kk) (r2 hc)
theorem own_ll_lt (C : own_Ctx p s m meth c Z own nm bytes maxL ret) {o : Int} {x y : Int64} (hd : decode bytes pc = .ok (.ifCond .lt o, 3)) (ho : (pc : Int) + o = (pc1 : Int)) (hp : pc + 3 = pc2) (r1 : x < y → own_Run p l e R s m args below meth c n0 Kf h k q (mkF m pc1 Ls rest)) (r2 : ¬ x < y → own_Run p l e R s m args below meth c n0 Kf h k q (mkF m pc2 Ls rest)) : own_Run p l e R s m args below meth c n0 Kf h k q (mkF m pc Ls (.int (Jvm.Free.XT.cmpL x y) :: rest)) := by
  by_cases hc : x < y
  · exact own_st (fun T locs X eT t kk => Jvm.Free.XS.ifYes X.here C.g_x rfl (pc0 := pc) (pc' := pc1) rfl (hb C.g_by hd) rfl (Jvm.Free.XT.ll_lt_t hc) (by omega) (by omega) kk) (r1 hc)
  · subst hp; exact own_st (fun T locs X eT t kk => Jvm.Free.XS.ifNo X.here C.g_x rfl (hb C.g_by hd) rfl (Jvm.Free.XT.ll_lt_f hc) kk) (r2 hc)
theorem own_ii_ge (C : own_Ctx p s m meth c Z own nm bytes maxL ret) {o : Int} {x y : Int32} (hd : decode bytes pc = .ok (.if_icmp .ge o, 3)) (ho : (pc : Int) + o = (pc1 : Int)) (hp : pc + 3 = pc2) (r1 : ¬ x < y → own_Run p l e R s m args below meth c n0 Kf h k q (mkF m pc1 Ls rest)) (r2 : x < y → own_Run p l e R s m args below meth c n0 Kf h k q (mkF m pc2 Ls rest)) : own_Run p l e R s m args below meth c n0 Kf h k q (mkF m pc Ls (.int y :: .int x :: rest)) := by
  by_cases hc : x < y
  · subst hp; exact own_st (fun T locs X eT t kk => Jvm.Free.XS.icmpNo X.here C.g_x rfl (hb C.g_by hd) rfl (Jvm.Free.XT.ii_ge_f hc) kk) (r2 hc)
  · exact own_st (fun T locs X eT t kk => Jvm.Free.XS.icmpYes X.here C.g_x rfl (pc0 := pc) (pc' := pc1) rfl (hb C.g_by hd) rfl (Jvm.Free.XT.ii_ge_t hc) (by omega) (by omega) kk) (r1 hc)
theorem own_i0_ge (C : own_Ctx p s m meth c Z own nm bytes maxL ret) {o : Int} {x : Int32} (hd : decode bytes pc = .ok (.ifCond .ge o, 3)) (ho : (pc : Int) + o = (pc1 : Int)) (hp : pc + 3 = pc2) (r1 : ¬ x < 0 → own_Run p l e R s m args below meth c n0 Kf h k q (mkF m pc1 Ls rest)) (r2 : x < 0 → own_Run p l e R s m args below meth c n0 Kf h k q (mkF m pc2 Ls rest)) : own_Run p l e R s m args below meth c n0 Kf h k q (mkF m pc Ls (.int x :: rest)) := by
  by_cases hc : x < 0
  · subst hp; exact own_st (fun T locs X eT t kk => Jvm.Free.XS.ifNo X.here C.g_x rfl (hb C.g_by hd) rfl (Jvm.Free.XT.i0_ge_f hc) kk) (r2 hc)
  · exact own_st (fun T locs X eT t kk => Jvm.Free.XS.ifYes X.here C.g_x rfl (pc0 := pc) (pc' := pc1) rfl (hb C.g_by hd) rfl (Jvm.Free.XT.i0_ge_t hc) (by omega) (by omega) kk) (r1 hc)
theorem own_ll_ge (C : own_Ctx p s m meth c Z own nm bytes maxL ret) {o : Int} {x y : Int64} (hd : decode bytes pc = .ok (.ifCond .ge o, 3)) (ho : (pc : Int) + o = (pc1 : Int)) (hp : pc + 3 = pc2) (r1 : ¬ x < y → own_Run p l e R s m args below meth c n0 Kf h k q (mkF m pc1 Ls rest)) (r2 : x < y → own_Run p l e R s m args below meth c n0 Kf h k q (mkF m pc2 Ls rest)) : own_Run p l e R s m args below meth c n0 Kf h k q (mkF m pc Ls (.int (Jvm.Free.XT.cmpL x y) :: rest)) := by
  by_cases hc : x < y
  · subst hp; exact own_st (fun T locs X eT t kk => Jvm.Free.XS.ifNo X.here C.g_x rfl (hb C.g_by hd) rfl (Jvm.Free.XT.ll_ge_f hc) kk) (r2 hc)
  · exact own_st (fun T locs X eT t kk => Jvm.Free.XS.ifYes X.here C.g_x rfl (pc0 := pc) (pc' := pc1) rfl (hb C.g_by hd) rfl (Jvm.Free.XT.ll_ge_t hc) (by omega) (by omega) kk) (r1 hc)
theorem own_ii_gt (C : own_Ctx p s m meth c Z own nm bytes maxL ret) {o : Int} {x y : Int32} (hd : decode bytes pc = .ok (.if_icmp .gt o, 3)) (ho : (pc : Int) + o = (pc1 : Int)) (hp : pc + 3 = pc2) (r1 : y < x → own_Run p l e R s m args below meth c n0 Kf h k q (mkF m pc1 Ls rest)) (r2 : ¬ y < x → own_Run p l e R s m args below meth c n0 Kf h k q (mkF m pc2 Ls rest)) : own_Run p l e R s m args below meth c n0 Kf h k q (mkF m pc Ls (.int y :: .int x :: rest)) := by
  by_cases hc : y < x
  · exact own_st (fun T locs X eT t kk => Jvm.Free.XS.icmpYes X.here C.g_x rfl (pc0 := pc) (pc' := pc1) rfl (hb C.g_by hd) rfl (Jvm.Free.XT.ii_gt_t hc) (by omega) (by omega) kk) (r1 hc)
  · subst hp; exact own_st (fun T locs X eT t kk => Jvm.Free.XS.icmpNo X.here C.g_x rfl (hb C.g_by hd) rfl (Jvm.Free.XT.ii_gt_f hc) kk) (r2 hc)
theorem own_i0_gt (C : own_Ctx p s m meth c Z own nm bytes maxL ret) {o : Int} {x : Int32} (hd : decode bytes pc = .ok (.ifCond .gt o, 3)) (ho : (pc : Int) + o = (pc1 : Int)) (hp : pc + 3 = pc2) (r1 : 0 < x → own_Run p l e R s m args below meth c n0 Kf h k q (mkF m pc1 Ls rest)) (r2 : ¬ 0 < x → own_Run p l e R s m args below meth c n0 Kf h k q (mkF m pc2 Ls rest)) : own_Run p l e R s m args below meth c n0 Kf h k q (mkF m pc Ls (.int x :: rest)) := by
  by_cases hc : 0 < x
  · exact own_st (fun T locs X eT t kk => Jvm.Free.XS.ifYes X.here C.g_x rfl (pc0 := pc) (pc' := pc1) rfl (hb C.g_by hd) rfl (Jvm.Free.XT.i0_gt_t hc) (by omega) (by omega) kk) (r1 hc)
  · subst hp; exact own_st (fun T locs X eT t kk => Jvm.Free.XS.ifNo X.here C.g_x rfl (hb C.g_by hd) rfl (Jvm.Free.XT.i0_gt_f hc) kk) (r2 hc)
theorem own_ll_gt (C : own_Ctx p s m meth c Z own nm bytes maxL ret) {o : Int} {x y : Int64} (hd : decode bytes pc = .ok (.ifCond .gt o, 3)) (ho : (pc : Int) + o = (pc1 : Int)) (hp : pc + 3 = pc2) (r1 : y < x → own_Run p l e R s m args below meth c n0 Kf h k q (mkF m pc1 Ls rest)) (r2 : ¬ y < x → own_Run p l e R s m args below meth c n0 Kf h k q (mkF m pc2 Ls rest)) : own_Run p l e R s m args below meth c n0 Kf h k q (mkF m pc Ls (.int (Jvm.Free.XT.cmpL x y) :: rest)) := by
  by_cases hc : y < x
  · exact own_st (fun T locs X eT t kk => Jvm.Free.XS.ifYes X.here C.g_x rfl (pc0 := pc) (pc' := pc1) rfl (hb C.g_by hd) rfl (Jvm.Free.XT.ll_gt_t hc) (by omega) (by omega) kk) (r1 hc)
  · subst hp; exact own_st (fun T locs X eT t kk => Jvm.Free.XS.ifNo X.here C.g_x rfl (hb C.g_by hd) rfl (Jvm.Free.XT.ll_gt_f hc) kk) (r2 hc)
theorem own_ii_le (C : own_Ctx p s m meth c Z own nm bytes maxL ret) {o : Int} {x y : Int32} (hd : decode bytes pc = .ok (.if_icmp .le o, 3)) (ho : (pc : Int) + o = (pc1 : Int)) (hp : pc + 3 = pc2) (r1 : ¬ y < x → own_Run p l e R s m args below meth c n0 Kf h k q (mkF m pc1 Ls rest)) (r2 : y < x → own_Run p l e R s m args below meth c n0 Kf h k q (mkF m pc2 Ls rest)) : own_Run p l e R s m args below meth c n0 Kf h k q (mkF m pc Ls (.int y :: .int x :: rest)) := by
  by_cases hc : y < x
  · subst hp; exact own_st (fun T locs X eT t kk => Jvm.Free.XS.icmpNo X.here C.g_x rfl (hb C.g_by hd) rfl (Jvm.Free.XT.ii_le_f hc) kk) (r2 hc)
  · exact own_st (fun T locs X eT t kk => Jvm.Free.XS.icmpYes X.here C.g_x rfl (pc0 := pc) (pc' := pc1) rfl (hb C.g_by hd) rfl (Jvm.Free.XT.ii_le_t hc) (by omega) (by omega) kk) (r1 hc)
theorem own_i0_le (C : own_Ctx p s m meth c Z own nm bytes maxL ret) {o : Int} {x : Int32} (hd : decode bytes pc = .ok (.ifCond .le o, 3)) (ho : (pc : Int) + o = (pc1 : Int)) (hp : pc + 3 = pc2) (r1 : ¬ 0 < x → own_Run p l e R s m args below meth c n0 Kf h k q (mkF m pc1 Ls rest)) (r2 : 0 < x → own_Run p l e R s m args below meth c n0 Kf h k q (mkF m pc2 Ls rest)) : own_Run p l e R s m args below meth c n0 Kf h k q (mkF m pc Ls (.int x :: rest)) := by
  by_cases hc : 0 < x
  · subst hp; exact own_st (fun T locs X eT t kk => Jvm.Free.XS.ifNo X.here C.g_x rfl (hb C.g_by hd) rfl (Jvm.Free.XT.i0_le_f hc) kk) (r2 hc)
  · exact own_st (fun T locs X eT t kk => Jvm.Free.XS.ifYes X.here C.g_x rfl (pc0 := pc) (pc' := pc1) rfl (hb C.g_by hd) rfl (Jvm.Free.XT.i0_le_t hc) (by omega) (by omega) kk) (r1 hc)
theorem own_ll_le (C : own_Ctx p s m meth c Z own nm bytes maxL ret) {o : Int} {x y : Int64} (hd : decode bytes pc = .ok (.ifCond .le o, 3)) (ho : (pc : Int) + o = (pc1 : Int)) (hp : pc + 3 = pc2) (r1 : ¬ y < x → own_Run p l e R s m args below meth c n0 Kf h k q (mkF m pc1 Ls rest)) (r2 : y < x → own_Run p l e R s m args below meth c n0 Kf h k q (mkF m pc2 Ls rest)) : own_Run p l e R s m args below meth c n0 Kf h k q (mkF m pc Ls (.int (Jvm.Free.XT.cmpL x y) :: rest)) := by
  by_cases hc : y < x
  · subst hp; exact own_st (fun T locs X eT t kk => Jvm.Free.XS.ifNo X.here C.g_x rfl (hb C.g_by hd) rfl (Jvm.Free.XT.ll_le_f hc) kk) (r2 hc)
  · exact own_st (fun T locs X eT t kk => Jvm.Free.XS.ifYes X.here C.g_x rfl (pc0 := pc) (pc' := pc1) rfl (hb C.g_by hd) rfl (Jvm.Free.XT.ll_le_t hc) (by omega) (by omega) kk) (r1 hc)
theorem own_aa_eq (C : own_Ctx p s m meth c Z own nm bytes maxL ret) {o : Int} {x y : Value} (hx1 : x.isRef = true) (hy1 : y.isRef = true) (hd : decode bytes pc = .ok (.if_acmp .eq o, 3)) (ho : (pc : Int) + o = (pc1 : Int)) (hp : pc + 3 = pc2) (r1 : x = y → own_Run p l e R s m args below meth c n0 Kf h k q (mkF m pc1 Ls rest)) (r2 : ¬ x = y → own_Run p l e R s m args below meth c n0 Kf h k q (mkF m pc2 Ls rest)) : own_Run p l e R s m args below meth c n0 Kf h k q (mkF m pc Ls (y :: x :: rest)) := by
  by_cases hc : x = y
  · exact own_st (fun T locs X eT t kk => Jvm.Free.XT.acmpYes X.here C.g_x rfl (pc0 := pc) (pc' := pc1) rfl (hb C.g_by hd) rfl hx1 hy1 (Jvm.Free.XT.aa_eq_t hc) (by omega) (by omega) kk) (r1 hc)
  · subst hp; exact own_st (fun T locs X eT t kk => Jvm.Free.XT.acmpNo X.here C.g_x rfl (hb C.g_by hd) rfl hx1 hy1 (Jvm.Free.XT.aa_eq_f hc) kk) (r2 hc)
theorem own_aa_ne (C : own_Ctx p s m meth c Z own nm bytes maxL ret) {o : Int} {x y : Value} (hx1 : x.isRef = true) (hy1 : y.isRef = true) (hd : decode bytes pc = .ok (.if_acmp .ne o, 3)) (ho : (pc : Int) + o = (pc1 : Int)) (hp : pc + 3 = pc2) (r1 : ¬ x = y → own_Run p l e R s m args below meth c n0 Kf h k q (mkF m pc1 Ls rest)) (r2 : x = y → own_Run p l e R s m args below meth c n0 Kf h k q (mkF m pc2 Ls rest)) : own_Run p l e R s m args below meth c n0 Kf h k q (mkF m pc Ls (y :: x :: rest)) := by
  by_cases hc : x = y
  · subst hp; exact own_st (fun T locs X eT t kk => Jvm.Free.XT.acmpNo X.here C.g_x rfl (hb C.g_by hd) rfl hx1 hy1 (Jvm.Free.XT.aa_ne_f hc) kk) (r2 hc)
  · exact own_st (fun T locs X eT t kk => Jvm.Free.XT.acmpYes X.here C.g_x rfl (pc0 := pc) (pc' := pc1) rfl (hb C.g_by hd) rfl hx1 hy1 (Jvm.Free.XT.aa_ne_t hc) (by omega) (by omega) kk) (r1 hc)
theorem own_nullNo (C : own_Ctx p s m meth c Z own nm bytes maxL ret) {o : Int} {a : Addr} (hd : decode bytes pc = .ok (.ifnull o, 3)) (hp : pc + 3 = pc') (r : own_Run p l e R s m args below meth c n0 Kf h k q (mkF m pc' Ls rest)) : own_Run p l e R s m args below meth c n0 Kf h k q (mkF m pc Ls (.ref a :: rest)) :=
  own_st (fun T locs X eT t kk => by subst hp; exact Jvm.Free.XS.ifnullNo X.here C.g_x rfl (hb C.g_by hd) rfl kk) r
theorem own_getF (C : own_Ctx p s m meth c Z own nm bytes maxL ret) {i : Nat} {O n d : String} {a : Addr} {v : Value} (w : (Jvm.Cond.fieldLink own i O n d).before a0 Z = true) (F : Fld Z h a O n d v) (hd : decode bytes pc = .ok (.getfield i, 3)) (hp : pc + 3 = pc') (r : own_Run p l e R s m args below meth c n0 Kf h k q (mkF m pc' Ls (v :: rest))) : own_Run p l e R s m args below meth c n0 Kf h k q (mkF m pc Ls (.ref a :: rest)) := fun T locs X eT N => by
  subst hp
  obtain ⟨T1, X1, e1, st1⟩ := getF X C.g_x C.g_z C.g_own (host := "") (Or.inl w) Via.refl eT F (g := mkF m pc Ls (.ref a :: rest)) rfl rfl (hb C.g_by hd)
  obtain ⟨t, o, h1, h2⟩ := r T1 locs X1 e1 N
  exact ⟨t, o, st1 _ h1, h2⟩
theorem own_putF (C : own_Ctx p s m meth c Z own nm bytes maxL ret) {i kk : Nat} {O n d K : String} {a : Addr} {v old : Value} {ty : FieldType} (w : (Jvm.Cond.fieldLink own i O n d).before a0 Z = true) (F : Fld Z h a O n d old) (E : Exa Z h a K) (L : (Jvm.Cond.lays K O n d).before a0 Z = true ∨ ((Jvm.Cond.laysFinal K O n d).before a0 Z = true ∧ own = O ∧ nm = "<init>")) (wi : (Jvm.Cond.instantiable K kk).before a0 Z = true) (hty : parseFieldDescriptor d = some ty) (hn : narrow ty v = v) (hf : fits ty v = true) (ga : n0 ≤ a) (hd : decode bytes pc = .ok (.putfield i, 3)) (hp : pc + 3 = pc')
    (r : ∀ h', Wr h h' a (Jvm.RoadKit.slotOf Z O n d) v → own_Run p l e R s m args below meth c n0 Kf h' k q (mkF m pc' Ls rest)) : own_Run p l e R s m args below meth c n0 Kf h k q (mkF m pc Ls (v :: .ref a :: rest)) := fun T locs X eT N => by
  subst hp
  obtain ⟨T1, h1, X1, e1, W1, st1⟩ := putF X C.g_x C.g_z C.g_own (host := "") (Or.inl w) Via.refl eT F E (L.imp id fun x => ⟨x.1, x.2.1, C.g_nm.trans x.2.2⟩) wi hty hn hf (g := mkF m pc Ls (v :: .ref a :: rest)) rfl rfl (hb C.g_by hd)
  obtain ⟨t, o, h2, h3⟩ := r h1 W1 T1 _ X1 e1 (Fr.snoc X1 N ga)
  exact ⟨t, o, st1 _ h2, h3⟩
theorem own_getS (C : own_Ctx p s m meth c Z own nm bytes maxL ret) {i : Nat} {O n d : String} {v : Value} (w : (Jvm.Cond.fieldLink own i O n d).before a0 Z = true) (F : Sta Z h O n d v) (hd : decode bytes pc = .ok (.getstatic i, 3)) (hp : pc + 3 = pc') (r : own_Run p l e R s m args below meth c n0 Kf h k q (mkF m pc' Ls (v :: rest))) : own_Run p l e R s m args below meth c n0 Kf h k q (mkF m pc Ls rest) := fun T locs X eT N => by
  subst hp
  obtain ⟨T1, X1, e1, st1⟩ := getS (host := "") X C.g_x C.g_z C.g_own w Via.refl eT F (g := mkF m pc Ls rest) rfl (hb C.g_by hd)
  obtain ⟨t, o, h1, h2⟩ := r T1 locs X1 e1 N
  exact ⟨t, o, st1 _ h1, h2⟩
theorem own_new (C : own_Ctx p s m meth c Z own nm bytes maxL ret) {i n : Nat} {K : String} (w : (Jvm.Cond.classLink own i K).before a0 Z = true) (wi : (Jvm.Cond.instantiable K n).before a0 Z = true) (wz : (Jvm.Cond.initialized K).before a0 Z = true) (Z0 : n0 ≤ h.size) (hd : decode bytes pc = .ok (.new i, 3)) (hp : pc + 3 = pc') (hc : k + 1 ≤ R.cells) (hs : q + n ≤ R.slots)
    (r : ∀ h' a, a = h.size → n0 ≤ a → n0 ≤ h'.size → Ext h h' → Exa Z h' a K → (∀ {O nm d : String} {ty : FieldType}, Laid Z a0 K O nm d → parseFieldDescriptor d = some ty → Fld Z h' a O nm d (defaultValue ty)) → own_Run p l e R s m args below meth c n0 Kf h' (k + 1) (q + n) (mkF m pc' Ls (.ref a :: rest))) : own_Run p l e R s m args below meth c n0 Kf h k q (mkF m pc Ls rest) := fun T locs X eT N => by
  subst hp
  obtain ⟨T1, h1, X1, e1, E1, A1, D1, -, st1⟩ := newO X C.g_x C.g_z C.g_own w wi wz eT (g := mkF m pc Ls rest) rfl (hb C.g_by hd) hc hs
  obtain ⟨t, o, h2, h3⟩ := r h1 h.size rfl Z0 (Nat.le_trans Z0 E1.1) E1 A1 (fun L ht => D1 L ht) T1 _ X1 e1 N
  exact ⟨t, o, st1 _ h2, h3⟩
theorem own_initO (C : own_Ctx p s m meth c Z own nm bytes maxL ret) {i : Nat} {a : Addr} {W : Nat} (w1 : (Jvm.Cond.methodLink own i Lib.objectInit).before a0 Z = true) (w2 : (Jvm.Cond.instanceMethod Lib.objectInit).before a0 Z = true) (w3 : (Jvm.Cond.code Lib.objectInit ⟨#[0xb1]⟩ 1 none).before a0 Z = true) (hd : decode bytes pc = .ok (.invokespecial i, 3)) (hp : pc + 3 = pc') (hsz : Ls.size = maxL) (hf : 1 ≤ R.frames) (hW : 0 + (rest.map fun v => v.category).sum ≤ W) (hl : W + 12 ≤ R.locals)
    (r : own_Run p l e R s m args below meth c n0 Kf h k q (mkF m pc' Ls rest)) : own_Run p l e R s m args below meth c n0 Kf h k q (mkF m pc Ls (.ref a :: rest)) := fun T locs X eT N => by
  subst hp
  obtain ⟨T1, X1, e1, st1⟩ := initO X C.g_x C.g_z C.g_own w1 w2 w3 eT (g := mkF m pc Ls (.ref a :: rest)) rfl (by rw [C.g_ml]; exact hsz) rfl (hb C.g_by hd) hf (W := W) (by show 2 * 0 + _ ≤ _; exact hW) hl
  obtain ⟨t, o, h1, h2⟩ := r T1 locs X1 e1 N
  exact ⟨t, o, st1 _ h1, h2⟩
theorem own_callN (C : own_Ctx p s m meth c Z own nm bytes maxL ret) {i : Nat} {y : MethodName} {cb : ByteArray} {cm : Nat} {rm : Room} {a : Addr} {argsL : List Value} {Q' : Option Value → Heap → Prop} (W : Nat) (hy1 : y.name = "<init>") (w1 : (Jvm.Cond.methodLink own i y).before a0 Z = true) (w2 : (Jvm.Cond.instanceMethod y).before a0 Z = true) (w3 : (Jvm.Cond.code y cb cm none).before a0 Z = true) (w4 : (Jvm.Cond.initialized y.cls).before a0 Z = true) (hy : y.cls ≠ "java/lang/invoke/MethodHandle" ∧ y.cls ≠ "java/lang/invoke/VarHandle")
    (hM : own_Met l Z n0 y cb cm none rm [] (.ref a :: argsL).toArray h Q') (hf : rm.frames + 1 ≤ R.frames) (hl : W + (cm + 11) + rm.locals ≤ R.locals) (hlen : ∀ sig, parseMethodDescriptor y.desc = some sig → argsL.length = sig.parameters.length) {st : List Value} (hst : st = argsL.reverse ++ .ref a :: rest) (hW : 0 + (rest.map fun v => v.category).sum ≤ W) (hd : decode bytes pc = .ok (.invokespecial i, 3)) (hp : pc + 3 = pc') (hsz : Ls.size = maxL) (hc : k + rm.cells ≤ R.cells) (hs : q + rm.slots ≤ R.slots)
    (r : ∀ v h', Q' v h' → own_Run p l e R s m args below meth c n0 Kf h' (k + rm.cells) (q + rm.slots) (mkF m pc' Ls (v.toList ++ rest))) : own_Run p l e R s m args below meth c n0 Kf h k q (mkF m pc Ls st) := fun T locs X eT N => by
  subst hp
  obtain ⟨v, _, ⟨T1, L1, k1, n1⟩, -, X1, ⟨Lc1, hQ1, l1, y1, z1⟩, st1⟩ := X.specialBack C.g_x (y := y) hy1 C.g_own (mvT C.g_z w1) (mvT C.g_z w2) (mvT C.g_z w3) hy (backOf (W := W) (Q := fun v h L => Fr n0 L ∧ Q' v h) hM C.g_z w3 w4 hf hl) (g := mkF m pc Ls st) rfl (by rw [C.g_ml]; exact hsz) (Steps.refl _) (a := a) (argsL := argsL) (rest := rest) hlen hst (by show 2 * 0 + _ ≤ _; exact hW) (hb C.g_by hd) (fun _ _ => ⟨rfl, eT, hc, hs⟩)
  dsimp only [Pt.U, Pt.locs, Pt.cells, Pt.slots] at X1 l1 y1 z1 st1 hQ1
  subst l1 y1 z1
  obtain ⟨t, o, h2, h3⟩ := r v T1.heap hQ1.2 T1 _ X1 rfl (Fr.app N hQ1.1)
  exact ⟨t, o, st1.trans h2, h3⟩
theorem own_callV (C : own_Ctx p s m meth c Z own nm bytes maxL ret) {i : Nat} {y : MethodName} {cb : ByteArray} {cm : Nat} {cret : Option FieldType} {rm : Room} {a : Addr} {argsL : List Value} {Q' : Option Value → Heap → Prop} (W : Nat) (E : Exa Z h a y.cls) (w1 : (Jvm.Cond.methodLink own i y).before a0 Z = true) (w2 : (Jvm.Cond.declares y).before a0 Z = true) (w3 : (Jvm.Cond.selects y.cls y y).before a0 Z = true) (w4 : (Jvm.Cond.instanceMethod y).before a0 Z = true) (w5 : (Jvm.Cond.code y cb cm cret).before a0 Z = true) (w6 : (Jvm.Cond.initialized y.cls).before a0 Z = true) (hy : y.cls ≠ "java/lang/invoke/MethodHandle" ∧ y.cls ≠ "java/lang/invoke/VarHandle")
    (hM : own_Met l Z n0 y cb cm cret rm [] (.ref a :: argsL).toArray h Q') (hf : rm.frames + 1 ≤ R.frames) (hl : W + (cm + 11) + rm.locals ≤ R.locals) (hlen : ∀ sig, parseMethodDescriptor y.desc = some sig → argsL.length = sig.parameters.length) {st : List Value} (hst : st = argsL.reverse ++ .ref a :: rest) (hW : 0 + (rest.map fun v => v.category).sum ≤ W) (hd : decode bytes pc = .ok (.invokevirtual i, 3)) (hp : pc + 3 = pc') (hsz : Ls.size = maxL) (hc : k + rm.cells ≤ R.cells) (hs : q + rm.slots ≤ R.slots)
    (r : ∀ v h', Q' v h' → own_Run p l e R s m args below meth c n0 Kf h' (k + rm.cells) (q + rm.slots) (mkF m pc' Ls (v.toList ++ rest))) : own_Run p l e R s m args below meth c n0 Kf h k q (mkF m pc Ls st) := fun T locs X eT N => by
  subst hp
  obtain ⟨cq, kq, qa, qb, qc⟩ := isOf C.g_z eT E
  obtain ⟨v, _, ⟨T1, L1, k1, n1⟩, -, X1, ⟨Lc1, hQ1, l1, y1, z1⟩, st1⟩ := X.virtualBack C.g_x (y := y) (z := y) C.g_own (mvT C.g_z w1) (mvT C.g_z w2) (notFace_of_selects (args := #[]) (mvT C.g_z w3)) (mvT C.g_z w3) (mvT C.g_z w4) hy (backOf (W := W) (Q := fun v h L => Fr n0 L ∧ Q' v h) hM C.g_z w5 w6 hf hl) qa qc (g := mkF m pc Ls st) rfl (by rw [C.g_ml]; exact hsz) (Steps.refl _) (argsL := argsL) (rest := rest) hlen hst (by show 2 * 0 + _ ≤ _; exact hW) (hb C.g_by hd) (fun _ _ => ⟨rfl, eT, hc, hs⟩)
  dsimp only [Pt.U, Pt.locs, Pt.cells, Pt.slots] at X1 l1 y1 z1 st1 hQ1
  subst l1 y1 z1
  obtain ⟨t, o, h2, h3⟩ := r v T1.heap hQ1.2 T1 _ X1 rfl (Fr.app N hQ1.1)
  exact ⟨t, o, st1.trans h2, h3⟩
theorem own_callS (C : own_Ctx p s m meth c Z own nm bytes maxL ret) {i : Nat} {y : MethodName} {cb : ByteArray} {cm : Nat} {cret : Option FieldType} {rm : Room} {argsL : List Value} {Q' : Option Value → Heap → Prop} (W : Nat) (w1 : (Jvm.Cond.methodLink own i y).before a0 Z = true) (w2 : (Jvm.Cond.static y).before a0 Z = true) (w3 : (Jvm.Cond.initialized y.cls).before a0 Z = true) (w4 : (Jvm.Cond.code y cb cm cret).before a0 Z = true) (hy : y.cls ≠ "java/lang/invoke/MethodHandle" ∧ y.cls ≠ "java/lang/invoke/VarHandle")
    (hM : own_Met l Z n0 y cb cm cret rm [] argsL.toArray h Q') (hf : rm.frames + 1 ≤ R.frames) (hl : W + (cm + 11) + rm.locals ≤ R.locals) (hlen : ∀ sig, parseMethodDescriptor y.desc = some sig → argsL.length = sig.parameters.length) {st : List Value} (hst : st = argsL.reverse ++ rest) (hW : 0 + (rest.map fun v => v.category).sum ≤ W) (hd : decode bytes pc = .ok (.invokestatic i, 3)) (hp : pc + 3 = pc') (hsz : Ls.size = maxL) (hc : k + rm.cells ≤ R.cells) (hs : q + rm.slots ≤ R.slots)
    (r : ∀ v h', Q' v h' → own_Run p l e R s m args below meth c n0 Kf h' (k + rm.cells) (q + rm.slots) (mkF m pc' Ls (v.toList ++ rest))) : own_Run p l e R s m args below meth c n0 Kf h k q (mkF m pc Ls st) := fun T locs X eT N => by
  subst hp
  obtain ⟨v, _, ⟨T1, L1, k1, n1⟩, -, X1, ⟨Lc1, hQ1, l1, y1, z1⟩, st1⟩ := Jvm.LawKit.callS X C.g_x (y := y) C.g_own (mvT C.g_z w1) (mvT C.g_z w2) (mvT C.g_z w3) (mvT C.g_z w4) hy (backOf (W := W) (Q := fun v h L => Fr n0 L ∧ Q' v h) hM C.g_z w4 w3 hf hl) (g := mkF m pc Ls st) rfl (by rw [C.g_ml]; exact hsz) (argsL := argsL) (rest := rest) hlen hst (by show 2 * 0 + _ ≤ _; exact hW) (hb C.g_by hd) (fun _ _ => ⟨rfl, eT, hc, hs⟩)
  dsimp only [Pt.U, Pt.locs, Pt.cells, Pt.slots] at X1 l1 y1 z1 st1 hQ1
  subst l1 y1 z1
  obtain ⟨t, o, h2, h3⟩ := r v T1.heap hQ1.2 T1 _ X1 rfl (Fr.app N hQ1.1)
  exact ⟨t, o, st1 _ h2, h3⟩
theorem own_callP (C : own_Ctx p s m meth c Z own nm bytes maxL ret) {i nf : Nat} {y : MethodName} {cb : ByteArray} {cm : Nat} {cret : Option FieldType} {rm : Room} {a : Addr} {argsL : List Value} {K : String} {Q' : Option Value → Heap → Prop} (W : Nat) (E : Exa Z h a K) (w1 : (Jvm.Cond.methodLink own i y).before a0 Z = true) (w2 : (Jvm.Cond.instanceMethod y).before a0 Z = true) (w3 : (Jvm.Cond.privateMethod y).before a0 Z = true) (w4 : (Jvm.Cond.instantiable y.cls nf).before a0 Z = true) (w5 : (Jvm.Cond.code y cb cm cret).before a0 Z = true) (w6 : (Jvm.Cond.initialized y.cls).before a0 Z = true) (hy : y.cls ≠ "java/lang/invoke/MethodHandle" ∧ y.cls ≠ "java/lang/invoke/VarHandle")
    (hM : own_Met l Z n0 y cb cm cret rm [] (.ref a :: argsL).toArray h Q') (hf : rm.frames + 1 ≤ R.frames) (hl : W + (cm + 11) + rm.locals ≤ R.locals) (hlen : ∀ sig, parseMethodDescriptor y.desc = some sig → argsL.length = sig.parameters.length) {st : List Value} (hst : st = argsL.reverse ++ .ref a :: rest) (hW : 0 + (rest.map fun v => v.category).sum ≤ W) (hd : decode bytes pc = .ok (.invokevirtual i, 3)) (hp : pc + 3 = pc') (hsz : Ls.size = maxL) (hc : k + rm.cells ≤ R.cells) (hs : q + rm.slots ≤ R.slots)
    (r : ∀ v h', Q' v h' → own_Run p l e R s m args below meth c n0 Kf h' (k + rm.cells) (q + rm.slots) (mkF m pc' Ls (v.toList ++ rest))) : own_Run p l e R s m args below meth c n0 Kf h k q (mkF m pc Ls st) := fun T locs X eT N => by
  subst hp
  have hK := backOf (l := l) (R := R) (p := p) (e := e) (s := s) (below := below) (args := args) (len := 3) (W := W) (Q := fun v h L => Fr n0 L ∧ Q' v h) hM C.g_z w5 w6 hf hl
  obtain ⟨mk, mM, hnamed, hmM, hsta, hab⟩ := Cond.instanceMethod_spec (mvT (args := args) C.g_z w2)
  obtain ⟨mM', cM, hmM', -, -, -, -, -, -, hsig⟩ := Cond.code_spec hnamed (mvT (args := args) C.g_z w5)
  cases hmM.symm.trans hmM'
  obtain ⟨cI, kI, i1, i2, -, i4, -⟩ := Cond.instantiable_spec (mvT (args := args) C.g_z w4)
  cases i1.symm.trans (findClass_of_methodNamed hnamed)
  have hni : kI.isInterface = false := (Bool.or_eq_false_iff.mp i4).1
  obtain ⟨cell, hc1, hc2⟩ := E.cell
  have hsel := selectMethod_private (p := e.platform) (c := cell.cls) hmM (Cond.privateMethod_at (mvP C.g_z w3 (args := #[])) mk mM hnamed hmM)
  obtain ⟨vm1, X1, st1⟩ := X.invokevirtual C.g_x C.g_own (mvT C.g_z w1) hnamed hmM hsta i2 hni hy (a := a) (cell := cell) (by rw [eT]; exact hc1) hc2 hsel hmM hab i2 hni (g := mkF m pc Ls st) rfl (argsL := argsL) (rest := rest) (hlen _ hsig) hst (hb C.g_by hd)
  obtain ⟨v, ⟨T1, L1, k1, n1⟩, X2, ⟨Lc1, hQ1, l1, y1, z1⟩, st2⟩ := hK m meth c ⟨T.setVm vm1, locs, k, q⟩ (mkF m pc Ls rest) (.invokevirtual i) mk (.ref a :: argsL).toArray X1 rfl (by rw [C.g_ml]; exact hsz) (hb C.g_by hd) (by show 2 * 0 + _ ≤ _; exact hW) (X1.named hnamed) ⟨rfl, eT, hc, hs⟩
  dsimp only [Pt.U, Pt.locs, Pt.cells, Pt.slots] at X2 l1 y1 z1 st2 hQ1
  subst l1 y1 z1
  obtain ⟨t, o, h2, h3⟩ := r v T1.heap hQ1.2 T1 _ X2 rfl (Fr.app N hQ1.1)
  exact ⟨t, o, st1 _ fun acts => by rw [doInvoke_state]; exact st2.trans h2, h3⟩
theorem own_ret (C : own_Ctx p s m meth c Z own nm bytes maxL ret) {v : Value} {t : FieldType} {i : Instr} (hret : ret = some t) (hn : narrow t v = v)
    (hi : (i = .ireturn ∧ (t = .int ∨ t = .boolean ∨ t = .byte ∨ t = .char ∨ t = .short) ∧ ∃ z, v = .int z) ∨ (i = .lreturn ∧ t = .long ∧ ∃ z, v = .long z) ∨ (i = .dreturn ∧ t = .double ∧ ∃ z, v = .double z) ∨ (i = .freturn ∧ t = .float ∧ ∃ z, v = .float z) ∨ (i = .areturn ∧ t.isReference = true ∧ v.isRef = true))
    (hd : decode bytes pc = .ok (i, 1)) (hc : k ≤ R.cells) (hs : q ≤ R.slots) (hQ : Q (some v) h) : own_Run p l e R s m args below meth c n0 (own_K below R s n0 Q) h k q (mkF m pc Ls (v :: rest)) := fun T locs X eT N => by
  have hlocks := C.g_lk
  obtain ⟨fs, hr, hrun, hended, hW, hsame⟩ := X.leave (v := some v) (fun hh => by rw [C.g_rt, hret] at hh; cases hh) hlocks
  refine ⟨_, _, retOut X C.g_x (C.g_rt.trans hret) hn hi (hb C.g_by hd) hr, hrun, hended, _, _, rfl, ⟨N, ?_⟩, ⟨_, rfl⟩, hW, hsame.mono hc hs⟩
  show Q (some v) T.heap
  rw [eT]; exact hQ
theorem own_retV (C : own_Ctx p s m meth c Z own nm bytes maxL ret) (hret : ret = none) (hd : decode bytes pc = .ok (.return_, 1)) (hc : k ≤ R.cells) (hs : q ≤ R.slots) (hQ : Q none h) : own_Run p l e R s m args below meth c n0 (own_K below R s n0 Q) h k q (mkF m pc Ls []) := fun T locs X eT N => by
  have hlocks := C.g_lk
  obtain ⟨fs, hr, hrun, hended, hW, hsame⟩ := X.leave (v := none) (fun _ => rfl) hlocks
  refine ⟨_, _, X.returnOut C.g_x (C.g_rt.trans hret) (hb C.g_by hd) hr, hrun, hended, _, _, rfl, ⟨N, ?_⟩, ⟨_, rfl⟩, hW, hsame.mono hc hs⟩
  show Q none T.heap
  rw [eT]; exact hQ
theorem own_refne {a b : Addr} (hn : a ≠ b) : ¬ (Value.ref a = Value.ref b) := fun e => hn (Value.ref.inj e)
theorem own_nb {v : Int32} (hv : v = 0 ∨ v = 1) : narrow .boolean (.int v) = .int v := by rcases hv with rfl | rfl <;> rfl
theorem own_fb {v : Int32} (hv : v = 0 ∨ v = 1) : fits .boolean (.int v) = true := by rcases hv with rfl | rfl <;> rfl
theorem own_join {α : Type} {g : JFrame} (P : α → Prop) (F : α → JFrame) (j : ∀ v, P v → own_Run p l e R s m args below meth c n0 Kf h k q (F v)) (r : (∀ v, P v → own_Run p l e R s m args below meth c n0 Kf h k q (F v)) → own_Run p l e R s m args below meth c n0 Kf h k q g) : own_Run p l e R s m args below meth c n0 Kf h k q g := r j
theorem own_join2 {α β : Type} {g : JFrame} (P : α → β → Prop) (F : α → β → JFrame) (j : ∀ v w, P v w → own_Run p l e R s m args below meth c n0 Kf h k q (F v w)) (r : (∀ v w, P v w → own_Run p l e R s m args below meth c n0 Kf h k q (F v w)) → own_Run p l e R s m args below meth c n0 Kf h k q g) : own_Run p l e R s m args below meth c n0 Kf h k q g := r j
theorem own_join3 {α β γ : Type} {g : JFrame} (P : α → β → γ → Prop) (F : α → β → γ → JFrame) (j : ∀ v w x, P v w x → own_Run p l e R s m args below meth c n0 Kf h k q (F v w x)) (r : (∀ v w x, P v w x → own_Run p l e R s m args below meth c n0 Kf h k q (F v w x)) → own_Run p l e R s m args below meth c n0 Kf h k q g) : own_Run p l e R s m args below meth c n0 Kf h k q g := r j
def own_upd {α : Type} (f : Nat → α) (i : Nat) (x : α) : Nat → α := fun j => if j = i then x else f j
theorem own_upd_eq {α : Type} (f : Nat → α) (i : Nat) (x : α) : own_upd f i x i = x := if_pos rfl
theorem own_upd_ne {α : Type} (f : Nat → α) {i j : Nat} (x : α) (hne : j ≠ i) : own_upd f i x j = f j := if_neg hne
/-- an array: her length, and what each place holds -/
def own_A (Z : State) (h : Heap) (a : Addr) (ty : FieldType) (n : Nat) (f : Nat → Value) : Prop := n < 2 ^ 31 ∧ ∃ cl : Cell, Arr Z h a cl ty ∧ cl.slots.size = n ∧ ∀ j, j < n → cl.slots[j]? = some (f j)
abbrev own_AI (Z : State) (h : Heap) (a : Addr) (n : Nat) (f : Nat → Int32) : Prop := own_A Z h a .int n (fun j => .int (f j))
abbrev own_AB (Z : State) (h : Heap) (a : Addr) (n : Nat) (f : Nat → Int32) : Prop := own_A Z h a .byte n (fun j => .int (f j))
abbrev own_AZ (Z : State) (h : Heap) (a : Addr) (n : Nat) (f : Nat → Int32) : Prop := own_A Z h a .boolean n (fun j => .int (f j))
abbrev own_AJ (Z : State) (h : Heap) (a : Addr) (n : Nat) (f : Nat → Int64) : Prop := own_A Z h a .long n (fun j => .long (f j))
theorem own_A.lt {h : Heap} {a : Addr} {ty : FieldType} {n : Nat} {f : Nat → Value} (V : own_A Z h a ty n f) : a < h.size := by obtain ⟨_, cl, A, _⟩ := V; exact A.lt
theorem own_A.ext {h h' : Heap} {a : Addr} {ty : FieldType} {n : Nat} {f : Nat → Value} (V : own_A Z h a ty n f) (E : Ext h h') : own_A Z h' a ty n f := by obtain ⟨hn, cl, A, r⟩ := V; exact ⟨hn, cl, A.ext E, r⟩
theorem own_A.other {h h' : Heap} {a b : Addr} {sl : Nat} {w : Value} {ty : FieldType} {n : Nat} {f : Nat → Value} (V : own_A Z h b ty n f) (W : Wr h h' a sl w) (hne : b ≠ a) : own_A Z h' b ty n f := by obtain ⟨hn, cl, A, r⟩ := V; exact ⟨hn, cl, A.other W hne, r⟩
theorem own_A.keep {h h' : Heap} {a : Addr} {ws : List Addr} {ty : FieldType} {n : Nat} {f : Nat → Value} (V : own_A Z h a ty n f) (K : Keep h h' ws) (hne : a ∉ ws) : own_A Z h' a ty n f := by obtain ⟨hn, cl, A, r⟩ := V; exact ⟨hn, cl, ⟨K.2.1 a cl A.1 hne, A.2⟩, r⟩
theorem own_A.congr {h : Heap} {a : Addr} {ty : FieldType} {n : Nat} {f g : Nat → Value} (V : own_A Z h a ty n f) (e : ∀ j, j < n → f j = g j) : own_A Z h a ty n g := by obtain ⟨hn, cl, A, S, H⟩ := V; exact ⟨hn, cl, A, S, fun j hj => by rw [← e j hj]; exact H j hj⟩
theorem own_A.set {h h' : Heap} {a : Addr} {i : Nat} {w : Value} {ty : FieldType} {n : Nat} {f : Nat → Value} (V : own_A Z h a ty n f) (W : Wr h h' a i w) (hi : i < n) : own_A Z h' a ty n (own_upd f i w) := by
  obtain ⟨hn, cl, A, S, H⟩ := V
  refine ⟨hn, _, A.same W, by rw [sz_set]; exact S, fun j hj => ?_⟩
  by_cases e : j = i
  · subst e
    rw [own_upd_eq]; simp [Cell.setSlot, S, hj]
  · rw [own_upd_ne _ _ e]
    show (cl.slots.setIfInBounds i w)[j]? = _
    rw [Array.getElem?_setIfInBounds_ne (Ne.symm e)]; exact H j hj
theorem own_nat {j : Int32} {i : Nat} (hj : j.toInt = (i : Int)) : ¬ j < 0 ∧ j.toNatClampNeg = i := by
  have z : (0 : Int32).toInt = 0 := rfl
  refine ⟨?_, ?_⟩
  · rw [Int32.lt_iff_toInt_lt]; omega
  · simp only [Int32.toNatClampNeg]; omega
theorem own_inb {j : Int32} {i : Nat} {cl : Cell} {n : Nat} (hj : j.toInt = (i : Int)) (S : cl.slots.size = n) (hi : i < n) : ¬ (j < 0 ∨ cl.slots.size ≤ j.toNatClampNeg) := by
  obtain ⟨h1, h2⟩ := own_nat hj
  rw [S, h2]; exact fun hh => hh.elim h1 (Nat.not_le.mpr hi)
theorem own_newA (C : own_Ctx p s m meth c Z own nm bytes maxL ret) {aty : ArrayType} (w : (Jvm.Cond.arrayClass (newarray.typeOf aty)).before a0 Z = true) (Z0 : n0 ≤ h.size) (hd : decode bytes pc = .ok (.newarray aty, 2)) (hp : pc + 2 = pc') {n : Int32} {nn cap : Nat} (hn : n.toInt = (nn : Int)) (hcap : nn ≤ cap) (hbig : cap * 8 ≤ 536870912) (hc : k + 1 ≤ R.cells) (hl : q + cap ≤ R.slots)
    (r : ∀ h' a, a = h.size → n0 ≤ a → n0 ≤ h'.size → Ext h h' → own_A Z h' a (newarray.typeOf aty) nn (fun _ => defaultValue (newarray.typeOf aty)) → own_Run p l e R s m args below meth c n0 Kf h' (k + 1) (q + cap) (mkF m pc' Ls (.ref a :: rest))) : own_Run p l e R s m args below meth c n0 Kf h k q (mkF m pc Ls (.int n :: rest)) := fun T locs X eT N => by
  subst hp
  obtain ⟨p1, p2⟩ := own_nat hn
  obtain ⟨T1, h1, cA, X1, e1, E1, A1, st1⟩ := newP X C.g_x C.g_z w eT (g := mkF m pc Ls (.int n :: rest)) rfl (hb C.g_by hd) rfl p1 (cap := cap) (by rw [p2]; exact hcap) hbig hc hl
  have V : own_A Z h1 h.size (newarray.typeOf aty) nn (fun _ => defaultValue (newarray.typeOf aty)) := by
    refine ⟨by have := Int32.toInt_lt n; omega, _, A1, by rw [sz_new, p2], fun j hj => ?_⟩
    simp [newA, p2, hj]
  obtain ⟨t, o, h2, h3⟩ := r h1 h.size rfl Z0 (Nat.le_trans Z0 E1.1) E1 V T1 _ X1 e1 N
  exact ⟨t, o, st1 _ h2, h3⟩
theorem own_newAI (C : own_Ctx p s m meth c Z own nm bytes maxL ret) (w : (Jvm.Cond.arrayClass .int).before a0 Z = true) (Z0 : n0 ≤ h.size) (hd : decode bytes pc = .ok (.newarray .int, 2)) (hp : pc + 2 = pc') {n : Int32} {nn cap : Nat} (hn : n.toInt = (nn : Int)) (hcap : nn ≤ cap) (hbig : cap * 8 ≤ 536870912) (hc : k + 1 ≤ R.cells) (hl : q + cap ≤ R.slots)
    (r : ∀ h' a, a = h.size → n0 ≤ a → n0 ≤ h'.size → Ext h h' → own_AI Z h' a nn (fun _ => (0 : Int32)) → own_Run p l e R s m args below meth c n0 Kf h' (k + 1) (q + cap) (mkF m pc' Ls (.ref a :: rest))) : own_Run p l e R s m args below meth c n0 Kf h k q (mkF m pc Ls (.int n :: rest)) := own_newA C (aty := .int) w Z0 hd hp hn hcap hbig hc hl r
theorem own_stI (C : own_Ctx p s m meth c Z own nm bytes maxL ret) {a : Addr} {n : Nat} {f : Nat → Int32} (V : own_AI Z h a n f) {j : Int32} {i : Nat} {x : Int32} (hj : j.toInt = (i : Int)) (hi : i < n) (ga : n0 ≤ a) (hd : decode bytes pc = .ok (.iastore, 1)) (hp : pc + 1 = pc')
    (r : ∀ h', Wr h h' a i (.int x) → own_AI Z h' a n (own_upd f i x) → own_Run p l e R s m args below meth c n0 Kf h' k q (mkF m pc' Ls rest)) : own_Run p l e R s m args below meth c n0 Kf h k q (mkF m pc Ls (.int x :: .int j :: .ref a :: rest)) := fun T locs X eT N => by
  subst hp
  obtain ⟨p1, p2⟩ := own_nat hj
  obtain ⟨hn, cl, A, S, H⟩ := id V
  obtain ⟨T1, h1, X1, e1, W1, st1⟩ := stI X C.g_x C.g_z eT A (own_inb hj S hi) (g := mkF m pc Ls (.int x :: .int j :: .ref a :: rest)) rfl rfl (hb C.g_by hd)
  have W2 : Wr h h1 a i (.int x) := by rw [← p2]; exact W1
  obtain ⟨t, o, h2, h3⟩ := r h1 W2 ((own_A.set V W2 hi).congr fun j hj => by by_cases e : j = i <;> simp [own_upd, e]) T1 _ X1 e1 (Fr.snoc X1 N ga)
  exact ⟨t, o, st1 _ h2, h3⟩
theorem own_lenI (C : own_Ctx p s m meth c Z own nm bytes maxL ret) {a : Addr} {n : Nat} {f : Nat → Int32} (V : own_AI Z h a n f) (hd : decode bytes pc = .ok (.arraylength, 1)) (hp : pc + 1 = pc') (r : own_Run p l e R s m args below meth c n0 Kf h k q (mkF m pc' Ls (.int (Nat.toInt32 n) :: rest))) : own_Run p l e R s m args below meth c n0 Kf h k q (mkF m pc Ls (.ref a :: rest)) := by
  obtain ⟨hn, cl, A, S, H⟩ := V
  subst hp
  rw [← S] at r
  exact own_st (fun T locs X eT t kk => X.arraylength C.g_x (by rw [eT]; exact A.1) (State.isArrayOf_alike C.g_z.alike A.2.1) (g := mkF m pc Ls (.ref a :: rest)) rfl rfl (hb C.g_by hd) t kk) r
theorem own_ldI (C : own_Ctx p s m meth c Z own nm bytes maxL ret) {a : Addr} {n : Nat} {f : Nat → Int32} (V : own_AI Z h a n f) {j : Int32} {i : Nat} (hj : j.toInt = (i : Int)) (hi : i < n) (hd : decode bytes pc = .ok (.iaload, 1)) (hp : pc + 1 = pc') (r : own_Run p l e R s m args below meth c n0 Kf h k q (mkF m pc' Ls (.int (f i) :: rest))) : own_Run p l e R s m args below meth c n0 Kf h k q (mkF m pc Ls (.int j :: .ref a :: rest)) := by
  obtain ⟨p1, p2⟩ := own_nat hj
  obtain ⟨hn, cl, A, S, H⟩ := V
  subst hp
  exact own_st (fun T locs X eT t kk => X.iaload C.g_x (by rw [eT]; exact A.1) (State.isArrayOf_alike C.g_z.alike A.2.1) A.2.2 (own_inb hj S hi) (by rw [p2]; exact H i hi) (g := mkF m pc Ls (.int j :: .ref a :: rest)) rfl rfl (hb C.g_by hd) t kk) r
theorem own_ldIV (C : own_Ctx p s m meth c Z own nm bytes maxL ret) {a : Addr} {n : Nat} {f : Nat → Int32} (V : own_AI Z h a n f) {j : Int32} {i : Nat} {v : Int32} (hj : j.toInt = (i : Int)) (hi : i < n) (hv : f i = v) (hd : decode bytes pc = .ok (.iaload, 1)) (hp : pc + 1 = pc') (r : own_Run p l e R s m args below meth c n0 Kf h k q (mkF m pc' Ls (.int v :: rest))) : own_Run p l e R s m args below meth c n0 Kf h k q (mkF m pc Ls (.int j :: .ref a :: rest)) := by
  subst hv; exact own_ldI C V hj hi hd hp r
theorem own_newAB (C : own_Ctx p s m meth c Z own nm bytes maxL ret) (w : (Jvm.Cond.arrayClass .byte).before a0 Z = true) (Z0 : n0 ≤ h.size) (hd : decode bytes pc = .ok (.newarray .byte, 2)) (hp : pc + 2 = pc') {n : Int32} {nn cap : Nat} (hn : n.toInt = (nn : Int)) (hcap : nn ≤ cap) (hbig : cap * 8 ≤ 536870912) (hc : k + 1 ≤ R.cells) (hl : q + cap ≤ R.slots)
    (r : ∀ h' a, a = h.size → n0 ≤ a → n0 ≤ h'.size → Ext h h' → own_AB Z h' a nn (fun _ => (0 : Int32)) → own_Run p l e R s m args below meth c n0 Kf h' (k + 1) (q + cap) (mkF m pc' Ls (.ref a :: rest))) : own_Run p l e R s m args below meth c n0 Kf h k q (mkF m pc Ls (.int n :: rest)) := own_newA C (aty := .byte) w Z0 hd hp hn hcap hbig hc hl r
theorem own_stB (C : own_Ctx p s m meth c Z own nm bytes maxL ret) {a : Addr} {n : Nat} {f : Nat → Int32} (V : own_AB Z h a n f) {j : Int32} {i : Nat} {x : Int32} (hj : j.toInt = (i : Int)) (hi : i < n) (ga : n0 ≤ a) (hd : decode bytes pc = .ok (.bastore, 1)) (hp : pc + 1 = pc')
    (r : ∀ h', Wr h h' a i (.int (x.toInt8.toInt32)) → own_AB Z h' a n (own_upd f i (x.toInt8.toInt32)) → own_Run p l e R s m args below meth c n0 Kf h' k q (mkF m pc' Ls rest)) : own_Run p l e R s m args below meth c n0 Kf h k q (mkF m pc Ls (.int x :: .int j :: .ref a :: rest)) := fun T locs X eT N => by
  subst hp
  obtain ⟨p1, p2⟩ := own_nat hj
  obtain ⟨hn, cl, A, S, H⟩ := id V
  obtain ⟨T1, h1, X1, e1, W1, st1⟩ := stB X C.g_x C.g_z eT A (own_inb hj S hi) (g := mkF m pc Ls (.int x :: .int j :: .ref a :: rest)) rfl rfl (hb C.g_by hd)
  have W2 : Wr h h1 a i (.int (x.toInt8.toInt32)) := by rw [← p2]; exact W1
  obtain ⟨t, o, h2, h3⟩ := r h1 W2 ((own_A.set V W2 hi).congr fun j hj => by by_cases e : j = i <;> simp [own_upd, e]) T1 _ X1 e1 (Fr.snoc X1 N ga)
  exact ⟨t, o, st1 _ h2, h3⟩
theorem own_lenB (C : own_Ctx p s m meth c Z own nm bytes maxL ret) {a : Addr} {n : Nat} {f : Nat → Int32} (V : own_AB Z h a n f) (hd : decode bytes pc = .ok (.arraylength, 1)) (hp : pc + 1 = pc') (r : own_Run p l e R s m args below meth c n0 Kf h k q (mkF m pc' Ls (.int (Nat.toInt32 n) :: rest))) : own_Run p l e R s m args below meth c n0 Kf h k q (mkF m pc Ls (.ref a :: rest)) := by
  obtain ⟨hn, cl, A, S, H⟩ := V
  subst hp
  rw [← S] at r
  exact own_st (fun T locs X eT t kk => X.arraylength C.g_x (by rw [eT]; exact A.1) (State.isArrayOf_alike C.g_z.alike A.2.1) (g := mkF m pc Ls (.ref a :: rest)) rfl rfl (hb C.g_by hd) t kk) r
theorem own_ldB (C : own_Ctx p s m meth c Z own nm bytes maxL ret) {a : Addr} {n : Nat} {f : Nat → Int32} (V : own_AB Z h a n f) {j : Int32} {i : Nat} (hj : j.toInt = (i : Int)) (hi : i < n) (hd : decode bytes pc = .ok (.baload, 1)) (hp : pc + 1 = pc') (r : own_Run p l e R s m args below meth c n0 Kf h k q (mkF m pc' Ls (.int (f i) :: rest))) : own_Run p l e R s m args below meth c n0 Kf h k q (mkF m pc Ls (.int j :: .ref a :: rest)) := by
  obtain ⟨p1, p2⟩ := own_nat hj
  obtain ⟨hn, cl, A, S, H⟩ := V
  subst hp
  exact own_st (fun T locs X eT t kk => X.baloadBytes C.g_x (by rw [eT]; exact A.1) (State.isArrayOf_alike C.g_z.alike A.2.1) A.2.2 (own_inb hj S hi) (by rw [p2]; exact H i hi) (g := mkF m pc Ls (.int j :: .ref a :: rest)) rfl rfl (hb C.g_by hd) t kk) r
theorem own_ldBV (C : own_Ctx p s m meth c Z own nm bytes maxL ret) {a : Addr} {n : Nat} {f : Nat → Int32} (V : own_AB Z h a n f) {j : Int32} {i : Nat} {v : Int32} (hj : j.toInt = (i : Int)) (hi : i < n) (hv : f i = v) (hd : decode bytes pc = .ok (.baload, 1)) (hp : pc + 1 = pc') (r : own_Run p l e R s m args below meth c n0 Kf h k q (mkF m pc' Ls (.int v :: rest))) : own_Run p l e R s m args below meth c n0 Kf h k q (mkF m pc Ls (.int j :: .ref a :: rest)) := by
  subst hv; exact own_ldB C V hj hi hd hp r
theorem own_newAZ (C : own_Ctx p s m meth c Z own nm bytes maxL ret) (w : (Jvm.Cond.arrayClass .boolean).before a0 Z = true) (Z0 : n0 ≤ h.size) (hd : decode bytes pc = .ok (.newarray .boolean, 2)) (hp : pc + 2 = pc') {n : Int32} {nn cap : Nat} (hn : n.toInt = (nn : Int)) (hcap : nn ≤ cap) (hbig : cap * 8 ≤ 536870912) (hc : k + 1 ≤ R.cells) (hl : q + cap ≤ R.slots)
    (r : ∀ h' a, a = h.size → n0 ≤ a → n0 ≤ h'.size → Ext h h' → own_AZ Z h' a nn (fun _ => (0 : Int32)) → own_Run p l e R s m args below meth c n0 Kf h' (k + 1) (q + cap) (mkF m pc' Ls (.ref a :: rest))) : own_Run p l e R s m args below meth c n0 Kf h k q (mkF m pc Ls (.int n :: rest)) := own_newA C (aty := .boolean) w Z0 hd hp hn hcap hbig hc hl r
theorem own_stZ (C : own_Ctx p s m meth c Z own nm bytes maxL ret) {a : Addr} {n : Nat} {f : Nat → Int32} (V : own_AZ Z h a n f) {j : Int32} {i : Nat} {x : Int32} (hj : j.toInt = (i : Int)) (hi : i < n) (ga : n0 ≤ a) (hd : decode bytes pc = .ok (.bastore, 1)) (hp : pc + 1 = pc')
    (r : ∀ h', Wr h h' a i (.int (x &&& 1)) → own_AZ Z h' a n (own_upd f i (x &&& 1)) → own_Run p l e R s m args below meth c n0 Kf h' k q (mkF m pc' Ls rest)) : own_Run p l e R s m args below meth c n0 Kf h k q (mkF m pc Ls (.int x :: .int j :: .ref a :: rest)) := fun T locs X eT N => by
  subst hp
  obtain ⟨p1, p2⟩ := own_nat hj
  obtain ⟨hn, cl, A, S, H⟩ := id V
  obtain ⟨T1, h1, X1, e1, W1, st1⟩ := stZ X C.g_x C.g_z eT A (own_inb hj S hi) (g := mkF m pc Ls (.int x :: .int j :: .ref a :: rest)) rfl rfl (hb C.g_by hd)
  have W2 : Wr h h1 a i (.int (x &&& 1)) := by rw [← p2]; exact W1
  obtain ⟨t, o, h2, h3⟩ := r h1 W2 ((own_A.set V W2 hi).congr fun j hj => by by_cases e : j = i <;> simp [own_upd, e]) T1 _ X1 e1 (Fr.snoc X1 N ga)
  exact ⟨t, o, st1 _ h2, h3⟩
theorem own_lenZ (C : own_Ctx p s m meth c Z own nm bytes maxL ret) {a : Addr} {n : Nat} {f : Nat → Int32} (V : own_AZ Z h a n f) (hd : decode bytes pc = .ok (.arraylength, 1)) (hp : pc + 1 = pc') (r : own_Run p l e R s m args below meth c n0 Kf h k q (mkF m pc' Ls (.int (Nat.toInt32 n) :: rest))) : own_Run p l e R s m args below meth c n0 Kf h k q (mkF m pc Ls (.ref a :: rest)) := by
  obtain ⟨hn, cl, A, S, H⟩ := V
  subst hp
  rw [← S] at r
  exact own_st (fun T locs X eT t kk => X.arraylength C.g_x (by rw [eT]; exact A.1) (State.isArrayOf_alike C.g_z.alike A.2.1) (g := mkF m pc Ls (.ref a :: rest)) rfl rfl (hb C.g_by hd) t kk) r
theorem own_newAJ (C : own_Ctx p s m meth c Z own nm bytes maxL ret) (w : (Jvm.Cond.arrayClass .long).before a0 Z = true) (Z0 : n0 ≤ h.size) (hd : decode bytes pc = .ok (.newarray .long, 2)) (hp : pc + 2 = pc') {n : Int32} {nn cap : Nat} (hn : n.toInt = (nn : Int)) (hcap : nn ≤ cap) (hbig : cap * 8 ≤ 536870912) (hc : k + 1 ≤ R.cells) (hl : q + cap ≤ R.slots)
    (r : ∀ h' a, a = h.size → n0 ≤ a → n0 ≤ h'.size → Ext h h' → own_AJ Z h' a nn (fun _ => (0 : Int64)) → own_Run p l e R s m args below meth c n0 Kf h' (k + 1) (q + cap) (mkF m pc' Ls (.ref a :: rest))) : own_Run p l e R s m args below meth c n0 Kf h k q (mkF m pc Ls (.int n :: rest)) := own_newA C (aty := .long) w Z0 hd hp hn hcap hbig hc hl r
theorem own_stJ (C : own_Ctx p s m meth c Z own nm bytes maxL ret) {a : Addr} {n : Nat} {f : Nat → Int64} (V : own_AJ Z h a n f) {j : Int32} {i : Nat} {x : Int64} (hj : j.toInt = (i : Int)) (hi : i < n) (ga : n0 ≤ a) (hd : decode bytes pc = .ok (.lastore, 1)) (hp : pc + 1 = pc')
    (r : ∀ h', Wr h h' a i (.long x) → own_AJ Z h' a n (own_upd f i x) → own_Run p l e R s m args below meth c n0 Kf h' k q (mkF m pc' Ls rest)) : own_Run p l e R s m args below meth c n0 Kf h k q (mkF m pc Ls (.long x :: .int j :: .ref a :: rest)) := fun T locs X eT N => by
  subst hp
  obtain ⟨p1, p2⟩ := own_nat hj
  obtain ⟨hn, cl, A, S, H⟩ := id V
  obtain ⟨T1, h1, X1, e1, W1, st1⟩ := stJ X C.g_x C.g_z eT A (own_inb hj S hi) (g := mkF m pc Ls (.long x :: .int j :: .ref a :: rest)) rfl rfl (hb C.g_by hd)
  have W2 : Wr h h1 a i (.long x) := by rw [← p2]; exact W1
  obtain ⟨t, o, h2, h3⟩ := r h1 W2 ((own_A.set V W2 hi).congr fun j hj => by by_cases e : j = i <;> simp [own_upd, e]) T1 _ X1 e1 (Fr.snoc X1 N ga)
  exact ⟨t, o, st1 _ h2, h3⟩
theorem own_lenJ (C : own_Ctx p s m meth c Z own nm bytes maxL ret) {a : Addr} {n : Nat} {f : Nat → Int64} (V : own_AJ Z h a n f) (hd : decode bytes pc = .ok (.arraylength, 1)) (hp : pc + 1 = pc') (r : own_Run p l e R s m args below meth c n0 Kf h k q (mkF m pc' Ls (.int (Nat.toInt32 n) :: rest))) : own_Run p l e R s m args below meth c n0 Kf h k q (mkF m pc Ls (.ref a :: rest)) := by
  obtain ⟨hn, cl, A, S, H⟩ := V
  subst hp
  rw [← S] at r
  exact own_st (fun T locs X eT t kk => X.arraylength C.g_x (by rw [eT]; exact A.1) (State.isArrayOf_alike C.g_z.alike A.2.1) (g := mkF m pc Ls (.ref a :: rest)) rfl rfl (hb C.g_by hd) t kk) r
end Own

theorem own_succ (i : Nat) : Nat.toInt32 i + (1 : Int32) = Nat.toInt32 (i + 1) := by
  show Int32.ofNat i + Int32.ofNat 1 = Int32.ofNat (i + 1)
  rw [Int32.ofNat_add]
theorem own_ti {i : Nat} (hi : i < 2 ^ 31) : (Nat.toInt32 i).toInt = (i : Int) := len_toInt hi
theorem own_tlt {i n : Nat} (hi : i < 2 ^ 31) (hn : n < 2 ^ 31) : Nat.toInt32 i < Nat.toInt32 n ↔ i < n := by
  rw [Int32.lt_iff_toInt_lt, own_ti hi, own_ti hn]; omega
theorem own_nz {n : Int32} {N : Nat} (hn : n.toInt = (N : Int)) (h0 : 0 < N) : n ≠ 0 := by
  intro e; subst e
  have z : (0 : Int32).toInt = 0 := rfl
  omega
theorem own_pos (p : Int32) : ∃ P : Nat, (p &&& (2147483647 : Int32)).toInt = (P : Int) ∧ P < 2147483648 := by
  have h1 := (Jvm.RoadKit.c_andS p (2147483647 : Int32)).2.2 (by decide)
  have h2 := Int32.toInt_lt (p &&& (2147483647 : Int32))
  exact ⟨(p &&& (2147483647 : Int32)).toInt.toNat, by omega, by omega⟩
theorem own_mod {x n : Int32} {X N : Nat} (hx : x.toInt = (X : Int)) (hn : n.toInt = (N : Int)) (h0 : 0 < N) : (x % n).toInt = ((X % N : Nat) : Int) := by
  have h := Int32.toInt_lt n
  rw [Int32.toInt_mod, hx, hn, Int.tmod_eq_emod_of_nonneg (by omega)]
  rfl
theorem own_rem (p : Int32) {n : Int32} {N : Nat} (hn : n.toInt = (N : Int)) (h0 : 0 < N) : ∃ A : Nat, A < N ∧ ((p &&& (2147483647 : Int32)) % n).toInt = (A : Int) := by
  obtain ⟨P, hP, _⟩ := own_pos p
  exact ⟨P % N, Nat.mod_lt _ h0, own_mod hP hn h0⟩
theorem own_add {x y : Int32} {X Y : Nat} (hx : x.toInt = (X : Int)) (hy : y.toInt = (Y : Int)) (hb : X + Y < 2147483648) : (x + y).toInt = ((X + Y : Nat) : Int) := by
  rw [Jvm.Free.XT.add32 ⟨by rw [hx, hy]; omega, by rw [hx, hy]; omega⟩, hx, hy]; omega
theorem own_sub1 {x : Int32} {X : Nat} (hx : x.toInt = (X : Int)) (h0 : 0 < X) : (x - (1 : Int32)).toInt = ((X - 1 : Nat) : Int) := by
  have h := Int32.toInt_lt x
  have o : (1 : Int32).toInt = 1 := rfl
  rw [Jvm.Free.XT.sub32 ⟨by rw [hx, o]; omega, by rw [hx, o]; omega⟩, hx, o]; omega
theorem own_inj {x y : Int32} {X Y : Nat} (hx : x.toInt = (X : Int)) (hy : y.toInt = (Y : Int)) : x = y ↔ X = Y := by
  rw [← Int32.toInt_inj, hx, hy]; omega
def own_one (a v : Int32) : Nat := if a = v then 1 else 0
def own_cnt : Nat → (Nat → Int32) → Int32 → Nat
  | 0, _, _ => 0
  | s + 1, f, v => own_cnt s f v + own_one (f s) v
/-- the first s places of f are a heap: each holds at least what its parent holds -/
def own_H (s : Nat) (f : Nat → Int32) : Prop := ∀ i, i < s → f ((i - 1) / 2) ≤ f i
def own_lc : List Int32 → Int32 → Nat
  | [], _ => 0
  | a :: l, v => own_one a v + own_lc l v
def own_so : List Int32 → Prop
  | [] => True
  | a :: l => (∀ b ∈ l, a ≤ b) ∧ own_so l
theorem own_one_self (a : Int32) : own_one a a = 1 := if_pos rfl
theorem own_lc_mem (v : Int32) : ∀ l : List Int32, 0 < own_lc l v → v ∈ l
  | [], h => absurd h (Nat.lt_irrefl 0)
  | a :: l, h => by
    by_cases e : a = v
    · subst e; exact List.mem_cons_self
    · have h' : 0 < own_one a v + own_lc l v := h
      have z : own_one a v = 0 := if_neg e
      exact List.mem_cons_of_mem _ (own_lc_mem v l (by omega))
theorem own_head_le {b v : Int32} {l : List Int32} (hs : own_so (b :: l)) (hm : v ∈ b :: l) : b ≤ v := by
  rcases List.mem_cons.mp hm with rfl | hm
  · exact Int32.le_refl _
  · exact hs.1 v hm
theorem own_uniq : ∀ l l' : List Int32, own_so l → own_so l' → (∀ v, own_lc l v = own_lc l' v) → l = l'
  | [], [], _, _, _ => rfl
  | [], b :: t, _, _, h => by
    have e : 0 = own_one b b + own_lc t b := h b
    rw [own_one_self] at e; omega
  | a :: t, [], _, _, h => by
    have e : own_one a a + own_lc t a = 0 := h a
    rw [own_one_self] at e; omega
  | a :: t, b :: t', h1, h2, h => by
    have ea : own_one a a + own_lc t a = own_lc (b :: t') a := h a
    have eb : own_lc (a :: t) b = own_one b b + own_lc t' b := h b
    rw [own_one_self] at ea eb
    have l1 : b ≤ a := own_head_le h2 (own_lc_mem a _ (by omega))
    have l2 : a ≤ b := own_head_le h1 (own_lc_mem b _ (by omega))
    have e : a = b := Int32.le_antisymm l2 l1
    subst e
    have ht : ∀ v, own_lc t v = own_lc t' v := fun v => by
      have := h v
      simp only [own_lc] at this; omega
    rw [own_uniq t t' h1.2 h2.2 ht]
theorem own_le {a b : Int32} : a ≤ b ↔ a.toInt ≤ b.toInt := Int32.le_iff_toInt_le
theorem own_lt {a b : Int32} : a < b ↔ a.toInt < b.toInt := Int32.lt_iff_toInt_lt
theorem own_sw {u w a b : Int32} (h : (u = a ∧ w = b) ∨ (u = b ∧ w = a)) (v : Int32) : own_one u v + own_one w v = own_one a v + own_one b v := by
  rcases h with ⟨rfl, rfl⟩ | ⟨rfl, rfl⟩ <;> omega
theorem own_same {f : Nat → Int32} {i j : Nat} {a b : Int32} (h1 : f i = a) (h2 : f j = b) (k : Nat) : f k = own_upd (own_upd f i a) j b k := by
  by_cases e1 : k = j
  · subst e1; rw [own_upd_eq]; exact h2
  · rw [own_upd_ne _ _ e1]
    by_cases e2 : k = i
    · subst e2; rw [own_upd_eq]; exact h1
    · rw [own_upd_ne _ _ e2]
theorem own_net {v0 v1 v2 v3 v4 u0 w0 u1 w1 u2 w2 u3 w3 u4 w4 u5 w5 u6 w6 u7 w7 u8 w8 : Int32} (l0 : u0 ≤ w0) (l1 : u1 ≤ w1) (l2 : u2 ≤ w2) (l3 : u3 ≤ w3) (l4 : u4 ≤ w4) (l5 : u5 ≤ w5) (l6 : u6 ≤ w6) (l7 : u7 ≤ w7) (l8 : u8 ≤ w8) (o0 : (u0 = v0 ∧ w0 = v3) ∨ (u0 = v3 ∧ w0 = v0)) (o1 : (u1 = v1 ∧ w1 = v4) ∨ (u1 = v4 ∧ w1 = v1)) (o2 : (u2 = u0 ∧ w2 = v2) ∨ (u2 = v2 ∧ w2 = u0)) (o3 : (u3 = u1 ∧ w3 = w0) ∨ (u3 = w0 ∧ w3 = u1)) (o4 : (u4 = u2 ∧ w4 = u3) ∨ (u4 = u3 ∧ w4 = u2)) (o5 : (u5 = w2 ∧ w5 = w1) ∨ (u5 = w1 ∧ w5 = w2)) (o6 : (u6 = w4 ∧ w6 = u5) ∨ (u6 = u5 ∧ w6 = w4)) (o7 : (u7 = w3 ∧ w7 = w5) ∨ (u7 = w5 ∧ w7 = w3)) (o8 : (u8 = w6 ∧ w8 = u7) ∨ (u8 = u7 ∧ w8 = w6)) : u4 ≤ u6 ∧ u6 ≤ u8 ∧ u8 ≤ w8 ∧ w8 ≤ w7 := by
  rw [own_le] at l0
  rw [own_le] at l1
  rw [own_le] at l2
  rw [own_le] at l3
  rw [own_le] at l4
  rw [own_le] at l5
  rw [own_le] at l6
  rw [own_le] at l7
  rw [own_le] at l8
  have p0 : (u0.toInt = v0.toInt ∧ w0.toInt = v3.toInt) ∨ (u0.toInt = v3.toInt ∧ w0.toInt = v0.toInt) := by rcases o0 with ⟨e1, e2⟩ | ⟨e1, e2⟩ <;> simp [e1, e2]
  have p1 : (u1.toInt = v1.toInt ∧ w1.toInt = v4.toInt) ∨ (u1.toInt = v4.toInt ∧ w1.toInt = v1.toInt) := by rcases o1 with ⟨e1, e2⟩ | ⟨e1, e2⟩ <;> simp [e1, e2]
  have p2 : (u2.toInt = u0.toInt ∧ w2.toInt = v2.toInt) ∨ (u2.toInt = v2.toInt ∧ w2.toInt = u0.toInt) := by rcases o2 with ⟨e1, e2⟩ | ⟨e1, e2⟩ <;> simp [e1, e2]
  have p3 : (u3.toInt = u1.toInt ∧ w3.toInt = w0.toInt) ∨ (u3.toInt = w0.toInt ∧ w3.toInt = u1.toInt) := by rcases o3 with ⟨e1, e2⟩ | ⟨e1, e2⟩ <;> simp [e1, e2]
  have p4 : (u4.toInt = u2.toInt ∧ w4.toInt = u3.toInt) ∨ (u4.toInt = u3.toInt ∧ w4.toInt = u2.toInt) := by rcases o4 with ⟨e1, e2⟩ | ⟨e1, e2⟩ <;> simp [e1, e2]
  have p5 : (u5.toInt = w2.toInt ∧ w5.toInt = w1.toInt) ∨ (u5.toInt = w1.toInt ∧ w5.toInt = w2.toInt) := by rcases o5 with ⟨e1, e2⟩ | ⟨e1, e2⟩ <;> simp [e1, e2]
  have p6 : (u6.toInt = w4.toInt ∧ w6.toInt = u5.toInt) ∨ (u6.toInt = u5.toInt ∧ w6.toInt = w4.toInt) := by rcases o6 with ⟨e1, e2⟩ | ⟨e1, e2⟩ <;> simp [e1, e2]
  have p7 : (u7.toInt = w3.toInt ∧ w7.toInt = w5.toInt) ∨ (u7.toInt = w5.toInt ∧ w7.toInt = w3.toInt) := by rcases o7 with ⟨e1, e2⟩ | ⟨e1, e2⟩ <;> simp [e1, e2]
  have p8 : (u8.toInt = w6.toInt ∧ w8.toInt = u7.toInt) ∨ (u8.toInt = u7.toInt ∧ w8.toInt = w6.toInt) := by rcases o8 with ⟨e1, e2⟩ | ⟨e1, e2⟩ <;> simp [e1, e2]
  clear o0 o1 o2 o3 o4 o5 o6 o7 o8
  simp only [own_le]
  have m0 : u0.toInt ≤ v0.toInt ∧ u0.toInt ≤ v3.toInt ∧ v0.toInt ≤ w0.toInt ∧ v3.toInt ≤ w0.toInt := by clear p1 p2 p3 p4 p5 p6 p7 p8; omega
  have m1 : u1.toInt ≤ v1.toInt ∧ u1.toInt ≤ v4.toInt ∧ v1.toInt ≤ w1.toInt ∧ v4.toInt ≤ w1.toInt := by clear p0 p2 p3 p4 p5 p6 p7 p8; omega
  have m2 : u2.toInt ≤ u0.toInt ∧ u2.toInt ≤ v2.toInt ∧ u0.toInt ≤ w2.toInt ∧ v2.toInt ≤ w2.toInt := by clear p0 p1 p3 p4 p5 p6 p7 p8; omega
  have m3 : u3.toInt ≤ u1.toInt ∧ u3.toInt ≤ w0.toInt ∧ u1.toInt ≤ w3.toInt ∧ w0.toInt ≤ w3.toInt := by clear p0 p1 p2 p4 p5 p6 p7 p8; omega
  have m4 : u4.toInt ≤ u2.toInt ∧ u4.toInt ≤ u3.toInt ∧ u2.toInt ≤ w4.toInt ∧ u3.toInt ≤ w4.toInt := by clear p0 p1 p2 p3 p5 p6 p7 p8; omega
  have m5 : u5.toInt ≤ w2.toInt ∧ u5.toInt ≤ w1.toInt ∧ w2.toInt ≤ w5.toInt ∧ w1.toInt ≤ w5.toInt := by clear p0 p1 p2 p3 p4 p6 p7 p8; omega
  have m6 : u6.toInt ≤ w4.toInt ∧ u6.toInt ≤ u5.toInt ∧ w4.toInt ≤ w6.toInt ∧ u5.toInt ≤ w6.toInt := by clear p0 p1 p2 p3 p4 p5 p7 p8; omega
  have m7 : u7.toInt ≤ w3.toInt ∧ u7.toInt ≤ w5.toInt ∧ w3.toInt ≤ w7.toInt ∧ w5.toInt ≤ w7.toInt := by clear p0 p1 p2 p3 p4 p5 p6 p8; omega
  have m8 : u8.toInt ≤ w6.toInt ∧ u8.toInt ≤ u7.toInt ∧ w6.toInt ≤ w8.toInt ∧ u7.toInt ≤ w8.toInt := by clear p0 p1 p2 p3 p4 p5 p6 p7; omega
  have q1 : u4.toInt ≤ u5.toInt := by clear p0 p1 p2 p3 p4 p6 p7 p8; omega
  have q2 : w4.toInt ≤ w3.toInt := by clear p0 p1 p2 p3 p5 p6 p7 p8; omega
  have r1 : u4.toInt ≤ u6.toInt := by clear p0 p1 p2 p3 p4 p5 p7 p8; omega
  have q3 : u6.toInt ≤ u7.toInt := by clear p0 p1 p2 p3 p4 p5 p6 p8; omega
  have r2 : u6.toInt ≤ u8.toInt := by clear p0 p1 p2 p3 p4 p5 p6 p7; omega
  have q4 : w6.toInt ≤ w7.toInt := by clear p0 p1 p2 p3 p4 p5 p7 p8; omega
  have r4 : w8.toInt ≤ w7.toInt := by clear p0 p1 p2 p3 p4 p5 p6 p7; omega
  exact ⟨r1, r2, l8, r4⟩
theorem own_chain5 {x0 x1 x2 x3 x4 : Int32} (h : x0 ≤ x1 ∧ x1 ≤ x2 ∧ x2 ≤ x3 ∧ x3 ≤ x4) : own_so [x0, x1, x2, x3, x4] := by
  simp only [own_le] at h
  obtain ⟨h0, h1, h2, h3⟩ := h
  simp only [own_so, List.mem_cons, List.not_mem_nil, or_false, forall_eq_or_imp, forall_eq, own_le, and_true, true_and, false_imp_iff, implies_true]
  refine ⟨?_, ?_, ?_, ?_⟩ <;> (try (refine ⟨?_, ?_⟩)) <;> omega

theorem own_d1_0 : decode method_2_code 0 = .ok (.aload_n 0, 1) := by decide +kernel
theorem own_d1_1 : decode method_2_code 1 = .ok (.iload_n 2, 1) := by decide +kernel
theorem own_d1_2 : decode method_2_code 2 = .ok (.iaload, 1) := by decide +kernel
theorem own_d1_3 : decode method_2_code 3 = .ok (.aload_n 0, 1) := by decide +kernel
theorem own_d1_4 : decode method_2_code 4 = .ok (.iload_n 1, 1) := by decide +kernel
theorem own_d1_5 : decode method_2_code 5 = .ok (.iaload, 1) := by decide +kernel
theorem own_d1_6 : decode method_2_code 6 = .ok (.if_icmp .ge 17, 3) := by decide +kernel
theorem own_d1_9 : decode method_2_code 9 = .ok (.aload_n 0, 1) := by decide +kernel
theorem own_d1_10 : decode method_2_code 10 = .ok (.iload_n 1, 1) := by decide +kernel
theorem own_d1_11 : decode method_2_code 11 = .ok (.iaload, 1) := by decide +kernel
theorem own_d1_12 : decode method_2_code 12 = .ok (.istore_n 3, 1) := by decide +kernel
theorem own_d1_13 : decode method_2_code 13 = .ok (.aload_n 0, 1) := by decide +kernel
theorem own_d1_14 : decode method_2_code 14 = .ok (.iload_n 1, 1) := by decide +kernel
theorem own_d1_15 : decode method_2_code 15 = .ok (.aload_n 0, 1) := by decide +kernel
theorem own_d1_16 : decode method_2_code 16 = .ok (.iload_n 2, 1) := by decide +kernel
theorem own_d1_17 : decode method_2_code 17 = .ok (.iaload, 1) := by decide +kernel
theorem own_d1_18 : decode method_2_code 18 = .ok (.iastore, 1) := by decide +kernel
theorem own_d1_19 : decode method_2_code 19 = .ok (.aload_n 0, 1) := by decide +kernel
theorem own_d1_20 : decode method_2_code 20 = .ok (.iload_n 2, 1) := by decide +kernel
theorem own_d1_21 : decode method_2_code 21 = .ok (.iload_n 3, 1) := by decide +kernel
theorem own_d1_22 : decode method_2_code 22 = .ok (.iastore, 1) := by decide +kernel
theorem own_d1_23 : decode method_2_code 23 = .ok (.return_, 1) := by decide +kernel
theorem own_d2_0 : decode prog_36_method_1_code 0 = .ok (.aload_n 0, 1) := by decide +kernel
theorem own_d2_1 : decode prog_36_method_1_code 1 = .ok (.invokespecial 1, 3) := by decide +kernel
theorem own_d2_4 : decode prog_36_method_1_code 4 = .ok (.aload_n 0, 1) := by decide +kernel
theorem own_d2_5 : decode prog_36_method_1_code 5 = .ok (.iload_n 1, 1) := by decide +kernel
theorem own_d2_6 : decode prog_36_method_1_code 6 = .ok (.newarray .int, 2) := by decide +kernel
theorem own_d2_8 : decode prog_36_method_1_code 8 = .ok (.putfield 7, 3) := by decide +kernel
theorem own_d2_11 : decode prog_36_method_1_code 11 = .ok (.return_, 1) := by decide +kernel
theorem own_d4_0 : decode prog_36_method_3_code 0 = .ok (.aload_n 0, 1) := by decide +kernel
theorem own_d4_1 : decode prog_36_method_3_code 1 = .ok (.dup, 1) := by decide +kernel
theorem own_d4_2 : decode prog_36_method_3_code 2 = .ok (.getfield 13, 3) := by decide +kernel
theorem own_d4_5 : decode prog_36_method_3_code 5 = .ok (.dup_x1, 1) := by decide +kernel
theorem own_d4_6 : decode prog_36_method_3_code 6 = .ok (.iconst 1, 1) := by decide +kernel
theorem own_d4_7 : decode prog_36_method_3_code 7 = .ok (.iadd, 1) := by decide +kernel
theorem own_d4_8 : decode prog_36_method_3_code 8 = .ok (.putfield 13, 3) := by decide +kernel
theorem own_d4_11 : decode prog_36_method_3_code 11 = .ok (.istore_n 2, 1) := by decide +kernel
theorem own_d4_12 : decode prog_36_method_3_code 12 = .ok (.iload_n 2, 1) := by decide +kernel
theorem own_d4_13 : decode prog_36_method_3_code 13 = .ok (.ifCond .le 39, 3) := by decide +kernel
theorem own_d4_16 : decode prog_36_method_3_code 16 = .ok (.iload_n 2, 1) := by decide +kernel
theorem own_d4_17 : decode prog_36_method_3_code 17 = .ok (.iconst 1, 1) := by decide +kernel
theorem own_d4_18 : decode prog_36_method_3_code 18 = .ok (.isub, 1) := by decide +kernel
theorem own_d4_19 : decode prog_36_method_3_code 19 = .ok (.iconst 2, 1) := by decide +kernel
theorem own_d4_20 : decode prog_36_method_3_code 20 = .ok (.idiv, 1) := by decide +kernel
theorem own_d4_21 : decode prog_36_method_3_code 21 = .ok (.istore_n 3, 1) := by decide +kernel
theorem own_d4_22 : decode prog_36_method_3_code 22 = .ok (.aload_n 0, 1) := by decide +kernel
theorem own_d4_23 : decode prog_36_method_3_code 23 = .ok (.getfield 7, 3) := by decide +kernel
theorem own_d4_26 : decode prog_36_method_3_code 26 = .ok (.iload_n 3, 1) := by decide +kernel
theorem own_d4_27 : decode prog_36_method_3_code 27 = .ok (.iaload, 1) := by decide +kernel
theorem own_d4_28 : decode prog_36_method_3_code 28 = .ok (.iload_n 1, 1) := by decide +kernel
theorem own_d4_29 : decode prog_36_method_3_code 29 = .ok (.if_icmp .gt 6, 3) := by decide +kernel
theorem own_d4_32 : decode prog_36_method_3_code 32 = .ok (.goto 20, 3) := by decide +kernel
theorem own_d4_35 : decode prog_36_method_3_code 35 = .ok (.aload_n 0, 1) := by decide +kernel
theorem own_d4_36 : decode prog_36_method_3_code 36 = .ok (.getfield 7, 3) := by decide +kernel
theorem own_d4_39 : decode prog_36_method_3_code 39 = .ok (.iload_n 2, 1) := by decide +kernel
theorem own_d4_40 : decode prog_36_method_3_code 40 = .ok (.aload_n 0, 1) := by decide +kernel
theorem own_d4_41 : decode prog_36_method_3_code 41 = .ok (.getfield 7, 3) := by decide +kernel
theorem own_d4_44 : decode prog_36_method_3_code 44 = .ok (.iload_n 3, 1) := by decide +kernel
theorem own_d4_45 : decode prog_36_method_3_code 45 = .ok (.iaload, 1) := by decide +kernel
theorem own_d4_46 : decode prog_36_method_3_code 46 = .ok (.iastore, 1) := by decide +kernel
theorem own_d4_47 : decode prog_36_method_3_code 47 = .ok (.iload_n 3, 1) := by decide +kernel
theorem own_d4_48 : decode prog_36_method_3_code 48 = .ok (.istore_n 2, 1) := by decide +kernel
theorem own_d4_49 : decode prog_36_method_3_code 49 = .ok (.goto (-37), 3) := by decide +kernel
theorem own_d4_52 : decode prog_36_method_3_code 52 = .ok (.aload_n 0, 1) := by decide +kernel
theorem own_d4_53 : decode prog_36_method_3_code 53 = .ok (.getfield 7, 3) := by decide +kernel
theorem own_d4_56 : decode prog_36_method_3_code 56 = .ok (.iload_n 2, 1) := by decide +kernel
theorem own_d4_57 : decode prog_36_method_3_code 57 = .ok (.iload_n 1, 1) := by decide +kernel
theorem own_d4_58 : decode prog_36_method_3_code 58 = .ok (.iastore, 1) := by decide +kernel
theorem own_d4_59 : decode prog_36_method_3_code 59 = .ok (.return_, 1) := by decide +kernel
theorem own_d5_0 : decode prog_36_method_4_code 0 = .ok (.aload_n 0, 1) := by decide +kernel
theorem own_d5_1 : decode prog_36_method_4_code 1 = .ok (.getfield 7, 3) := by decide +kernel
theorem own_d5_4 : decode prog_36_method_4_code 4 = .ok (.iconst 0, 1) := by decide +kernel
theorem own_d5_5 : decode prog_36_method_4_code 5 = .ok (.iaload, 1) := by decide +kernel
theorem own_d5_6 : decode prog_36_method_4_code 6 = .ok (.istore_n 1, 1) := by decide +kernel
theorem own_d5_7 : decode prog_36_method_4_code 7 = .ok (.aload_n 0, 1) := by decide +kernel
theorem own_d5_8 : decode prog_36_method_4_code 8 = .ok (.getfield 7, 3) := by decide +kernel
theorem own_d5_11 : decode prog_36_method_4_code 11 = .ok (.aload_n 0, 1) := by decide +kernel
theorem own_d5_12 : decode prog_36_method_4_code 12 = .ok (.dup, 1) := by decide +kernel
theorem own_d5_13 : decode prog_36_method_4_code 13 = .ok (.getfield 13, 3) := by decide +kernel
theorem own_d5_16 : decode prog_36_method_4_code 16 = .ok (.iconst 1, 1) := by decide +kernel
theorem own_d5_17 : decode prog_36_method_4_code 17 = .ok (.isub, 1) := by decide +kernel
theorem own_d5_18 : decode prog_36_method_4_code 18 = .ok (.dup_x1, 1) := by decide +kernel
theorem own_d5_19 : decode prog_36_method_4_code 19 = .ok (.putfield 13, 3) := by decide +kernel
theorem own_d5_22 : decode prog_36_method_4_code 22 = .ok (.iaload, 1) := by decide +kernel
theorem own_d5_23 : decode prog_36_method_4_code 23 = .ok (.istore_n 2, 1) := by decide +kernel
theorem own_d5_24 : decode prog_36_method_4_code 24 = .ok (.iconst 0, 1) := by decide +kernel
theorem own_d5_25 : decode prog_36_method_4_code 25 = .ok (.istore_n 3, 1) := by decide +kernel
theorem own_d5_26 : decode prog_36_method_4_code 26 = .ok (.iconst 2, 1) := by decide +kernel
theorem own_d5_27 : decode prog_36_method_4_code 27 = .ok (.iload_n 3, 1) := by decide +kernel
theorem own_d5_28 : decode prog_36_method_4_code 28 = .ok (.imul, 1) := by decide +kernel
theorem own_d5_29 : decode prog_36_method_4_code 29 = .ok (.iconst 1, 1) := by decide +kernel
theorem own_d5_30 : decode prog_36_method_4_code 30 = .ok (.iadd, 1) := by decide +kernel
theorem own_d5_31 : decode prog_36_method_4_code 31 = .ok (.istore 4, 2) := by decide +kernel
theorem own_d5_33 : decode prog_36_method_4_code 33 = .ok (.iload 4, 2) := by decide +kernel
theorem own_d5_35 : decode prog_36_method_4_code 35 = .ok (.aload_n 0, 1) := by decide +kernel
theorem own_d5_36 : decode prog_36_method_4_code 36 = .ok (.getfield 13, 3) := by decide +kernel
theorem own_d5_39 : decode prog_36_method_4_code 39 = .ok (.if_icmp .lt 6, 3) := by decide +kernel
theorem own_d5_42 : decode prog_36_method_4_code 42 = .ok (.goto 69, 3) := by decide +kernel
theorem own_d5_45 : decode prog_36_method_4_code 45 = .ok (.iload 4, 2) := by decide +kernel
theorem own_d5_47 : decode prog_36_method_4_code 47 = .ok (.iconst 1, 1) := by decide +kernel
theorem own_d5_48 : decode prog_36_method_4_code 48 = .ok (.iadd, 1) := by decide +kernel
theorem own_d5_49 : decode prog_36_method_4_code 49 = .ok (.aload_n 0, 1) := by decide +kernel
theorem own_d5_50 : decode prog_36_method_4_code 50 = .ok (.getfield 13, 3) := by decide +kernel
theorem own_d5_53 : decode prog_36_method_4_code 53 = .ok (.if_icmp .ge 25, 3) := by decide +kernel
theorem own_d5_56 : decode prog_36_method_4_code 56 = .ok (.aload_n 0, 1) := by decide +kernel
theorem own_d5_57 : decode prog_36_method_4_code 57 = .ok (.getfield 7, 3) := by decide +kernel
theorem own_d5_60 : decode prog_36_method_4_code 60 = .ok (.iload 4, 2) := by decide +kernel
theorem own_d5_62 : decode prog_36_method_4_code 62 = .ok (.iconst 1, 1) := by decide +kernel
theorem own_d5_63 : decode prog_36_method_4_code 63 = .ok (.iadd, 1) := by decide +kernel
theorem own_d5_64 : decode prog_36_method_4_code 64 = .ok (.iaload, 1) := by decide +kernel
theorem own_d5_65 : decode prog_36_method_4_code 65 = .ok (.aload_n 0, 1) := by decide +kernel
theorem own_d5_66 : decode prog_36_method_4_code 66 = .ok (.getfield 7, 3) := by decide +kernel
theorem own_d5_69 : decode prog_36_method_4_code 69 = .ok (.iload 4, 2) := by decide +kernel
theorem own_d5_71 : decode prog_36_method_4_code 71 = .ok (.iaload, 1) := by decide +kernel
theorem own_d5_72 : decode prog_36_method_4_code 72 = .ok (.if_icmp .ge 6, 3) := by decide +kernel
theorem own_d5_75 : decode prog_36_method_4_code 75 = .ok (.iinc 4 1, 3) := by decide +kernel
theorem own_d5_78 : decode prog_36_method_4_code 78 = .ok (.iload_n 2, 1) := by decide +kernel
theorem own_d5_79 : decode prog_36_method_4_code 79 = .ok (.aload_n 0, 1) := by decide +kernel
theorem own_d5_80 : decode prog_36_method_4_code 80 = .ok (.getfield 7, 3) := by decide +kernel
theorem own_d5_83 : decode prog_36_method_4_code 83 = .ok (.iload 4, 2) := by decide +kernel
theorem own_d5_85 : decode prog_36_method_4_code 85 = .ok (.iaload, 1) := by decide +kernel
theorem own_d5_86 : decode prog_36_method_4_code 86 = .ok (.if_icmp .gt 6, 3) := by decide +kernel
theorem own_d5_89 : decode prog_36_method_4_code 89 = .ok (.goto 22, 3) := by decide +kernel
theorem own_d5_92 : decode prog_36_method_4_code 92 = .ok (.aload_n 0, 1) := by decide +kernel
theorem own_d5_93 : decode prog_36_method_4_code 93 = .ok (.getfield 7, 3) := by decide +kernel
theorem own_d5_96 : decode prog_36_method_4_code 96 = .ok (.iload_n 3, 1) := by decide +kernel
theorem own_d5_97 : decode prog_36_method_4_code 97 = .ok (.aload_n 0, 1) := by decide +kernel
theorem own_d5_98 : decode prog_36_method_4_code 98 = .ok (.getfield 7, 3) := by decide +kernel
theorem own_d5_101 : decode prog_36_method_4_code 101 = .ok (.iload 4, 2) := by decide +kernel
theorem own_d5_103 : decode prog_36_method_4_code 103 = .ok (.iaload, 1) := by decide +kernel
theorem own_d5_104 : decode prog_36_method_4_code 104 = .ok (.iastore, 1) := by decide +kernel
theorem own_d5_105 : decode prog_36_method_4_code 105 = .ok (.iload 4, 2) := by decide +kernel
theorem own_d5_107 : decode prog_36_method_4_code 107 = .ok (.istore_n 3, 1) := by decide +kernel
theorem own_d5_108 : decode prog_36_method_4_code 108 = .ok (.goto (-82), 3) := by decide +kernel
theorem own_d5_111 : decode prog_36_method_4_code 111 = .ok (.aload_n 0, 1) := by decide +kernel
theorem own_d5_112 : decode prog_36_method_4_code 112 = .ok (.getfield 7, 3) := by decide +kernel
theorem own_d5_115 : decode prog_36_method_4_code 115 = .ok (.iload_n 3, 1) := by decide +kernel
theorem own_d5_116 : decode prog_36_method_4_code 116 = .ok (.iload_n 2, 1) := by decide +kernel
theorem own_d5_117 : decode prog_36_method_4_code 117 = .ok (.iastore, 1) := by decide +kernel
theorem own_d5_118 : decode prog_36_method_4_code 118 = .ok (.iload_n 1, 1) := by decide +kernel
theorem own_d5_119 : decode prog_36_method_4_code 119 = .ok (.ireturn, 1) := by decide +kernel
theorem own_pn0 : plainName "com/example/serialis/serialis/graph/IntMinHeap" = true := by first | (simp [plainName, overriddenIn]; done) | decide +kernel
theorem own_pn1 : plainName "com/example/serialis/serialis/graph/IntMinHeapRemoveSmallestPinLaw" = true := by first | (simp [plainName, overriddenIn]; done) | decide +kernel
theorem own_pd0 : parseMethodDescriptor "([III)V" = some ⟨[(.array .int), .int, .int], none⟩ := by decide +kernel
theorem own_pd1 : parseMethodDescriptor "(I)V" = some ⟨[.int], none⟩ := by decide +kernel
theorem own_pd2 : parseMethodDescriptor "()I" = some ⟨[], some .int⟩ := by decide +kernel
set_option maxRecDepth 65536 in
set_option maxHeartbeats 40000000 in
theorem own_m2 {l : Launch} {Z : State} {a0 : Array Value} (hw : ∀ d ∈ tables_1, d.before a0 Z = true) {n0 : Nat} {ws : List Jvm.Cond} {h : Heap} (a : Addr) (Z0 : n0 ≤ h.size) (f0 : Exa Z h a "com/example/serialis/serialis/graph/IntMinHeap") (f1 : n0 ≤ a) (f2 : Fld Z h a "com/example/serialis/serialis/graph/IntMinHeap" "heap" "[I" .null) (f3 : Fld Z h a "com/example/serialis/serialis/graph/IntMinHeap" "size" "I" (.int (0 : Int32))) :
    own_Met l Z n0 (⟨"com/example/serialis/serialis/graph/IntMinHeap", "<init>", "(I)V"⟩ : MethodName) prog_36_method_1_code 2 none ({ frames := 1, cells := 1, slots := 5, locals := 12 } : Room) ws #[(.ref a), (.int (5 : Int32))] h (fun v h' => ∃ ar : Addr, (v = none) ∧ (Keep h h' [a]) ∧ (n0 ≤ ar ∧ h.size ≤ ar) ∧ (Exa Z h' a "com/example/serialis/serialis/graph/IntMinHeap") ∧ (Fld Z h' a "com/example/serialis/serialis/graph/IntMinHeap" "heap" "[I" (.ref ar)) ∧ (Fld Z h' a "com/example/serialis/serialis/graph/IntMinHeap" "size" "I" (.int (0 : Int32))) ∧ (own_AI Z h' ar 5 (fun _ => (0 : Int32))) ∧ (a ≠ ar)) := by
  refine own_met own_pn0 #[.val (.ref a), .val (.int (5 : Int32))] (fun m => by first | (simp [entryFrame, mkF, argsToLocals, Value.category]; done) | rfl) ?_
  intro p_ e_ s_ m_ b_ mt_ c_ C
  replace C : own_Ctx p_ s_ m_ mt_ c_ Z "com/example/serialis/serialis/graph/IntMinHeap" "<init>" prog_36_method_1_code 2 none := C
  have K0 : Keep h h [a] := Keep.refl _ _
  refine own_aloadN C (pc' := 1) own_d2_0 rfl rfl rfl ?_
  refine own_initO C (pc' := 4) (W := 0) (hw _ (List.mem_of_getElem? (i := 11) rfl)) (hw _ (List.mem_of_getElem? (i := 12) rfl)) (hw _ (List.mem_of_getElem? (i := 13) rfl)) own_d2_1 rfl rfl (by decide) (Nat.le_of_eq rfl) (by decide) ?_
  refine own_aloadN C (pc' := 5) own_d2_4 rfl rfl rfl ?_
  refine own_iloadN C (pc' := 6) own_d2_5 rfl rfl ?_
  refine own_newAI C (pc' := 8) (hw _ (List.mem_of_getElem? (i := 0) rfl)) Z0 own_d2_6 rfl (nn := 5) (cap := 5) (by decide) (by decide) (by decide) (by decide) (by decide) (fun h1 a2 ea3 ga4 Z5 E6 V7 => ?_)
  have ne8 : a ≠ a2 := by rw [ea3]; exact Nat.ne_of_lt (Exa.lt f0)
  have F9 : Exa Z h1 a "com/example/serialis/serialis/graph/IntMinHeap" := Exa.ext E6 f0
  have F10 : Fld Z h1 a "com/example/serialis/serialis/graph/IntMinHeap" "heap" "[I" .null := Fld.ext E6 f2
  have F11 : Fld Z h1 a "com/example/serialis/serialis/graph/IntMinHeap" "size" "I" (.int (0 : Int32)) := Fld.ext E6 f3
  have gk13 : h.size ≤ a2 := by rw [ea3]; exact K0.1
  have K12 := Keep.ext K0 E6
  refine own_putF C (pc' := 11) (hw _ (List.mem_of_getElem? (i := 14) rfl)) F10 F9 (Or.inr ⟨(hw _ (List.mem_of_getElem? (i := 15) rfl)), rfl, rfl⟩) (hw _ (List.mem_of_getElem? (i := 6) rfl)) (ty := (.array .int)) (by decide) rfl rfl f1 own_d2_8 rfl (fun h14 W15 => ?_)
  have Z16 : n0 ≤ h14.size := Nat.le_trans Z5 (Nat.le_of_eq (Wr.size W15).symm)
  have K17 := Keep.wr K12 W15 (Or.inl (List.mem_of_getElem? (i := 0) rfl))
  have F18 : Exa Z h14 a "com/example/serialis/serialis/graph/IntMinHeap" := Exa.wr W15 F9
  have F19 : Fld Z h14 a "com/example/serialis/serialis/graph/IntMinHeap" "heap" "[I" (.ref a2) := Fld.same W15 F10
  have F20 : Fld Z h14 a "com/example/serialis/serialis/graph/IntMinHeap" "size" "I" (.int (0 : Int32)) := Fld.other W15 F11 (Or.inr (slot_ne (Or.inl (hw _ (List.mem_of_getElem? (i := 22) rfl))) (Or.inr (hw _ (List.mem_of_getElem? (i := 15) rfl))) (by decide) (t := .int) (t' := (.array .int)) (by decide) (by decide)))
  have F21 : own_AI Z h14 a2 5 (fun _ => (0 : Int32)) := own_A.other V7 W15 (Ne.symm ne8)
  exact own_retV C rfl own_d2_11 (by decide) (by decide) (⟨a2, rfl, K17, ⟨ga4, gk13⟩, F18, F19, F20, F21, ne8⟩)
set_option maxRecDepth 65536 in
set_option maxHeartbeats 40000000 in
theorem own_add0 {l : Launch} {Z : State} {a0 : Array Value} (hw : ∀ d ∈ tables_1, d.before a0 Z = true) {n0 : Nat} {ws : List Jvm.Cond} {h : Heap} (a : Addr) (ar : Addr) (f : Nat → Int32) (x : Int32) (Z0 : n0 ≤ h.size) (f0 : Exa Z h a "com/example/serialis/serialis/graph/IntMinHeap") (f1 : n0 ≤ a) (f2 : n0 ≤ ar) (f3 : a ≠ ar) (f4 : Fld Z h a "com/example/serialis/serialis/graph/IntMinHeap" "heap" "[I" (.ref ar)) (f5 : Fld Z h a "com/example/serialis/serialis/graph/IntMinHeap" "size" "I" (.int (0 : Int32))) (f6 : own_AI Z h ar 5 f) (hH : own_H 0 f) :
    own_Met l Z n0 (⟨"com/example/serialis/serialis/graph/IntMinHeap", "add", "(I)V"⟩ : MethodName) prog_36_method_3_code 4 none ({ frames := 0, cells := 0, slots := 0, locals := 0 } : Room) ws #[(.ref a), (.int x)] h (fun v h' => ∃ g : Nat → Int32, (v = none) ∧ (Keep h h' [a, ar]) ∧ (Exa Z h' a "com/example/serialis/serialis/graph/IntMinHeap") ∧ (Fld Z h' a "com/example/serialis/serialis/graph/IntMinHeap" "heap" "[I" (.ref ar)) ∧ (Fld Z h' a "com/example/serialis/serialis/graph/IntMinHeap" "size" "I" (.int (1 : Int32))) ∧ (own_AI Z h' ar 5 g) ∧ (own_H 1 g) ∧ (∀ v, own_cnt 1 g v = own_cnt 0 f v + own_one x v)) := by
  refine own_met own_pn0 #[.val (.ref a), .val (.int x), .unset, .unset] (fun m => by first | (simp [entryFrame, mkF, argsToLocals, Value.category]; done) | rfl) ?_
  intro p_ e_ s_ m_ b_ mt_ c_ C
  replace C : own_Ctx p_ s_ m_ mt_ c_ Z "com/example/serialis/serialis/graph/IntMinHeap" "add" prog_36_method_3_code 4 none := C
  have K0 : Keep h h [a, ar] := Keep.refl _ _
  refine own_aloadN C (pc' := 1) own_d4_0 rfl rfl rfl ?_
  refine own_dup C (pc' := 2) own_d4_1 rfl rfl ?_
  refine own_getF C (pc' := 5) (hw _ (List.mem_of_getElem? (i := 21) rfl)) f5 own_d4_2 rfl ?_
  refine own_dupX1 C (pc' := 6) own_d4_5 rfl rfl rfl ?_
  refine own_iconst C (pc' := 7) (v := (1 : Int32)) own_d4_6 rfl (by decide) ?_
  refine own_iaddV C (pc' := 8) (v := (1 : Int32)) own_d4_7 rfl (by decide) ?_
  refine own_putF C (pc' := 11) (hw _ (List.mem_of_getElem? (i := 21) rfl)) f5 f0 (Or.inl (hw _ (List.mem_of_getElem? (i := 22) rfl))) (hw _ (List.mem_of_getElem? (i := 6) rfl)) (ty := .int) (by decide) rfl rfl f1 own_d4_8 rfl (fun h22 W23 => ?_)
  have Z24 : n0 ≤ h22.size := Nat.le_trans Z0 (Nat.le_of_eq (Wr.size W23).symm)
  have K25 := Keep.wr K0 W23 (Or.inl (List.mem_of_getElem? (i := 0) rfl))
  have F26 : Exa Z h22 a "com/example/serialis/serialis/graph/IntMinHeap" := Exa.wr W23 f0
  have F27 : Fld Z h22 a "com/example/serialis/serialis/graph/IntMinHeap" "heap" "[I" (.ref ar) := Fld.other W23 f4 (Or.inr (slot_ne (Or.inr (hw _ (List.mem_of_getElem? (i := 15) rfl))) (Or.inl (hw _ (List.mem_of_getElem? (i := 22) rfl))) (by decide) (t := (.array .int)) (t' := .int) (by decide) (by decide)))
  have F28 : Fld Z h22 a "com/example/serialis/serialis/graph/IntMinHeap" "size" "I" (.int (1 : Int32)) := Fld.same W23 f5
  have F29 : own_AI Z h22 ar 5 f := own_A.other f6 W23 (Ne.symm f3)
  refine own_istoreN C (pc' := 12) (Ls' := #[.val (.ref a), .val (.int x), .val (.int (0 : Int32)), .unset]) own_d4_11 rfl rfl ?_
  refine own_iloadN C (pc' := 13) own_d4_12 rfl rfl ?_
  refine own_i0_le C (pc1 := 52) (pc2 := 16) own_d4_13 rfl rfl (fun c30 => ?_) (fun c30 => absurd c30 (by decide))
  refine own_aloadN C (pc' := 53) own_d4_52 rfl rfl rfl ?_
  refine own_getF C (pc' := 56) (hw _ (List.mem_of_getElem? (i := 14) rfl)) F27 own_d4_53 rfl ?_
  refine own_iloadN C (pc' := 57) own_d4_56 rfl rfl ?_
  refine own_iloadN C (pc' := 58) own_d4_57 rfl rfl ?_
  refine own_stI C (pc' := 59) F29 (i := 0) (by decide) (by decide) f2 own_d4_58 rfl (fun h31 W32 V33 => ?_)
  have Z34 : n0 ≤ h31.size := Nat.le_trans Z24 (Nat.le_of_eq (Wr.size W32).symm)
  have K35 := Keep.wr K25 W32 (Or.inl (List.mem_of_getElem? (i := 1) rfl))
  have F36 : Exa Z h31 a "com/example/serialis/serialis/graph/IntMinHeap" := Exa.wr W32 F26
  have F37 : Fld Z h31 a "com/example/serialis/serialis/graph/IntMinHeap" "heap" "[I" (.ref ar) := Fld.other W32 F27 (Or.inl f3)
  have F38 : Fld Z h31 a "com/example/serialis/serialis/graph/IntMinHeap" "size" "I" (.int (1 : Int32)) := Fld.other W32 F28 (Or.inl f3)
  have F39 : own_AI Z h31 ar 5 (own_upd f 0 x) := V33
  have HH40 : own_H 1 (own_upd f 0 x) := by
    refine fun i hi => ?_
    have t : i = 0 := by omega
    rcases t with rfl
    · show x ≤ x
      rw [own_le]; omega
  exact own_retV C rfl own_d4_59 (by decide) (by decide) (⟨(own_upd f 0 x), rfl, K35, F36, F37, F38, F39, HH40, (fun v => by show (0 + own_one x v) = 0 + own_one x v; omega)⟩)
set_option maxRecDepth 65536 in
set_option maxHeartbeats 40000000 in
theorem own_add1 {l : Launch} {Z : State} {a0 : Array Value} (hw : ∀ d ∈ tables_1, d.before a0 Z = true) {n0 : Nat} {ws : List Jvm.Cond} {h : Heap} (a : Addr) (ar : Addr) (f : Nat → Int32) (x : Int32) (Z0 : n0 ≤ h.size) (f0 : Exa Z h a "com/example/serialis/serialis/graph/IntMinHeap") (f1 : n0 ≤ a) (f2 : n0 ≤ ar) (f3 : a ≠ ar) (f4 : Fld Z h a "com/example/serialis/serialis/graph/IntMinHeap" "heap" "[I" (.ref ar)) (f5 : Fld Z h a "com/example/serialis/serialis/graph/IntMinHeap" "size" "I" (.int (1 : Int32))) (f6 : own_AI Z h ar 5 f) (hH : own_H 1 f) :
    own_Met l Z n0 (⟨"com/example/serialis/serialis/graph/IntMinHeap", "add", "(I)V"⟩ : MethodName) prog_36_method_3_code 4 none ({ frames := 0, cells := 0, slots := 0, locals := 0 } : Room) ws #[(.ref a), (.int x)] h (fun v h' => ∃ g : Nat → Int32, (v = none) ∧ (Keep h h' [a, ar]) ∧ (Exa Z h' a "com/example/serialis/serialis/graph/IntMinHeap") ∧ (Fld Z h' a "com/example/serialis/serialis/graph/IntMinHeap" "heap" "[I" (.ref ar)) ∧ (Fld Z h' a "com/example/serialis/serialis/graph/IntMinHeap" "size" "I" (.int (2 : Int32))) ∧ (own_AI Z h' ar 5 g) ∧ (own_H 2 g) ∧ (∀ v, own_cnt 2 g v = own_cnt 1 f v + own_one x v)) := by
  refine own_met own_pn0 #[.val (.ref a), .val (.int x), .unset, .unset] (fun m => by first | (simp [entryFrame, mkF, argsToLocals, Value.category]; done) | rfl) ?_
  intro p_ e_ s_ m_ b_ mt_ c_ C
  replace C : own_Ctx p_ s_ m_ mt_ c_ Z "com/example/serialis/serialis/graph/IntMinHeap" "add" prog_36_method_3_code 4 none := C
  have K0 : Keep h h [a, ar] := Keep.refl _ _
  refine own_aloadN C (pc' := 1) own_d4_0 rfl rfl rfl ?_
  refine own_dup C (pc' := 2) own_d4_1 rfl rfl ?_
  refine own_getF C (pc' := 5) (hw _ (List.mem_of_getElem? (i := 21) rfl)) f5 own_d4_2 rfl ?_
  refine own_dupX1 C (pc' := 6) own_d4_5 rfl rfl rfl ?_
  refine own_iconst C (pc' := 7) (v := (1 : Int32)) own_d4_6 rfl (by decide) ?_
  refine own_iaddV C (pc' := 8) (v := (2 : Int32)) own_d4_7 rfl (by decide) ?_
  refine own_putF C (pc' := 11) (hw _ (List.mem_of_getElem? (i := 21) rfl)) f5 f0 (Or.inl (hw _ (List.mem_of_getElem? (i := 22) rfl))) (hw _ (List.mem_of_getElem? (i := 6) rfl)) (ty := .int) (by decide) rfl rfl f1 own_d4_8 rfl (fun h41 W42 => ?_)
  have Z43 : n0 ≤ h41.size := Nat.le_trans Z0 (Nat.le_of_eq (Wr.size W42).symm)
  have K44 := Keep.wr K0 W42 (Or.inl (List.mem_of_getElem? (i := 0) rfl))
  have F45 : Exa Z h41 a "com/example/serialis/serialis/graph/IntMinHeap" := Exa.wr W42 f0
  have F46 : Fld Z h41 a "com/example/serialis/serialis/graph/IntMinHeap" "heap" "[I" (.ref ar) := Fld.other W42 f4 (Or.inr (slot_ne (Or.inr (hw _ (List.mem_of_getElem? (i := 15) rfl))) (Or.inl (hw _ (List.mem_of_getElem? (i := 22) rfl))) (by decide) (t := (.array .int)) (t' := .int) (by decide) (by decide)))
  have F47 : Fld Z h41 a "com/example/serialis/serialis/graph/IntMinHeap" "size" "I" (.int (2 : Int32)) := Fld.same W42 f5
  have F48 : own_AI Z h41 ar 5 f := own_A.other f6 W42 (Ne.symm f3)
  refine own_istoreN C (pc' := 12) (Ls' := #[.val (.ref a), .val (.int x), .val (.int (1 : Int32)), .unset]) own_d4_11 rfl rfl ?_
  refine own_iloadN C (pc' := 13) own_d4_12 rfl rfl ?_
  refine own_i0_le C (pc1 := 52) (pc2 := 16) own_d4_13 rfl rfl (fun c49 => absurd c49 (by decide)) (fun c49 => ?_)
  refine own_iloadN C (pc' := 17) own_d4_16 rfl rfl ?_
  refine own_iconst C (pc' := 18) (v := (1 : Int32)) own_d4_17 rfl (by decide) ?_
  refine own_isubV C (pc' := 19) (v := (0 : Int32)) own_d4_18 rfl (by decide) ?_
  refine own_iconst C (pc' := 20) (v := (2 : Int32)) own_d4_19 rfl (by decide) ?_
  refine own_idivV C (pc' := 21) (v := (0 : Int32)) own_d4_20 rfl (by decide) (by decide) ?_
  refine own_istoreN C (pc' := 22) (Ls' := #[.val (.ref a), .val (.int x), .val (.int (1 : Int32)), .val (.int (0 : Int32))]) own_d4_21 rfl rfl ?_
  refine own_aloadN C (pc' := 23) own_d4_22 rfl rfl rfl ?_
  refine own_getF C (pc' := 26) (hw _ (List.mem_of_getElem? (i := 14) rfl)) F46 own_d4_23 rfl ?_
  refine own_iloadN C (pc' := 27) own_d4_26 rfl rfl ?_
  refine own_ldIV C (pc' := 28) F48 (i := 0) (v := (f 0)) (by decide) (by decide) rfl own_d4_27 rfl ?_
  refine own_iloadN C (pc' := 29) own_d4_28 rfl rfl ?_
  refine own_ii_gt C (pc1 := 35) (pc2 := 32) own_d4_29 rfl rfl (fun c50 => ?_) (fun c50 => ?_)
  · skip
    refine own_aloadN C (pc' := 36) own_d4_35 rfl rfl rfl ?_
    refine own_getF C (pc' := 39) (hw _ (List.mem_of_getElem? (i := 14) rfl)) F46 own_d4_36 rfl ?_
    refine own_iloadN C (pc' := 40) own_d4_39 rfl rfl ?_
    refine own_aloadN C (pc' := 41) own_d4_40 rfl rfl rfl ?_
    refine own_getF C (pc' := 44) (hw _ (List.mem_of_getElem? (i := 14) rfl)) F46 own_d4_41 rfl ?_
    refine own_iloadN C (pc' := 45) own_d4_44 rfl rfl ?_
    refine own_ldIV C (pc' := 46) F48 (i := 0) (v := (f 0)) (by decide) (by decide) rfl own_d4_45 rfl ?_
    refine own_stI C (pc' := 47) F48 (i := 1) (by decide) (by decide) f2 own_d4_46 rfl (fun h51 W52 V53 => ?_)
    have Z54 : n0 ≤ h51.size := Nat.le_trans Z43 (Nat.le_of_eq (Wr.size W52).symm)
    have K55 := Keep.wr K44 W52 (Or.inl (List.mem_of_getElem? (i := 1) rfl))
    have F56 : Exa Z h51 a "com/example/serialis/serialis/graph/IntMinHeap" := Exa.wr W52 F45
    have F57 : Fld Z h51 a "com/example/serialis/serialis/graph/IntMinHeap" "heap" "[I" (.ref ar) := Fld.other W52 F46 (Or.inl f3)
    have F58 : Fld Z h51 a "com/example/serialis/serialis/graph/IntMinHeap" "size" "I" (.int (2 : Int32)) := Fld.other W52 F47 (Or.inl f3)
    have F59 : own_AI Z h51 ar 5 (own_upd f 1 (f 0)) := V53
    refine own_iloadN C (pc' := 48) own_d4_47 rfl rfl ?_
    refine own_istoreN C (pc' := 49) (Ls' := #[.val (.ref a), .val (.int x), .val (.int (0 : Int32)), .val (.int (0 : Int32))]) own_d4_48 rfl rfl ?_
    refine own_goto C (pc' := 12) own_d4_49 rfl ?_
    refine own_iloadN C (pc' := 13) own_d4_12 rfl rfl ?_
    refine own_i0_le C (pc1 := 52) (pc2 := 16) own_d4_13 rfl rfl (fun c60 => ?_) (fun c60 => absurd c60 (by decide))
    refine own_aloadN C (pc' := 53) own_d4_52 rfl rfl rfl ?_
    refine own_getF C (pc' := 56) (hw _ (List.mem_of_getElem? (i := 14) rfl)) F57 own_d4_53 rfl ?_
    refine own_iloadN C (pc' := 57) own_d4_56 rfl rfl ?_
    refine own_iloadN C (pc' := 58) own_d4_57 rfl rfl ?_
    refine own_stI C (pc' := 59) F59 (i := 0) (by decide) (by decide) f2 own_d4_58 rfl (fun h61 W62 V63 => ?_)
    have Z64 : n0 ≤ h61.size := Nat.le_trans Z54 (Nat.le_of_eq (Wr.size W62).symm)
    have K65 := Keep.wr K55 W62 (Or.inl (List.mem_of_getElem? (i := 1) rfl))
    have F66 : Exa Z h61 a "com/example/serialis/serialis/graph/IntMinHeap" := Exa.wr W62 F56
    have F67 : Fld Z h61 a "com/example/serialis/serialis/graph/IntMinHeap" "heap" "[I" (.ref ar) := Fld.other W62 F57 (Or.inl f3)
    have F68 : Fld Z h61 a "com/example/serialis/serialis/graph/IntMinHeap" "size" "I" (.int (2 : Int32)) := Fld.other W62 F58 (Or.inl f3)
    have F69 : own_AI Z h61 ar 5 (own_upd (own_upd f 1 (f 0)) 0 x) := V63
    have HH70 : own_H 2 (own_upd (own_upd f 1 (f 0)) 0 x) := by
      refine fun i hi => ?_
      rw [own_lt] at c50
      have t : i = 0 ∨ i = 1 := by omega
      rcases t with rfl | rfl
      · show x ≤ x
        rw [own_le]; omega
      · show x ≤ (f 0)
        rw [own_le]; omega
    exact own_retV C rfl own_d4_59 (by decide) (by decide) (⟨(own_upd (own_upd f 1 (f 0)) 0 x), rfl, K65, F66, F67, F68, F69, HH70, (fun v => by show ((0 + own_one x v) + own_one (f 0) v) = (0 + own_one (f 0) v) + own_one x v; omega)⟩)
  · skip
    refine own_goto C (pc' := 52) own_d4_32 rfl ?_
    refine own_aloadN C (pc' := 53) own_d4_52 rfl rfl rfl ?_
    refine own_getF C (pc' := 56) (hw _ (List.mem_of_getElem? (i := 14) rfl)) F46 own_d4_53 rfl ?_
    refine own_iloadN C (pc' := 57) own_d4_56 rfl rfl ?_
    refine own_iloadN C (pc' := 58) own_d4_57 rfl rfl ?_
    refine own_stI C (pc' := 59) F48 (i := 1) (by decide) (by decide) f2 own_d4_58 rfl (fun h71 W72 V73 => ?_)
    have Z74 : n0 ≤ h71.size := Nat.le_trans Z43 (Nat.le_of_eq (Wr.size W72).symm)
    have K75 := Keep.wr K44 W72 (Or.inl (List.mem_of_getElem? (i := 1) rfl))
    have F76 : Exa Z h71 a "com/example/serialis/serialis/graph/IntMinHeap" := Exa.wr W72 F45
    have F77 : Fld Z h71 a "com/example/serialis/serialis/graph/IntMinHeap" "heap" "[I" (.ref ar) := Fld.other W72 F46 (Or.inl f3)
    have F78 : Fld Z h71 a "com/example/serialis/serialis/graph/IntMinHeap" "size" "I" (.int (2 : Int32)) := Fld.other W72 F47 (Or.inl f3)
    have F79 : own_AI Z h71 ar 5 (own_upd f 1 x) := V73
    have HH80 : own_H 2 (own_upd f 1 x) := by
      refine fun i hi => ?_
      rw [own_lt] at c50
      have t : i = 0 ∨ i = 1 := by omega
      rcases t with rfl | rfl
      · show (f 0) ≤ (f 0)
        rw [own_le]; omega
      · show (f 0) ≤ x
        rw [own_le]; omega
    exact own_retV C rfl own_d4_59 (by decide) (by decide) (⟨(own_upd f 1 x), rfl, K75, F76, F77, F78, F79, HH80, (fun v => by show ((0 + own_one (f 0) v) + own_one x v) = (0 + own_one (f 0) v) + own_one x v; omega)⟩)
set_option maxRecDepth 65536 in
set_option maxHeartbeats 40000000 in
theorem own_add2 {l : Launch} {Z : State} {a0 : Array Value} (hw : ∀ d ∈ tables_1, d.before a0 Z = true) {n0 : Nat} {ws : List Jvm.Cond} {h : Heap} (a : Addr) (ar : Addr) (f : Nat → Int32) (x : Int32) (Z0 : n0 ≤ h.size) (f0 : Exa Z h a "com/example/serialis/serialis/graph/IntMinHeap") (f1 : n0 ≤ a) (f2 : n0 ≤ ar) (f3 : a ≠ ar) (f4 : Fld Z h a "com/example/serialis/serialis/graph/IntMinHeap" "heap" "[I" (.ref ar)) (f5 : Fld Z h a "com/example/serialis/serialis/graph/IntMinHeap" "size" "I" (.int (2 : Int32))) (f6 : own_AI Z h ar 5 f) (hH : own_H 2 f) :
    own_Met l Z n0 (⟨"com/example/serialis/serialis/graph/IntMinHeap", "add", "(I)V"⟩ : MethodName) prog_36_method_3_code 4 none ({ frames := 0, cells := 0, slots := 0, locals := 0 } : Room) ws #[(.ref a), (.int x)] h (fun v h' => ∃ g : Nat → Int32, (v = none) ∧ (Keep h h' [a, ar]) ∧ (Exa Z h' a "com/example/serialis/serialis/graph/IntMinHeap") ∧ (Fld Z h' a "com/example/serialis/serialis/graph/IntMinHeap" "heap" "[I" (.ref ar)) ∧ (Fld Z h' a "com/example/serialis/serialis/graph/IntMinHeap" "size" "I" (.int (3 : Int32))) ∧ (own_AI Z h' ar 5 g) ∧ (own_H 3 g) ∧ (∀ v, own_cnt 3 g v = own_cnt 2 f v + own_one x v)) := by
  refine own_met own_pn0 #[.val (.ref a), .val (.int x), .unset, .unset] (fun m => by first | (simp [entryFrame, mkF, argsToLocals, Value.category]; done) | rfl) ?_
  intro p_ e_ s_ m_ b_ mt_ c_ C
  replace C : own_Ctx p_ s_ m_ mt_ c_ Z "com/example/serialis/serialis/graph/IntMinHeap" "add" prog_36_method_3_code 4 none := C
  have K0 : Keep h h [a, ar] := Keep.refl _ _
  refine own_aloadN C (pc' := 1) own_d4_0 rfl rfl rfl ?_
  refine own_dup C (pc' := 2) own_d4_1 rfl rfl ?_
  refine own_getF C (pc' := 5) (hw _ (List.mem_of_getElem? (i := 21) rfl)) f5 own_d4_2 rfl ?_
  refine own_dupX1 C (pc' := 6) own_d4_5 rfl rfl rfl ?_
  refine own_iconst C (pc' := 7) (v := (1 : Int32)) own_d4_6 rfl (by decide) ?_
  refine own_iaddV C (pc' := 8) (v := (3 : Int32)) own_d4_7 rfl (by decide) ?_
  refine own_putF C (pc' := 11) (hw _ (List.mem_of_getElem? (i := 21) rfl)) f5 f0 (Or.inl (hw _ (List.mem_of_getElem? (i := 22) rfl))) (hw _ (List.mem_of_getElem? (i := 6) rfl)) (ty := .int) (by decide) rfl rfl f1 own_d4_8 rfl (fun h81 W82 => ?_)
  have Z83 : n0 ≤ h81.size := Nat.le_trans Z0 (Nat.le_of_eq (Wr.size W82).symm)
  have K84 := Keep.wr K0 W82 (Or.inl (List.mem_of_getElem? (i := 0) rfl))
  have F85 : Exa Z h81 a "com/example/serialis/serialis/graph/IntMinHeap" := Exa.wr W82 f0
  have F86 : Fld Z h81 a "com/example/serialis/serialis/graph/IntMinHeap" "heap" "[I" (.ref ar) := Fld.other W82 f4 (Or.inr (slot_ne (Or.inr (hw _ (List.mem_of_getElem? (i := 15) rfl))) (Or.inl (hw _ (List.mem_of_getElem? (i := 22) rfl))) (by decide) (t := (.array .int)) (t' := .int) (by decide) (by decide)))
  have F87 : Fld Z h81 a "com/example/serialis/serialis/graph/IntMinHeap" "size" "I" (.int (3 : Int32)) := Fld.same W82 f5
  have F88 : own_AI Z h81 ar 5 f := own_A.other f6 W82 (Ne.symm f3)
  refine own_istoreN C (pc' := 12) (Ls' := #[.val (.ref a), .val (.int x), .val (.int (2 : Int32)), .unset]) own_d4_11 rfl rfl ?_
  refine own_iloadN C (pc' := 13) own_d4_12 rfl rfl ?_
  refine own_i0_le C (pc1 := 52) (pc2 := 16) own_d4_13 rfl rfl (fun c89 => absurd c89 (by decide)) (fun c89 => ?_)
  refine own_iloadN C (pc' := 17) own_d4_16 rfl rfl ?_
  refine own_iconst C (pc' := 18) (v := (1 : Int32)) own_d4_17 rfl (by decide) ?_
  refine own_isubV C (pc' := 19) (v := (1 : Int32)) own_d4_18 rfl (by decide) ?_
  refine own_iconst C (pc' := 20) (v := (2 : Int32)) own_d4_19 rfl (by decide) ?_
  refine own_idivV C (pc' := 21) (v := (0 : Int32)) own_d4_20 rfl (by decide) (by decide) ?_
  refine own_istoreN C (pc' := 22) (Ls' := #[.val (.ref a), .val (.int x), .val (.int (2 : Int32)), .val (.int (0 : Int32))]) own_d4_21 rfl rfl ?_
  refine own_aloadN C (pc' := 23) own_d4_22 rfl rfl rfl ?_
  refine own_getF C (pc' := 26) (hw _ (List.mem_of_getElem? (i := 14) rfl)) F86 own_d4_23 rfl ?_
  refine own_iloadN C (pc' := 27) own_d4_26 rfl rfl ?_
  refine own_ldIV C (pc' := 28) F88 (i := 0) (v := (f 0)) (by decide) (by decide) rfl own_d4_27 rfl ?_
  refine own_iloadN C (pc' := 29) own_d4_28 rfl rfl ?_
  refine own_ii_gt C (pc1 := 35) (pc2 := 32) own_d4_29 rfl rfl (fun c90 => ?_) (fun c90 => ?_)
  · skip
    refine own_aloadN C (pc' := 36) own_d4_35 rfl rfl rfl ?_
    refine own_getF C (pc' := 39) (hw _ (List.mem_of_getElem? (i := 14) rfl)) F86 own_d4_36 rfl ?_
    refine own_iloadN C (pc' := 40) own_d4_39 rfl rfl ?_
    refine own_aloadN C (pc' := 41) own_d4_40 rfl rfl rfl ?_
    refine own_getF C (pc' := 44) (hw _ (List.mem_of_getElem? (i := 14) rfl)) F86 own_d4_41 rfl ?_
    refine own_iloadN C (pc' := 45) own_d4_44 rfl rfl ?_
    refine own_ldIV C (pc' := 46) F88 (i := 0) (v := (f 0)) (by decide) (by decide) rfl own_d4_45 rfl ?_
    refine own_stI C (pc' := 47) F88 (i := 2) (by decide) (by decide) f2 own_d4_46 rfl (fun h91 W92 V93 => ?_)
    have Z94 : n0 ≤ h91.size := Nat.le_trans Z83 (Nat.le_of_eq (Wr.size W92).symm)
    have K95 := Keep.wr K84 W92 (Or.inl (List.mem_of_getElem? (i := 1) rfl))
    have F96 : Exa Z h91 a "com/example/serialis/serialis/graph/IntMinHeap" := Exa.wr W92 F85
    have F97 : Fld Z h91 a "com/example/serialis/serialis/graph/IntMinHeap" "heap" "[I" (.ref ar) := Fld.other W92 F86 (Or.inl f3)
    have F98 : Fld Z h91 a "com/example/serialis/serialis/graph/IntMinHeap" "size" "I" (.int (3 : Int32)) := Fld.other W92 F87 (Or.inl f3)
    have F99 : own_AI Z h91 ar 5 (own_upd f 2 (f 0)) := V93
    refine own_iloadN C (pc' := 48) own_d4_47 rfl rfl ?_
    refine own_istoreN C (pc' := 49) (Ls' := #[.val (.ref a), .val (.int x), .val (.int (0 : Int32)), .val (.int (0 : Int32))]) own_d4_48 rfl rfl ?_
    refine own_goto C (pc' := 12) own_d4_49 rfl ?_
    refine own_iloadN C (pc' := 13) own_d4_12 rfl rfl ?_
    refine own_i0_le C (pc1 := 52) (pc2 := 16) own_d4_13 rfl rfl (fun c100 => ?_) (fun c100 => absurd c100 (by decide))
    refine own_aloadN C (pc' := 53) own_d4_52 rfl rfl rfl ?_
    refine own_getF C (pc' := 56) (hw _ (List.mem_of_getElem? (i := 14) rfl)) F97 own_d4_53 rfl ?_
    refine own_iloadN C (pc' := 57) own_d4_56 rfl rfl ?_
    refine own_iloadN C (pc' := 58) own_d4_57 rfl rfl ?_
    refine own_stI C (pc' := 59) F99 (i := 0) (by decide) (by decide) f2 own_d4_58 rfl (fun h101 W102 V103 => ?_)
    have Z104 : n0 ≤ h101.size := Nat.le_trans Z94 (Nat.le_of_eq (Wr.size W102).symm)
    have K105 := Keep.wr K95 W102 (Or.inl (List.mem_of_getElem? (i := 1) rfl))
    have F106 : Exa Z h101 a "com/example/serialis/serialis/graph/IntMinHeap" := Exa.wr W102 F96
    have F107 : Fld Z h101 a "com/example/serialis/serialis/graph/IntMinHeap" "heap" "[I" (.ref ar) := Fld.other W102 F97 (Or.inl f3)
    have F108 : Fld Z h101 a "com/example/serialis/serialis/graph/IntMinHeap" "size" "I" (.int (3 : Int32)) := Fld.other W102 F98 (Or.inl f3)
    have F109 : own_AI Z h101 ar 5 (own_upd (own_upd f 2 (f 0)) 0 x) := V103
    have HH110 : own_H 3 (own_upd (own_upd f 2 (f 0)) 0 x) := by
      refine fun i hi => ?_
      have H1 : f 0 ≤ f 1 := hH 1 (by decide)
      rw [own_le] at H1
      rw [own_lt] at c90
      have t : i = 0 ∨ i = 1 ∨ i = 2 := by omega
      rcases t with rfl | rfl | rfl
      · show x ≤ x
        rw [own_le]; omega
      · show x ≤ (f 1)
        rw [own_le]; omega
      · show x ≤ (f 0)
        rw [own_le]; omega
    exact own_retV C rfl own_d4_59 (by decide) (by decide) (⟨(own_upd (own_upd f 2 (f 0)) 0 x), rfl, K105, F106, F107, F108, F109, HH110, (fun v => by show (((0 + own_one x v) + own_one (f 1) v) + own_one (f 0) v) = ((0 + own_one (f 0) v) + own_one (f 1) v) + own_one x v; omega)⟩)
  · skip
    refine own_goto C (pc' := 52) own_d4_32 rfl ?_
    refine own_aloadN C (pc' := 53) own_d4_52 rfl rfl rfl ?_
    refine own_getF C (pc' := 56) (hw _ (List.mem_of_getElem? (i := 14) rfl)) F86 own_d4_53 rfl ?_
    refine own_iloadN C (pc' := 57) own_d4_56 rfl rfl ?_
    refine own_iloadN C (pc' := 58) own_d4_57 rfl rfl ?_
    refine own_stI C (pc' := 59) F88 (i := 2) (by decide) (by decide) f2 own_d4_58 rfl (fun h111 W112 V113 => ?_)
    have Z114 : n0 ≤ h111.size := Nat.le_trans Z83 (Nat.le_of_eq (Wr.size W112).symm)
    have K115 := Keep.wr K84 W112 (Or.inl (List.mem_of_getElem? (i := 1) rfl))
    have F116 : Exa Z h111 a "com/example/serialis/serialis/graph/IntMinHeap" := Exa.wr W112 F85
    have F117 : Fld Z h111 a "com/example/serialis/serialis/graph/IntMinHeap" "heap" "[I" (.ref ar) := Fld.other W112 F86 (Or.inl f3)
    have F118 : Fld Z h111 a "com/example/serialis/serialis/graph/IntMinHeap" "size" "I" (.int (3 : Int32)) := Fld.other W112 F87 (Or.inl f3)
    have F119 : own_AI Z h111 ar 5 (own_upd f 2 x) := V113
    have HH120 : own_H 3 (own_upd f 2 x) := by
      refine fun i hi => ?_
      have H1 : f 0 ≤ f 1 := hH 1 (by decide)
      rw [own_le] at H1
      rw [own_lt] at c90
      have t : i = 0 ∨ i = 1 ∨ i = 2 := by omega
      rcases t with rfl | rfl | rfl
      · show (f 0) ≤ (f 0)
        rw [own_le]; omega
      · show (f 0) ≤ (f 1)
        rw [own_le]; omega
      · show (f 0) ≤ x
        rw [own_le]; omega
    exact own_retV C rfl own_d4_59 (by decide) (by decide) (⟨(own_upd f 2 x), rfl, K115, F116, F117, F118, F119, HH120, (fun v => by show (((0 + own_one (f 0) v) + own_one (f 1) v) + own_one x v) = ((0 + own_one (f 0) v) + own_one (f 1) v) + own_one x v; omega)⟩)
set_option maxRecDepth 65536 in
set_option maxHeartbeats 40000000 in
theorem own_add3 {l : Launch} {Z : State} {a0 : Array Value} (hw : ∀ d ∈ tables_1, d.before a0 Z = true) {n0 : Nat} {ws : List Jvm.Cond} {h : Heap} (a : Addr) (ar : Addr) (f : Nat → Int32) (x : Int32) (Z0 : n0 ≤ h.size) (f0 : Exa Z h a "com/example/serialis/serialis/graph/IntMinHeap") (f1 : n0 ≤ a) (f2 : n0 ≤ ar) (f3 : a ≠ ar) (f4 : Fld Z h a "com/example/serialis/serialis/graph/IntMinHeap" "heap" "[I" (.ref ar)) (f5 : Fld Z h a "com/example/serialis/serialis/graph/IntMinHeap" "size" "I" (.int (3 : Int32))) (f6 : own_AI Z h ar 5 f) (hH : own_H 3 f) :
    own_Met l Z n0 (⟨"com/example/serialis/serialis/graph/IntMinHeap", "add", "(I)V"⟩ : MethodName) prog_36_method_3_code 4 none ({ frames := 0, cells := 0, slots := 0, locals := 0 } : Room) ws #[(.ref a), (.int x)] h (fun v h' => ∃ g : Nat → Int32, (v = none) ∧ (Keep h h' [a, ar]) ∧ (Exa Z h' a "com/example/serialis/serialis/graph/IntMinHeap") ∧ (Fld Z h' a "com/example/serialis/serialis/graph/IntMinHeap" "heap" "[I" (.ref ar)) ∧ (Fld Z h' a "com/example/serialis/serialis/graph/IntMinHeap" "size" "I" (.int (4 : Int32))) ∧ (own_AI Z h' ar 5 g) ∧ (own_H 4 g) ∧ (∀ v, own_cnt 4 g v = own_cnt 3 f v + own_one x v)) := by
  refine own_met own_pn0 #[.val (.ref a), .val (.int x), .unset, .unset] (fun m => by first | (simp [entryFrame, mkF, argsToLocals, Value.category]; done) | rfl) ?_
  intro p_ e_ s_ m_ b_ mt_ c_ C
  replace C : own_Ctx p_ s_ m_ mt_ c_ Z "com/example/serialis/serialis/graph/IntMinHeap" "add" prog_36_method_3_code 4 none := C
  have K0 : Keep h h [a, ar] := Keep.refl _ _
  refine own_aloadN C (pc' := 1) own_d4_0 rfl rfl rfl ?_
  refine own_dup C (pc' := 2) own_d4_1 rfl rfl ?_
  refine own_getF C (pc' := 5) (hw _ (List.mem_of_getElem? (i := 21) rfl)) f5 own_d4_2 rfl ?_
  refine own_dupX1 C (pc' := 6) own_d4_5 rfl rfl rfl ?_
  refine own_iconst C (pc' := 7) (v := (1 : Int32)) own_d4_6 rfl (by decide) ?_
  refine own_iaddV C (pc' := 8) (v := (4 : Int32)) own_d4_7 rfl (by decide) ?_
  refine own_putF C (pc' := 11) (hw _ (List.mem_of_getElem? (i := 21) rfl)) f5 f0 (Or.inl (hw _ (List.mem_of_getElem? (i := 22) rfl))) (hw _ (List.mem_of_getElem? (i := 6) rfl)) (ty := .int) (by decide) rfl rfl f1 own_d4_8 rfl (fun h121 W122 => ?_)
  have Z123 : n0 ≤ h121.size := Nat.le_trans Z0 (Nat.le_of_eq (Wr.size W122).symm)
  have K124 := Keep.wr K0 W122 (Or.inl (List.mem_of_getElem? (i := 0) rfl))
  have F125 : Exa Z h121 a "com/example/serialis/serialis/graph/IntMinHeap" := Exa.wr W122 f0
  have F126 : Fld Z h121 a "com/example/serialis/serialis/graph/IntMinHeap" "heap" "[I" (.ref ar) := Fld.other W122 f4 (Or.inr (slot_ne (Or.inr (hw _ (List.mem_of_getElem? (i := 15) rfl))) (Or.inl (hw _ (List.mem_of_getElem? (i := 22) rfl))) (by decide) (t := (.array .int)) (t' := .int) (by decide) (by decide)))
  have F127 : Fld Z h121 a "com/example/serialis/serialis/graph/IntMinHeap" "size" "I" (.int (4 : Int32)) := Fld.same W122 f5
  have F128 : own_AI Z h121 ar 5 f := own_A.other f6 W122 (Ne.symm f3)
  refine own_istoreN C (pc' := 12) (Ls' := #[.val (.ref a), .val (.int x), .val (.int (3 : Int32)), .unset]) own_d4_11 rfl rfl ?_
  refine own_iloadN C (pc' := 13) own_d4_12 rfl rfl ?_
  refine own_i0_le C (pc1 := 52) (pc2 := 16) own_d4_13 rfl rfl (fun c129 => absurd c129 (by decide)) (fun c129 => ?_)
  refine own_iloadN C (pc' := 17) own_d4_16 rfl rfl ?_
  refine own_iconst C (pc' := 18) (v := (1 : Int32)) own_d4_17 rfl (by decide) ?_
  refine own_isubV C (pc' := 19) (v := (2 : Int32)) own_d4_18 rfl (by decide) ?_
  refine own_iconst C (pc' := 20) (v := (2 : Int32)) own_d4_19 rfl (by decide) ?_
  refine own_idivV C (pc' := 21) (v := (1 : Int32)) own_d4_20 rfl (by decide) (by decide) ?_
  refine own_istoreN C (pc' := 22) (Ls' := #[.val (.ref a), .val (.int x), .val (.int (3 : Int32)), .val (.int (1 : Int32))]) own_d4_21 rfl rfl ?_
  refine own_aloadN C (pc' := 23) own_d4_22 rfl rfl rfl ?_
  refine own_getF C (pc' := 26) (hw _ (List.mem_of_getElem? (i := 14) rfl)) F126 own_d4_23 rfl ?_
  refine own_iloadN C (pc' := 27) own_d4_26 rfl rfl ?_
  refine own_ldIV C (pc' := 28) F128 (i := 1) (v := (f 1)) (by decide) (by decide) rfl own_d4_27 rfl ?_
  refine own_iloadN C (pc' := 29) own_d4_28 rfl rfl ?_
  refine own_ii_gt C (pc1 := 35) (pc2 := 32) own_d4_29 rfl rfl (fun c130 => ?_) (fun c130 => ?_)
  · skip
    refine own_aloadN C (pc' := 36) own_d4_35 rfl rfl rfl ?_
    refine own_getF C (pc' := 39) (hw _ (List.mem_of_getElem? (i := 14) rfl)) F126 own_d4_36 rfl ?_
    refine own_iloadN C (pc' := 40) own_d4_39 rfl rfl ?_
    refine own_aloadN C (pc' := 41) own_d4_40 rfl rfl rfl ?_
    refine own_getF C (pc' := 44) (hw _ (List.mem_of_getElem? (i := 14) rfl)) F126 own_d4_41 rfl ?_
    refine own_iloadN C (pc' := 45) own_d4_44 rfl rfl ?_
    refine own_ldIV C (pc' := 46) F128 (i := 1) (v := (f 1)) (by decide) (by decide) rfl own_d4_45 rfl ?_
    refine own_stI C (pc' := 47) F128 (i := 3) (by decide) (by decide) f2 own_d4_46 rfl (fun h131 W132 V133 => ?_)
    have Z134 : n0 ≤ h131.size := Nat.le_trans Z123 (Nat.le_of_eq (Wr.size W132).symm)
    have K135 := Keep.wr K124 W132 (Or.inl (List.mem_of_getElem? (i := 1) rfl))
    have F136 : Exa Z h131 a "com/example/serialis/serialis/graph/IntMinHeap" := Exa.wr W132 F125
    have F137 : Fld Z h131 a "com/example/serialis/serialis/graph/IntMinHeap" "heap" "[I" (.ref ar) := Fld.other W132 F126 (Or.inl f3)
    have F138 : Fld Z h131 a "com/example/serialis/serialis/graph/IntMinHeap" "size" "I" (.int (4 : Int32)) := Fld.other W132 F127 (Or.inl f3)
    have F139 : own_AI Z h131 ar 5 (own_upd f 3 (f 1)) := V133
    refine own_iloadN C (pc' := 48) own_d4_47 rfl rfl ?_
    refine own_istoreN C (pc' := 49) (Ls' := #[.val (.ref a), .val (.int x), .val (.int (1 : Int32)), .val (.int (1 : Int32))]) own_d4_48 rfl rfl ?_
    refine own_goto C (pc' := 12) own_d4_49 rfl ?_
    refine own_iloadN C (pc' := 13) own_d4_12 rfl rfl ?_
    refine own_i0_le C (pc1 := 52) (pc2 := 16) own_d4_13 rfl rfl (fun c140 => absurd c140 (by decide)) (fun c140 => ?_)
    refine own_iloadN C (pc' := 17) own_d4_16 rfl rfl ?_
    refine own_iconst C (pc' := 18) (v := (1 : Int32)) own_d4_17 rfl (by decide) ?_
    refine own_isubV C (pc' := 19) (v := (0 : Int32)) own_d4_18 rfl (by decide) ?_
    refine own_iconst C (pc' := 20) (v := (2 : Int32)) own_d4_19 rfl (by decide) ?_
    refine own_idivV C (pc' := 21) (v := (0 : Int32)) own_d4_20 rfl (by decide) (by decide) ?_
    refine own_istoreN C (pc' := 22) (Ls' := #[.val (.ref a), .val (.int x), .val (.int (1 : Int32)), .val (.int (0 : Int32))]) own_d4_21 rfl rfl ?_
    refine own_aloadN C (pc' := 23) own_d4_22 rfl rfl rfl ?_
    refine own_getF C (pc' := 26) (hw _ (List.mem_of_getElem? (i := 14) rfl)) F137 own_d4_23 rfl ?_
    refine own_iloadN C (pc' := 27) own_d4_26 rfl rfl ?_
    refine own_ldIV C (pc' := 28) F139 (i := 0) (v := (f 0)) (by decide) (by decide) rfl own_d4_27 rfl ?_
    refine own_iloadN C (pc' := 29) own_d4_28 rfl rfl ?_
    refine own_ii_gt C (pc1 := 35) (pc2 := 32) own_d4_29 rfl rfl (fun c141 => ?_) (fun c141 => ?_)
    · skip
      refine own_aloadN C (pc' := 36) own_d4_35 rfl rfl rfl ?_
      refine own_getF C (pc' := 39) (hw _ (List.mem_of_getElem? (i := 14) rfl)) F137 own_d4_36 rfl ?_
      refine own_iloadN C (pc' := 40) own_d4_39 rfl rfl ?_
      refine own_aloadN C (pc' := 41) own_d4_40 rfl rfl rfl ?_
      refine own_getF C (pc' := 44) (hw _ (List.mem_of_getElem? (i := 14) rfl)) F137 own_d4_41 rfl ?_
      refine own_iloadN C (pc' := 45) own_d4_44 rfl rfl ?_
      refine own_ldIV C (pc' := 46) F139 (i := 0) (v := (f 0)) (by decide) (by decide) rfl own_d4_45 rfl ?_
      refine own_stI C (pc' := 47) F139 (i := 1) (by decide) (by decide) f2 own_d4_46 rfl (fun h142 W143 V144 => ?_)
      have Z145 : n0 ≤ h142.size := Nat.le_trans Z134 (Nat.le_of_eq (Wr.size W143).symm)
      have K146 := Keep.wr K135 W143 (Or.inl (List.mem_of_getElem? (i := 1) rfl))
      have F147 : Exa Z h142 a "com/example/serialis/serialis/graph/IntMinHeap" := Exa.wr W143 F136
      have F148 : Fld Z h142 a "com/example/serialis/serialis/graph/IntMinHeap" "heap" "[I" (.ref ar) := Fld.other W143 F137 (Or.inl f3)
      have F149 : Fld Z h142 a "com/example/serialis/serialis/graph/IntMinHeap" "size" "I" (.int (4 : Int32)) := Fld.other W143 F138 (Or.inl f3)
      have F150 : own_AI Z h142 ar 5 (own_upd (own_upd f 3 (f 1)) 1 (f 0)) := V144
      refine own_iloadN C (pc' := 48) own_d4_47 rfl rfl ?_
      refine own_istoreN C (pc' := 49) (Ls' := #[.val (.ref a), .val (.int x), .val (.int (0 : Int32)), .val (.int (0 : Int32))]) own_d4_48 rfl rfl ?_
      refine own_goto C (pc' := 12) own_d4_49 rfl ?_
      refine own_iloadN C (pc' := 13) own_d4_12 rfl rfl ?_
      refine own_i0_le C (pc1 := 52) (pc2 := 16) own_d4_13 rfl rfl (fun c151 => ?_) (fun c151 => absurd c151 (by decide))
      refine own_aloadN C (pc' := 53) own_d4_52 rfl rfl rfl ?_
      refine own_getF C (pc' := 56) (hw _ (List.mem_of_getElem? (i := 14) rfl)) F148 own_d4_53 rfl ?_
      refine own_iloadN C (pc' := 57) own_d4_56 rfl rfl ?_
      refine own_iloadN C (pc' := 58) own_d4_57 rfl rfl ?_
      refine own_stI C (pc' := 59) F150 (i := 0) (by decide) (by decide) f2 own_d4_58 rfl (fun h152 W153 V154 => ?_)
      have Z155 : n0 ≤ h152.size := Nat.le_trans Z145 (Nat.le_of_eq (Wr.size W153).symm)
      have K156 := Keep.wr K146 W153 (Or.inl (List.mem_of_getElem? (i := 1) rfl))
      have F157 : Exa Z h152 a "com/example/serialis/serialis/graph/IntMinHeap" := Exa.wr W153 F147
      have F158 : Fld Z h152 a "com/example/serialis/serialis/graph/IntMinHeap" "heap" "[I" (.ref ar) := Fld.other W153 F148 (Or.inl f3)
      have F159 : Fld Z h152 a "com/example/serialis/serialis/graph/IntMinHeap" "size" "I" (.int (4 : Int32)) := Fld.other W153 F149 (Or.inl f3)
      have F160 : own_AI Z h152 ar 5 (own_upd (own_upd (own_upd f 3 (f 1)) 1 (f 0)) 0 x) := V154
      have HH161 : own_H 4 (own_upd (own_upd (own_upd f 3 (f 1)) 1 (f 0)) 0 x) := by
        refine fun i hi => ?_
        have H1 : f 0 ≤ f 1 := hH 1 (by decide)
        have H2 : f 0 ≤ f 2 := hH 2 (by decide)
        rw [own_le] at H1
        rw [own_le] at H2
        rw [own_lt] at c130
        rw [own_lt] at c141
        have t : i = 0 ∨ i = 1 ∨ i = 2 ∨ i = 3 := by omega
        rcases t with rfl | rfl | rfl | rfl
        · show x ≤ x
          rw [own_le]; omega
        · show x ≤ (f 0)
          rw [own_le]; omega
        · show x ≤ (f 2)
          rw [own_le]; omega
        · show (f 0) ≤ (f 1)
          rw [own_le]; omega
      exact own_retV C rfl own_d4_59 (by decide) (by decide) (⟨(own_upd (own_upd (own_upd f 3 (f 1)) 1 (f 0)) 0 x), rfl, K156, F157, F158, F159, F160, HH161, (fun v => by show ((((0 + own_one x v) + own_one (f 0) v) + own_one (f 2) v) + own_one (f 1) v) = (((0 + own_one (f 0) v) + own_one (f 1) v) + own_one (f 2) v) + own_one x v; omega)⟩)
    · skip
      refine own_goto C (pc' := 52) own_d4_32 rfl ?_
      refine own_aloadN C (pc' := 53) own_d4_52 rfl rfl rfl ?_
      refine own_getF C (pc' := 56) (hw _ (List.mem_of_getElem? (i := 14) rfl)) F137 own_d4_53 rfl ?_
      refine own_iloadN C (pc' := 57) own_d4_56 rfl rfl ?_
      refine own_iloadN C (pc' := 58) own_d4_57 rfl rfl ?_
      refine own_stI C (pc' := 59) F139 (i := 1) (by decide) (by decide) f2 own_d4_58 rfl (fun h162 W163 V164 => ?_)
      have Z165 : n0 ≤ h162.size := Nat.le_trans Z134 (Nat.le_of_eq (Wr.size W163).symm)
      have K166 := Keep.wr K135 W163 (Or.inl (List.mem_of_getElem? (i := 1) rfl))
      have F167 : Exa Z h162 a "com/example/serialis/serialis/graph/IntMinHeap" := Exa.wr W163 F136
      have F168 : Fld Z h162 a "com/example/serialis/serialis/graph/IntMinHeap" "heap" "[I" (.ref ar) := Fld.other W163 F137 (Or.inl f3)
      have F169 : Fld Z h162 a "com/example/serialis/serialis/graph/IntMinHeap" "size" "I" (.int (4 : Int32)) := Fld.other W163 F138 (Or.inl f3)
      have F170 : own_AI Z h162 ar 5 (own_upd (own_upd f 3 (f 1)) 1 x) := V164
      have HH171 : own_H 4 (own_upd (own_upd f 3 (f 1)) 1 x) := by
        refine fun i hi => ?_
        have H1 : f 0 ≤ f 1 := hH 1 (by decide)
        have H2 : f 0 ≤ f 2 := hH 2 (by decide)
        rw [own_le] at H1
        rw [own_le] at H2
        rw [own_lt] at c130
        rw [own_lt] at c141
        have t : i = 0 ∨ i = 1 ∨ i = 2 ∨ i = 3 := by omega
        rcases t with rfl | rfl | rfl | rfl
        · show (f 0) ≤ (f 0)
          rw [own_le]; omega
        · show (f 0) ≤ x
          rw [own_le]; omega
        · show (f 0) ≤ (f 2)
          rw [own_le]; omega
        · show x ≤ (f 1)
          rw [own_le]; omega
      exact own_retV C rfl own_d4_59 (by decide) (by decide) (⟨(own_upd (own_upd f 3 (f 1)) 1 x), rfl, K166, F167, F168, F169, F170, HH171, (fun v => by show ((((0 + own_one (f 0) v) + own_one x v) + own_one (f 2) v) + own_one (f 1) v) = (((0 + own_one (f 0) v) + own_one (f 1) v) + own_one (f 2) v) + own_one x v; omega)⟩)
  · skip
    refine own_goto C (pc' := 52) own_d4_32 rfl ?_
    refine own_aloadN C (pc' := 53) own_d4_52 rfl rfl rfl ?_
    refine own_getF C (pc' := 56) (hw _ (List.mem_of_getElem? (i := 14) rfl)) F126 own_d4_53 rfl ?_
    refine own_iloadN C (pc' := 57) own_d4_56 rfl rfl ?_
    refine own_iloadN C (pc' := 58) own_d4_57 rfl rfl ?_
    refine own_stI C (pc' := 59) F128 (i := 3) (by decide) (by decide) f2 own_d4_58 rfl (fun h172 W173 V174 => ?_)
    have Z175 : n0 ≤ h172.size := Nat.le_trans Z123 (Nat.le_of_eq (Wr.size W173).symm)
    have K176 := Keep.wr K124 W173 (Or.inl (List.mem_of_getElem? (i := 1) rfl))
    have F177 : Exa Z h172 a "com/example/serialis/serialis/graph/IntMinHeap" := Exa.wr W173 F125
    have F178 : Fld Z h172 a "com/example/serialis/serialis/graph/IntMinHeap" "heap" "[I" (.ref ar) := Fld.other W173 F126 (Or.inl f3)
    have F179 : Fld Z h172 a "com/example/serialis/serialis/graph/IntMinHeap" "size" "I" (.int (4 : Int32)) := Fld.other W173 F127 (Or.inl f3)
    have F180 : own_AI Z h172 ar 5 (own_upd f 3 x) := V174
    have HH181 : own_H 4 (own_upd f 3 x) := by
      refine fun i hi => ?_
      have H1 : f 0 ≤ f 1 := hH 1 (by decide)
      have H2 : f 0 ≤ f 2 := hH 2 (by decide)
      rw [own_le] at H1
      rw [own_le] at H2
      rw [own_lt] at c130
      have t : i = 0 ∨ i = 1 ∨ i = 2 ∨ i = 3 := by omega
      rcases t with rfl | rfl | rfl | rfl
      · show (f 0) ≤ (f 0)
        rw [own_le]; omega
      · show (f 0) ≤ (f 1)
        rw [own_le]; omega
      · show (f 0) ≤ (f 2)
        rw [own_le]; omega
      · show (f 1) ≤ x
        rw [own_le]; omega
    exact own_retV C rfl own_d4_59 (by decide) (by decide) (⟨(own_upd f 3 x), rfl, K176, F177, F178, F179, F180, HH181, (fun v => by show ((((0 + own_one (f 0) v) + own_one (f 1) v) + own_one (f 2) v) + own_one x v) = (((0 + own_one (f 0) v) + own_one (f 1) v) + own_one (f 2) v) + own_one x v; omega)⟩)
set_option maxRecDepth 65536 in
set_option maxHeartbeats 40000000 in
theorem own_add4 {l : Launch} {Z : State} {a0 : Array Value} (hw : ∀ d ∈ tables_1, d.before a0 Z = true) {n0 : Nat} {ws : List Jvm.Cond} {h : Heap} (a : Addr) (ar : Addr) (f : Nat → Int32) (x : Int32) (Z0 : n0 ≤ h.size) (f0 : Exa Z h a "com/example/serialis/serialis/graph/IntMinHeap") (f1 : n0 ≤ a) (f2 : n0 ≤ ar) (f3 : a ≠ ar) (f4 : Fld Z h a "com/example/serialis/serialis/graph/IntMinHeap" "heap" "[I" (.ref ar)) (f5 : Fld Z h a "com/example/serialis/serialis/graph/IntMinHeap" "size" "I" (.int (4 : Int32))) (f6 : own_AI Z h ar 5 f) (hH : own_H 4 f) :
    own_Met l Z n0 (⟨"com/example/serialis/serialis/graph/IntMinHeap", "add", "(I)V"⟩ : MethodName) prog_36_method_3_code 4 none ({ frames := 0, cells := 0, slots := 0, locals := 0 } : Room) ws #[(.ref a), (.int x)] h (fun v h' => ∃ g : Nat → Int32, (v = none) ∧ (Keep h h' [a, ar]) ∧ (Exa Z h' a "com/example/serialis/serialis/graph/IntMinHeap") ∧ (Fld Z h' a "com/example/serialis/serialis/graph/IntMinHeap" "heap" "[I" (.ref ar)) ∧ (Fld Z h' a "com/example/serialis/serialis/graph/IntMinHeap" "size" "I" (.int (5 : Int32))) ∧ (own_AI Z h' ar 5 g) ∧ (own_H 5 g) ∧ (∀ v, own_cnt 5 g v = own_cnt 4 f v + own_one x v)) := by
  refine own_met own_pn0 #[.val (.ref a), .val (.int x), .unset, .unset] (fun m => by first | (simp [entryFrame, mkF, argsToLocals, Value.category]; done) | rfl) ?_
  intro p_ e_ s_ m_ b_ mt_ c_ C
  replace C : own_Ctx p_ s_ m_ mt_ c_ Z "com/example/serialis/serialis/graph/IntMinHeap" "add" prog_36_method_3_code 4 none := C
  have K0 : Keep h h [a, ar] := Keep.refl _ _
  refine own_aloadN C (pc' := 1) own_d4_0 rfl rfl rfl ?_
  refine own_dup C (pc' := 2) own_d4_1 rfl rfl ?_
  refine own_getF C (pc' := 5) (hw _ (List.mem_of_getElem? (i := 21) rfl)) f5 own_d4_2 rfl ?_
  refine own_dupX1 C (pc' := 6) own_d4_5 rfl rfl rfl ?_
  refine own_iconst C (pc' := 7) (v := (1 : Int32)) own_d4_6 rfl (by decide) ?_
  refine own_iaddV C (pc' := 8) (v := (5 : Int32)) own_d4_7 rfl (by decide) ?_
  refine own_putF C (pc' := 11) (hw _ (List.mem_of_getElem? (i := 21) rfl)) f5 f0 (Or.inl (hw _ (List.mem_of_getElem? (i := 22) rfl))) (hw _ (List.mem_of_getElem? (i := 6) rfl)) (ty := .int) (by decide) rfl rfl f1 own_d4_8 rfl (fun h182 W183 => ?_)
  have Z184 : n0 ≤ h182.size := Nat.le_trans Z0 (Nat.le_of_eq (Wr.size W183).symm)
  have K185 := Keep.wr K0 W183 (Or.inl (List.mem_of_getElem? (i := 0) rfl))
  have F186 : Exa Z h182 a "com/example/serialis/serialis/graph/IntMinHeap" := Exa.wr W183 f0
  have F187 : Fld Z h182 a "com/example/serialis/serialis/graph/IntMinHeap" "heap" "[I" (.ref ar) := Fld.other W183 f4 (Or.inr (slot_ne (Or.inr (hw _ (List.mem_of_getElem? (i := 15) rfl))) (Or.inl (hw _ (List.mem_of_getElem? (i := 22) rfl))) (by decide) (t := (.array .int)) (t' := .int) (by decide) (by decide)))
  have F188 : Fld Z h182 a "com/example/serialis/serialis/graph/IntMinHeap" "size" "I" (.int (5 : Int32)) := Fld.same W183 f5
  have F189 : own_AI Z h182 ar 5 f := own_A.other f6 W183 (Ne.symm f3)
  refine own_istoreN C (pc' := 12) (Ls' := #[.val (.ref a), .val (.int x), .val (.int (4 : Int32)), .unset]) own_d4_11 rfl rfl ?_
  refine own_iloadN C (pc' := 13) own_d4_12 rfl rfl ?_
  refine own_i0_le C (pc1 := 52) (pc2 := 16) own_d4_13 rfl rfl (fun c190 => absurd c190 (by decide)) (fun c190 => ?_)
  refine own_iloadN C (pc' := 17) own_d4_16 rfl rfl ?_
  refine own_iconst C (pc' := 18) (v := (1 : Int32)) own_d4_17 rfl (by decide) ?_
  refine own_isubV C (pc' := 19) (v := (3 : Int32)) own_d4_18 rfl (by decide) ?_
  refine own_iconst C (pc' := 20) (v := (2 : Int32)) own_d4_19 rfl (by decide) ?_
  refine own_idivV C (pc' := 21) (v := (1 : Int32)) own_d4_20 rfl (by decide) (by decide) ?_
  refine own_istoreN C (pc' := 22) (Ls' := #[.val (.ref a), .val (.int x), .val (.int (4 : Int32)), .val (.int (1 : Int32))]) own_d4_21 rfl rfl ?_
  refine own_aloadN C (pc' := 23) own_d4_22 rfl rfl rfl ?_
  refine own_getF C (pc' := 26) (hw _ (List.mem_of_getElem? (i := 14) rfl)) F187 own_d4_23 rfl ?_
  refine own_iloadN C (pc' := 27) own_d4_26 rfl rfl ?_
  refine own_ldIV C (pc' := 28) F189 (i := 1) (v := (f 1)) (by decide) (by decide) rfl own_d4_27 rfl ?_
  refine own_iloadN C (pc' := 29) own_d4_28 rfl rfl ?_
  refine own_ii_gt C (pc1 := 35) (pc2 := 32) own_d4_29 rfl rfl (fun c191 => ?_) (fun c191 => ?_)
  · skip
    refine own_aloadN C (pc' := 36) own_d4_35 rfl rfl rfl ?_
    refine own_getF C (pc' := 39) (hw _ (List.mem_of_getElem? (i := 14) rfl)) F187 own_d4_36 rfl ?_
    refine own_iloadN C (pc' := 40) own_d4_39 rfl rfl ?_
    refine own_aloadN C (pc' := 41) own_d4_40 rfl rfl rfl ?_
    refine own_getF C (pc' := 44) (hw _ (List.mem_of_getElem? (i := 14) rfl)) F187 own_d4_41 rfl ?_
    refine own_iloadN C (pc' := 45) own_d4_44 rfl rfl ?_
    refine own_ldIV C (pc' := 46) F189 (i := 1) (v := (f 1)) (by decide) (by decide) rfl own_d4_45 rfl ?_
    refine own_stI C (pc' := 47) F189 (i := 4) (by decide) (by decide) f2 own_d4_46 rfl (fun h192 W193 V194 => ?_)
    have Z195 : n0 ≤ h192.size := Nat.le_trans Z184 (Nat.le_of_eq (Wr.size W193).symm)
    have K196 := Keep.wr K185 W193 (Or.inl (List.mem_of_getElem? (i := 1) rfl))
    have F197 : Exa Z h192 a "com/example/serialis/serialis/graph/IntMinHeap" := Exa.wr W193 F186
    have F198 : Fld Z h192 a "com/example/serialis/serialis/graph/IntMinHeap" "heap" "[I" (.ref ar) := Fld.other W193 F187 (Or.inl f3)
    have F199 : Fld Z h192 a "com/example/serialis/serialis/graph/IntMinHeap" "size" "I" (.int (5 : Int32)) := Fld.other W193 F188 (Or.inl f3)
    have F200 : own_AI Z h192 ar 5 (own_upd f 4 (f 1)) := V194
    refine own_iloadN C (pc' := 48) own_d4_47 rfl rfl ?_
    refine own_istoreN C (pc' := 49) (Ls' := #[.val (.ref a), .val (.int x), .val (.int (1 : Int32)), .val (.int (1 : Int32))]) own_d4_48 rfl rfl ?_
    refine own_goto C (pc' := 12) own_d4_49 rfl ?_
    refine own_iloadN C (pc' := 13) own_d4_12 rfl rfl ?_
    refine own_i0_le C (pc1 := 52) (pc2 := 16) own_d4_13 rfl rfl (fun c201 => absurd c201 (by decide)) (fun c201 => ?_)
    refine own_iloadN C (pc' := 17) own_d4_16 rfl rfl ?_
    refine own_iconst C (pc' := 18) (v := (1 : Int32)) own_d4_17 rfl (by decide) ?_
    refine own_isubV C (pc' := 19) (v := (0 : Int32)) own_d4_18 rfl (by decide) ?_
    refine own_iconst C (pc' := 20) (v := (2 : Int32)) own_d4_19 rfl (by decide) ?_
    refine own_idivV C (pc' := 21) (v := (0 : Int32)) own_d4_20 rfl (by decide) (by decide) ?_
    refine own_istoreN C (pc' := 22) (Ls' := #[.val (.ref a), .val (.int x), .val (.int (1 : Int32)), .val (.int (0 : Int32))]) own_d4_21 rfl rfl ?_
    refine own_aloadN C (pc' := 23) own_d4_22 rfl rfl rfl ?_
    refine own_getF C (pc' := 26) (hw _ (List.mem_of_getElem? (i := 14) rfl)) F198 own_d4_23 rfl ?_
    refine own_iloadN C (pc' := 27) own_d4_26 rfl rfl ?_
    refine own_ldIV C (pc' := 28) F200 (i := 0) (v := (f 0)) (by decide) (by decide) rfl own_d4_27 rfl ?_
    refine own_iloadN C (pc' := 29) own_d4_28 rfl rfl ?_
    refine own_ii_gt C (pc1 := 35) (pc2 := 32) own_d4_29 rfl rfl (fun c202 => ?_) (fun c202 => ?_)
    · skip
      refine own_aloadN C (pc' := 36) own_d4_35 rfl rfl rfl ?_
      refine own_getF C (pc' := 39) (hw _ (List.mem_of_getElem? (i := 14) rfl)) F198 own_d4_36 rfl ?_
      refine own_iloadN C (pc' := 40) own_d4_39 rfl rfl ?_
      refine own_aloadN C (pc' := 41) own_d4_40 rfl rfl rfl ?_
      refine own_getF C (pc' := 44) (hw _ (List.mem_of_getElem? (i := 14) rfl)) F198 own_d4_41 rfl ?_
      refine own_iloadN C (pc' := 45) own_d4_44 rfl rfl ?_
      refine own_ldIV C (pc' := 46) F200 (i := 0) (v := (f 0)) (by decide) (by decide) rfl own_d4_45 rfl ?_
      refine own_stI C (pc' := 47) F200 (i := 1) (by decide) (by decide) f2 own_d4_46 rfl (fun h203 W204 V205 => ?_)
      have Z206 : n0 ≤ h203.size := Nat.le_trans Z195 (Nat.le_of_eq (Wr.size W204).symm)
      have K207 := Keep.wr K196 W204 (Or.inl (List.mem_of_getElem? (i := 1) rfl))
      have F208 : Exa Z h203 a "com/example/serialis/serialis/graph/IntMinHeap" := Exa.wr W204 F197
      have F209 : Fld Z h203 a "com/example/serialis/serialis/graph/IntMinHeap" "heap" "[I" (.ref ar) := Fld.other W204 F198 (Or.inl f3)
      have F210 : Fld Z h203 a "com/example/serialis/serialis/graph/IntMinHeap" "size" "I" (.int (5 : Int32)) := Fld.other W204 F199 (Or.inl f3)
      have F211 : own_AI Z h203 ar 5 (own_upd (own_upd f 4 (f 1)) 1 (f 0)) := V205
      refine own_iloadN C (pc' := 48) own_d4_47 rfl rfl ?_
      refine own_istoreN C (pc' := 49) (Ls' := #[.val (.ref a), .val (.int x), .val (.int (0 : Int32)), .val (.int (0 : Int32))]) own_d4_48 rfl rfl ?_
      refine own_goto C (pc' := 12) own_d4_49 rfl ?_
      refine own_iloadN C (pc' := 13) own_d4_12 rfl rfl ?_
      refine own_i0_le C (pc1 := 52) (pc2 := 16) own_d4_13 rfl rfl (fun c212 => ?_) (fun c212 => absurd c212 (by decide))
      refine own_aloadN C (pc' := 53) own_d4_52 rfl rfl rfl ?_
      refine own_getF C (pc' := 56) (hw _ (List.mem_of_getElem? (i := 14) rfl)) F209 own_d4_53 rfl ?_
      refine own_iloadN C (pc' := 57) own_d4_56 rfl rfl ?_
      refine own_iloadN C (pc' := 58) own_d4_57 rfl rfl ?_
      refine own_stI C (pc' := 59) F211 (i := 0) (by decide) (by decide) f2 own_d4_58 rfl (fun h213 W214 V215 => ?_)
      have Z216 : n0 ≤ h213.size := Nat.le_trans Z206 (Nat.le_of_eq (Wr.size W214).symm)
      have K217 := Keep.wr K207 W214 (Or.inl (List.mem_of_getElem? (i := 1) rfl))
      have F218 : Exa Z h213 a "com/example/serialis/serialis/graph/IntMinHeap" := Exa.wr W214 F208
      have F219 : Fld Z h213 a "com/example/serialis/serialis/graph/IntMinHeap" "heap" "[I" (.ref ar) := Fld.other W214 F209 (Or.inl f3)
      have F220 : Fld Z h213 a "com/example/serialis/serialis/graph/IntMinHeap" "size" "I" (.int (5 : Int32)) := Fld.other W214 F210 (Or.inl f3)
      have F221 : own_AI Z h213 ar 5 (own_upd (own_upd (own_upd f 4 (f 1)) 1 (f 0)) 0 x) := V215
      have HH222 : own_H 5 (own_upd (own_upd (own_upd f 4 (f 1)) 1 (f 0)) 0 x) := by
        refine fun i hi => ?_
        have H1 : f 0 ≤ f 1 := hH 1 (by decide)
        have H2 : f 0 ≤ f 2 := hH 2 (by decide)
        have H3 : f 1 ≤ f 3 := hH 3 (by decide)
        rw [own_le] at H1
        rw [own_le] at H2
        rw [own_le] at H3
        rw [own_lt] at c191
        rw [own_lt] at c202
        have t : i = 0 ∨ i = 1 ∨ i = 2 ∨ i = 3 ∨ i = 4 := by omega
        rcases t with rfl | rfl | rfl | rfl | rfl
        · show x ≤ x
          rw [own_le]; omega
        · show x ≤ (f 0)
          rw [own_le]; omega
        · show x ≤ (f 2)
          rw [own_le]; omega
        · show (f 0) ≤ (f 3)
          rw [own_le]; omega
        · show (f 0) ≤ (f 1)
          rw [own_le]; omega
      exact own_retV C rfl own_d4_59 (by decide) (by decide) (⟨(own_upd (own_upd (own_upd f 4 (f 1)) 1 (f 0)) 0 x), rfl, K217, F218, F219, F220, F221, HH222, (fun v => by show (((((0 + own_one x v) + own_one (f 0) v) + own_one (f 2) v) + own_one (f 3) v) + own_one (f 1) v) = ((((0 + own_one (f 0) v) + own_one (f 1) v) + own_one (f 2) v) + own_one (f 3) v) + own_one x v; omega)⟩)
    · skip
      refine own_goto C (pc' := 52) own_d4_32 rfl ?_
      refine own_aloadN C (pc' := 53) own_d4_52 rfl rfl rfl ?_
      refine own_getF C (pc' := 56) (hw _ (List.mem_of_getElem? (i := 14) rfl)) F198 own_d4_53 rfl ?_
      refine own_iloadN C (pc' := 57) own_d4_56 rfl rfl ?_
      refine own_iloadN C (pc' := 58) own_d4_57 rfl rfl ?_
      refine own_stI C (pc' := 59) F200 (i := 1) (by decide) (by decide) f2 own_d4_58 rfl (fun h223 W224 V225 => ?_)
      have Z226 : n0 ≤ h223.size := Nat.le_trans Z195 (Nat.le_of_eq (Wr.size W224).symm)
      have K227 := Keep.wr K196 W224 (Or.inl (List.mem_of_getElem? (i := 1) rfl))
      have F228 : Exa Z h223 a "com/example/serialis/serialis/graph/IntMinHeap" := Exa.wr W224 F197
      have F229 : Fld Z h223 a "com/example/serialis/serialis/graph/IntMinHeap" "heap" "[I" (.ref ar) := Fld.other W224 F198 (Or.inl f3)
      have F230 : Fld Z h223 a "com/example/serialis/serialis/graph/IntMinHeap" "size" "I" (.int (5 : Int32)) := Fld.other W224 F199 (Or.inl f3)
      have F231 : own_AI Z h223 ar 5 (own_upd (own_upd f 4 (f 1)) 1 x) := V225
      have HH232 : own_H 5 (own_upd (own_upd f 4 (f 1)) 1 x) := by
        refine fun i hi => ?_
        have H1 : f 0 ≤ f 1 := hH 1 (by decide)
        have H2 : f 0 ≤ f 2 := hH 2 (by decide)
        have H3 : f 1 ≤ f 3 := hH 3 (by decide)
        rw [own_le] at H1
        rw [own_le] at H2
        rw [own_le] at H3
        rw [own_lt] at c191
        rw [own_lt] at c202
        have t : i = 0 ∨ i = 1 ∨ i = 2 ∨ i = 3 ∨ i = 4 := by omega
        rcases t with rfl | rfl | rfl | rfl | rfl
        · show (f 0) ≤ (f 0)
          rw [own_le]; omega
        · show (f 0) ≤ x
          rw [own_le]; omega
        · show (f 0) ≤ (f 2)
          rw [own_le]; omega
        · show x ≤ (f 3)
          rw [own_le]; omega
        · show x ≤ (f 1)
          rw [own_le]; omega
      exact own_retV C rfl own_d4_59 (by decide) (by decide) (⟨(own_upd (own_upd f 4 (f 1)) 1 x), rfl, K227, F228, F229, F230, F231, HH232, (fun v => by show (((((0 + own_one (f 0) v) + own_one x v) + own_one (f 2) v) + own_one (f 3) v) + own_one (f 1) v) = ((((0 + own_one (f 0) v) + own_one (f 1) v) + own_one (f 2) v) + own_one (f 3) v) + own_one x v; omega)⟩)
  · skip
    refine own_goto C (pc' := 52) own_d4_32 rfl ?_
    refine own_aloadN C (pc' := 53) own_d4_52 rfl rfl rfl ?_
    refine own_getF C (pc' := 56) (hw _ (List.mem_of_getElem? (i := 14) rfl)) F187 own_d4_53 rfl ?_
    refine own_iloadN C (pc' := 57) own_d4_56 rfl rfl ?_
    refine own_iloadN C (pc' := 58) own_d4_57 rfl rfl ?_
    refine own_stI C (pc' := 59) F189 (i := 4) (by decide) (by decide) f2 own_d4_58 rfl (fun h233 W234 V235 => ?_)
    have Z236 : n0 ≤ h233.size := Nat.le_trans Z184 (Nat.le_of_eq (Wr.size W234).symm)
    have K237 := Keep.wr K185 W234 (Or.inl (List.mem_of_getElem? (i := 1) rfl))
    have F238 : Exa Z h233 a "com/example/serialis/serialis/graph/IntMinHeap" := Exa.wr W234 F186
    have F239 : Fld Z h233 a "com/example/serialis/serialis/graph/IntMinHeap" "heap" "[I" (.ref ar) := Fld.other W234 F187 (Or.inl f3)
    have F240 : Fld Z h233 a "com/example/serialis/serialis/graph/IntMinHeap" "size" "I" (.int (5 : Int32)) := Fld.other W234 F188 (Or.inl f3)
    have F241 : own_AI Z h233 ar 5 (own_upd f 4 x) := V235
    have HH242 : own_H 5 (own_upd f 4 x) := by
      refine fun i hi => ?_
      have H1 : f 0 ≤ f 1 := hH 1 (by decide)
      have H2 : f 0 ≤ f 2 := hH 2 (by decide)
      have H3 : f 1 ≤ f 3 := hH 3 (by decide)
      rw [own_le] at H1
      rw [own_le] at H2
      rw [own_le] at H3
      rw [own_lt] at c191
      have t : i = 0 ∨ i = 1 ∨ i = 2 ∨ i = 3 ∨ i = 4 := by omega
      rcases t with rfl | rfl | rfl | rfl | rfl
      · show (f 0) ≤ (f 0)
        rw [own_le]; omega
      · show (f 0) ≤ (f 1)
        rw [own_le]; omega
      · show (f 0) ≤ (f 2)
        rw [own_le]; omega
      · show (f 1) ≤ (f 3)
        rw [own_le]; omega
      · show (f 1) ≤ x
        rw [own_le]; omega
    exact own_retV C rfl own_d4_59 (by decide) (by decide) (⟨(own_upd f 4 x), rfl, K237, F238, F239, F240, F241, HH242, (fun v => by show (((((0 + own_one (f 0) v) + own_one (f 1) v) + own_one (f 2) v) + own_one (f 3) v) + own_one x v) = ((((0 + own_one (f 0) v) + own_one (f 1) v) + own_one (f 2) v) + own_one (f 3) v) + own_one x v; omega)⟩)
set_option maxRecDepth 65536 in
set_option maxHeartbeats 40000000 in
theorem own_rem1 {l : Launch} {Z : State} {a0 : Array Value} (hw : ∀ d ∈ tables_1, d.before a0 Z = true) {n0 : Nat} {ws : List Jvm.Cond} {h : Heap} (a : Addr) (ar : Addr) (f : Nat → Int32) (Z0 : n0 ≤ h.size) (f0 : Exa Z h a "com/example/serialis/serialis/graph/IntMinHeap") (f1 : n0 ≤ a) (f2 : n0 ≤ ar) (f3 : a ≠ ar) (f4 : Fld Z h a "com/example/serialis/serialis/graph/IntMinHeap" "heap" "[I" (.ref ar)) (f5 : Fld Z h a "com/example/serialis/serialis/graph/IntMinHeap" "size" "I" (.int (1 : Int32))) (f6 : own_AI Z h ar 5 f) (hH : own_H 1 f) :
    own_Met l Z n0 (⟨"com/example/serialis/serialis/graph/IntMinHeap", "removeSmallest", "()I"⟩ : MethodName) prog_36_method_4_code 5 (some .int) ({ frames := 0, cells := 0, slots := 0, locals := 0 } : Room) ws #[(.ref a)] h (fun v h' => ∃ g : Nat → Int32, (v = some (.int (f 0))) ∧ (Keep h h' [a, ar]) ∧ (Exa Z h' a "com/example/serialis/serialis/graph/IntMinHeap") ∧ (Fld Z h' a "com/example/serialis/serialis/graph/IntMinHeap" "heap" "[I" (.ref ar)) ∧ (Fld Z h' a "com/example/serialis/serialis/graph/IntMinHeap" "size" "I" (.int (0 : Int32))) ∧ (own_AI Z h' ar 5 g) ∧ (own_H 0 g) ∧ (∀ v, own_cnt 1 f v = own_cnt 0 g v + own_one (f 0) v) ∧ (True)) := by
  refine own_met own_pn0 #[.val (.ref a), .unset, .unset, .unset, .unset] (fun m => by first | (simp [entryFrame, mkF, argsToLocals, Value.category]; done) | rfl) ?_
  intro p_ e_ s_ m_ b_ mt_ c_ C
  replace C : own_Ctx p_ s_ m_ mt_ c_ Z "com/example/serialis/serialis/graph/IntMinHeap" "removeSmallest" prog_36_method_4_code 5 (some .int) := C
  have K0 : Keep h h [a, ar] := Keep.refl _ _
  refine own_aloadN C (pc' := 1) own_d5_0 rfl rfl rfl ?_
  refine own_getF C (pc' := 4) (hw _ (List.mem_of_getElem? (i := 14) rfl)) f4 own_d5_1 rfl ?_
  refine own_iconst C (pc' := 5) (v := (0 : Int32)) own_d5_4 rfl (by decide) ?_
  refine own_ldIV C (pc' := 6) f6 (i := 0) (v := (f 0)) (by decide) (by decide) rfl own_d5_5 rfl ?_
  refine own_istoreN C (pc' := 7) (Ls' := #[.val (.ref a), .val (.int (f 0)), .unset, .unset, .unset]) own_d5_6 rfl rfl ?_
  refine own_aloadN C (pc' := 8) own_d5_7 rfl rfl rfl ?_
  refine own_getF C (pc' := 11) (hw _ (List.mem_of_getElem? (i := 14) rfl)) f4 own_d5_8 rfl ?_
  refine own_aloadN C (pc' := 12) own_d5_11 rfl rfl rfl ?_
  refine own_dup C (pc' := 13) own_d5_12 rfl rfl ?_
  refine own_getF C (pc' := 16) (hw _ (List.mem_of_getElem? (i := 21) rfl)) f5 own_d5_13 rfl ?_
  refine own_iconst C (pc' := 17) (v := (1 : Int32)) own_d5_16 rfl (by decide) ?_
  refine own_isubV C (pc' := 18) (v := (0 : Int32)) own_d5_17 rfl (by decide) ?_
  refine own_dupX1 C (pc' := 19) own_d5_18 rfl rfl rfl ?_
  refine own_putF C (pc' := 22) (hw _ (List.mem_of_getElem? (i := 21) rfl)) f5 f0 (Or.inl (hw _ (List.mem_of_getElem? (i := 22) rfl))) (hw _ (List.mem_of_getElem? (i := 6) rfl)) (ty := .int) (by decide) rfl rfl f1 own_d5_19 rfl (fun h243 W244 => ?_)
  have Z245 : n0 ≤ h243.size := Nat.le_trans Z0 (Nat.le_of_eq (Wr.size W244).symm)
  have K246 := Keep.wr K0 W244 (Or.inl (List.mem_of_getElem? (i := 0) rfl))
  have F247 : Exa Z h243 a "com/example/serialis/serialis/graph/IntMinHeap" := Exa.wr W244 f0
  have F248 : Fld Z h243 a "com/example/serialis/serialis/graph/IntMinHeap" "heap" "[I" (.ref ar) := Fld.other W244 f4 (Or.inr (slot_ne (Or.inr (hw _ (List.mem_of_getElem? (i := 15) rfl))) (Or.inl (hw _ (List.mem_of_getElem? (i := 22) rfl))) (by decide) (t := (.array .int)) (t' := .int) (by decide) (by decide)))
  have F249 : Fld Z h243 a "com/example/serialis/serialis/graph/IntMinHeap" "size" "I" (.int (0 : Int32)) := Fld.same W244 f5
  have F250 : own_AI Z h243 ar 5 f := own_A.other f6 W244 (Ne.symm f3)
  refine own_ldIV C (pc' := 23) F250 (i := 0) (v := (f 0)) (by decide) (by decide) rfl own_d5_22 rfl ?_
  refine own_istoreN C (pc' := 24) (Ls' := #[.val (.ref a), .val (.int (f 0)), .val (.int (f 0)), .unset, .unset]) own_d5_23 rfl rfl ?_
  refine own_iconst C (pc' := 25) (v := (0 : Int32)) own_d5_24 rfl (by decide) ?_
  refine own_istoreN C (pc' := 26) (Ls' := #[.val (.ref a), .val (.int (f 0)), .val (.int (f 0)), .val (.int (0 : Int32)), .unset]) own_d5_25 rfl rfl ?_
  refine own_iconst C (pc' := 27) (v := (2 : Int32)) own_d5_26 rfl (by decide) ?_
  refine own_iloadN C (pc' := 28) own_d5_27 rfl rfl ?_
  refine own_imulV C (pc' := 29) (v := (0 : Int32)) own_d5_28 rfl (by decide) ?_
  refine own_iconst C (pc' := 30) (v := (1 : Int32)) own_d5_29 rfl (by decide) ?_
  refine own_iaddV C (pc' := 31) (v := (1 : Int32)) own_d5_30 rfl (by decide) ?_
  refine own_istore C (pc' := 33) (Ls' := #[.val (.ref a), .val (.int (f 0)), .val (.int (f 0)), .val (.int (0 : Int32)), .val (.int (1 : Int32))]) own_d5_31 rfl rfl ?_
  refine own_iload C (pc' := 35) own_d5_33 rfl rfl ?_
  refine own_aloadN C (pc' := 36) own_d5_35 rfl rfl rfl ?_
  refine own_getF C (pc' := 39) (hw _ (List.mem_of_getElem? (i := 21) rfl)) F249 own_d5_36 rfl ?_
  refine own_ii_lt C (pc1 := 45) (pc2 := 42) own_d5_39 rfl rfl (fun c251 => absurd c251 (by decide)) (fun c251 => ?_)
  refine own_goto C (pc' := 111) own_d5_42 rfl ?_
  refine own_aloadN C (pc' := 112) own_d5_111 rfl rfl rfl ?_
  refine own_getF C (pc' := 115) (hw _ (List.mem_of_getElem? (i := 14) rfl)) F248 own_d5_112 rfl ?_
  refine own_iloadN C (pc' := 116) own_d5_115 rfl rfl ?_
  refine own_iloadN C (pc' := 117) own_d5_116 rfl rfl ?_
  refine own_stI C (pc' := 118) F250 (i := 0) (by decide) (by decide) f2 own_d5_117 rfl (fun h252 W253 V254 => ?_)
  have Z255 : n0 ≤ h252.size := Nat.le_trans Z245 (Nat.le_of_eq (Wr.size W253).symm)
  have K256 := Keep.wr K246 W253 (Or.inl (List.mem_of_getElem? (i := 1) rfl))
  have F257 : Exa Z h252 a "com/example/serialis/serialis/graph/IntMinHeap" := Exa.wr W253 F247
  have F258 : Fld Z h252 a "com/example/serialis/serialis/graph/IntMinHeap" "heap" "[I" (.ref ar) := Fld.other W253 F248 (Or.inl f3)
  have F259 : Fld Z h252 a "com/example/serialis/serialis/graph/IntMinHeap" "size" "I" (.int (0 : Int32)) := Fld.other W253 F249 (Or.inl f3)
  have F260 : own_AI Z h252 ar 5 (own_upd f 0 (f 0)) := V254
  refine own_iloadN C (pc' := 119) own_d5_118 rfl rfl ?_
  exact own_ret C (t := .int) rfl rfl (Or.inl ⟨rfl, by simp, _, rfl⟩) own_d5_119 (by decide) (by decide) (⟨(own_upd f 0 (f 0)), rfl, K256, F257, F258, F259, F260, (fun i hi => absurd hi (Nat.not_lt_zero i)), (fun v => by show (0 + own_one (f 0) v) = 0 + own_one (f 0) v; omega), trivial⟩)
set_option maxRecDepth 65536 in
set_option maxHeartbeats 40000000 in
theorem own_rem2 {l : Launch} {Z : State} {a0 : Array Value} (hw : ∀ d ∈ tables_1, d.before a0 Z = true) {n0 : Nat} {ws : List Jvm.Cond} {h : Heap} (a : Addr) (ar : Addr) (f : Nat → Int32) (Z0 : n0 ≤ h.size) (f0 : Exa Z h a "com/example/serialis/serialis/graph/IntMinHeap") (f1 : n0 ≤ a) (f2 : n0 ≤ ar) (f3 : a ≠ ar) (f4 : Fld Z h a "com/example/serialis/serialis/graph/IntMinHeap" "heap" "[I" (.ref ar)) (f5 : Fld Z h a "com/example/serialis/serialis/graph/IntMinHeap" "size" "I" (.int (2 : Int32))) (f6 : own_AI Z h ar 5 f) (hH : own_H 2 f) :
    own_Met l Z n0 (⟨"com/example/serialis/serialis/graph/IntMinHeap", "removeSmallest", "()I"⟩ : MethodName) prog_36_method_4_code 5 (some .int) ({ frames := 0, cells := 0, slots := 0, locals := 0 } : Room) ws #[(.ref a)] h (fun v h' => ∃ g : Nat → Int32, (v = some (.int (f 0))) ∧ (Keep h h' [a, ar]) ∧ (Exa Z h' a "com/example/serialis/serialis/graph/IntMinHeap") ∧ (Fld Z h' a "com/example/serialis/serialis/graph/IntMinHeap" "heap" "[I" (.ref ar)) ∧ (Fld Z h' a "com/example/serialis/serialis/graph/IntMinHeap" "size" "I" (.int (1 : Int32))) ∧ (own_AI Z h' ar 5 g) ∧ (own_H 1 g) ∧ (∀ v, own_cnt 2 f v = own_cnt 1 g v + own_one (f 0) v) ∧ (f 0 ≤ g 0)) := by
  refine own_met own_pn0 #[.val (.ref a), .unset, .unset, .unset, .unset] (fun m => by first | (simp [entryFrame, mkF, argsToLocals, Value.category]; done) | rfl) ?_
  intro p_ e_ s_ m_ b_ mt_ c_ C
  replace C : own_Ctx p_ s_ m_ mt_ c_ Z "com/example/serialis/serialis/graph/IntMinHeap" "removeSmallest" prog_36_method_4_code 5 (some .int) := C
  have K0 : Keep h h [a, ar] := Keep.refl _ _
  refine own_aloadN C (pc' := 1) own_d5_0 rfl rfl rfl ?_
  refine own_getF C (pc' := 4) (hw _ (List.mem_of_getElem? (i := 14) rfl)) f4 own_d5_1 rfl ?_
  refine own_iconst C (pc' := 5) (v := (0 : Int32)) own_d5_4 rfl (by decide) ?_
  refine own_ldIV C (pc' := 6) f6 (i := 0) (v := (f 0)) (by decide) (by decide) rfl own_d5_5 rfl ?_
  refine own_istoreN C (pc' := 7) (Ls' := #[.val (.ref a), .val (.int (f 0)), .unset, .unset, .unset]) own_d5_6 rfl rfl ?_
  refine own_aloadN C (pc' := 8) own_d5_7 rfl rfl rfl ?_
  refine own_getF C (pc' := 11) (hw _ (List.mem_of_getElem? (i := 14) rfl)) f4 own_d5_8 rfl ?_
  refine own_aloadN C (pc' := 12) own_d5_11 rfl rfl rfl ?_
  refine own_dup C (pc' := 13) own_d5_12 rfl rfl ?_
  refine own_getF C (pc' := 16) (hw _ (List.mem_of_getElem? (i := 21) rfl)) f5 own_d5_13 rfl ?_
  refine own_iconst C (pc' := 17) (v := (1 : Int32)) own_d5_16 rfl (by decide) ?_
  refine own_isubV C (pc' := 18) (v := (1 : Int32)) own_d5_17 rfl (by decide) ?_
  refine own_dupX1 C (pc' := 19) own_d5_18 rfl rfl rfl ?_
  refine own_putF C (pc' := 22) (hw _ (List.mem_of_getElem? (i := 21) rfl)) f5 f0 (Or.inl (hw _ (List.mem_of_getElem? (i := 22) rfl))) (hw _ (List.mem_of_getElem? (i := 6) rfl)) (ty := .int) (by decide) rfl rfl f1 own_d5_19 rfl (fun h261 W262 => ?_)
  have Z263 : n0 ≤ h261.size := Nat.le_trans Z0 (Nat.le_of_eq (Wr.size W262).symm)
  have K264 := Keep.wr K0 W262 (Or.inl (List.mem_of_getElem? (i := 0) rfl))
  have F265 : Exa Z h261 a "com/example/serialis/serialis/graph/IntMinHeap" := Exa.wr W262 f0
  have F266 : Fld Z h261 a "com/example/serialis/serialis/graph/IntMinHeap" "heap" "[I" (.ref ar) := Fld.other W262 f4 (Or.inr (slot_ne (Or.inr (hw _ (List.mem_of_getElem? (i := 15) rfl))) (Or.inl (hw _ (List.mem_of_getElem? (i := 22) rfl))) (by decide) (t := (.array .int)) (t' := .int) (by decide) (by decide)))
  have F267 : Fld Z h261 a "com/example/serialis/serialis/graph/IntMinHeap" "size" "I" (.int (1 : Int32)) := Fld.same W262 f5
  have F268 : own_AI Z h261 ar 5 f := own_A.other f6 W262 (Ne.symm f3)
  refine own_ldIV C (pc' := 23) F268 (i := 1) (v := (f 1)) (by decide) (by decide) rfl own_d5_22 rfl ?_
  refine own_istoreN C (pc' := 24) (Ls' := #[.val (.ref a), .val (.int (f 0)), .val (.int (f 1)), .unset, .unset]) own_d5_23 rfl rfl ?_
  refine own_iconst C (pc' := 25) (v := (0 : Int32)) own_d5_24 rfl (by decide) ?_
  refine own_istoreN C (pc' := 26) (Ls' := #[.val (.ref a), .val (.int (f 0)), .val (.int (f 1)), .val (.int (0 : Int32)), .unset]) own_d5_25 rfl rfl ?_
  refine own_iconst C (pc' := 27) (v := (2 : Int32)) own_d5_26 rfl (by decide) ?_
  refine own_iloadN C (pc' := 28) own_d5_27 rfl rfl ?_
  refine own_imulV C (pc' := 29) (v := (0 : Int32)) own_d5_28 rfl (by decide) ?_
  refine own_iconst C (pc' := 30) (v := (1 : Int32)) own_d5_29 rfl (by decide) ?_
  refine own_iaddV C (pc' := 31) (v := (1 : Int32)) own_d5_30 rfl (by decide) ?_
  refine own_istore C (pc' := 33) (Ls' := #[.val (.ref a), .val (.int (f 0)), .val (.int (f 1)), .val (.int (0 : Int32)), .val (.int (1 : Int32))]) own_d5_31 rfl rfl ?_
  refine own_iload C (pc' := 35) own_d5_33 rfl rfl ?_
  refine own_aloadN C (pc' := 36) own_d5_35 rfl rfl rfl ?_
  refine own_getF C (pc' := 39) (hw _ (List.mem_of_getElem? (i := 21) rfl)) F267 own_d5_36 rfl ?_
  refine own_ii_lt C (pc1 := 45) (pc2 := 42) own_d5_39 rfl rfl (fun c269 => absurd c269 (by decide)) (fun c269 => ?_)
  refine own_goto C (pc' := 111) own_d5_42 rfl ?_
  refine own_aloadN C (pc' := 112) own_d5_111 rfl rfl rfl ?_
  refine own_getF C (pc' := 115) (hw _ (List.mem_of_getElem? (i := 14) rfl)) F266 own_d5_112 rfl ?_
  refine own_iloadN C (pc' := 116) own_d5_115 rfl rfl ?_
  refine own_iloadN C (pc' := 117) own_d5_116 rfl rfl ?_
  refine own_stI C (pc' := 118) F268 (i := 0) (by decide) (by decide) f2 own_d5_117 rfl (fun h270 W271 V272 => ?_)
  have Z273 : n0 ≤ h270.size := Nat.le_trans Z263 (Nat.le_of_eq (Wr.size W271).symm)
  have K274 := Keep.wr K264 W271 (Or.inl (List.mem_of_getElem? (i := 1) rfl))
  have F275 : Exa Z h270 a "com/example/serialis/serialis/graph/IntMinHeap" := Exa.wr W271 F265
  have F276 : Fld Z h270 a "com/example/serialis/serialis/graph/IntMinHeap" "heap" "[I" (.ref ar) := Fld.other W271 F266 (Or.inl f3)
  have F277 : Fld Z h270 a "com/example/serialis/serialis/graph/IntMinHeap" "size" "I" (.int (1 : Int32)) := Fld.other W271 F267 (Or.inl f3)
  have F278 : own_AI Z h270 ar 5 (own_upd f 0 (f 1)) := V272
  refine own_iloadN C (pc' := 119) own_d5_118 rfl rfl ?_
  have HH279 : own_H 1 (own_upd f 0 (f 1)) := by
    refine fun i hi => ?_
    have H1 : f 0 ≤ f 1 := hH 1 (by decide)
    rw [own_le] at H1
    have t : i = 0 := by omega
    rcases t with rfl
    · show (f 1) ≤ (f 1)
      rw [own_le]; omega
  exact own_ret C (t := .int) rfl rfl (Or.inl ⟨rfl, by simp, _, rfl⟩) own_d5_119 (by decide) (by decide) (⟨(own_upd f 0 (f 1)), rfl, K274, F275, F276, F277, F278, HH279, (fun v => by show ((0 + own_one (f 0) v) + own_one (f 1) v) = (0 + own_one (f 1) v) + own_one (f 0) v; omega), (by have H1 : f 0 ≤ f 1 := hH 1 (by decide); rw [own_le] at H1; show (f 0) ≤ (f 1); rw [own_le]; omega)⟩)
set_option maxRecDepth 65536 in
set_option maxHeartbeats 40000000 in
theorem own_rem3 {l : Launch} {Z : State} {a0 : Array Value} (hw : ∀ d ∈ tables_1, d.before a0 Z = true) {n0 : Nat} {ws : List Jvm.Cond} {h : Heap} (a : Addr) (ar : Addr) (f : Nat → Int32) (Z0 : n0 ≤ h.size) (f0 : Exa Z h a "com/example/serialis/serialis/graph/IntMinHeap") (f1 : n0 ≤ a) (f2 : n0 ≤ ar) (f3 : a ≠ ar) (f4 : Fld Z h a "com/example/serialis/serialis/graph/IntMinHeap" "heap" "[I" (.ref ar)) (f5 : Fld Z h a "com/example/serialis/serialis/graph/IntMinHeap" "size" "I" (.int (3 : Int32))) (f6 : own_AI Z h ar 5 f) (hH : own_H 3 f) :
    own_Met l Z n0 (⟨"com/example/serialis/serialis/graph/IntMinHeap", "removeSmallest", "()I"⟩ : MethodName) prog_36_method_4_code 5 (some .int) ({ frames := 0, cells := 0, slots := 0, locals := 0 } : Room) ws #[(.ref a)] h (fun v h' => ∃ g : Nat → Int32, (v = some (.int (f 0))) ∧ (Keep h h' [a, ar]) ∧ (Exa Z h' a "com/example/serialis/serialis/graph/IntMinHeap") ∧ (Fld Z h' a "com/example/serialis/serialis/graph/IntMinHeap" "heap" "[I" (.ref ar)) ∧ (Fld Z h' a "com/example/serialis/serialis/graph/IntMinHeap" "size" "I" (.int (2 : Int32))) ∧ (own_AI Z h' ar 5 g) ∧ (own_H 2 g) ∧ (∀ v, own_cnt 3 f v = own_cnt 2 g v + own_one (f 0) v) ∧ (f 0 ≤ g 0)) := by
  refine own_met own_pn0 #[.val (.ref a), .unset, .unset, .unset, .unset] (fun m => by first | (simp [entryFrame, mkF, argsToLocals, Value.category]; done) | rfl) ?_
  intro p_ e_ s_ m_ b_ mt_ c_ C
  replace C : own_Ctx p_ s_ m_ mt_ c_ Z "com/example/serialis/serialis/graph/IntMinHeap" "removeSmallest" prog_36_method_4_code 5 (some .int) := C
  have K0 : Keep h h [a, ar] := Keep.refl _ _
  refine own_aloadN C (pc' := 1) own_d5_0 rfl rfl rfl ?_
  refine own_getF C (pc' := 4) (hw _ (List.mem_of_getElem? (i := 14) rfl)) f4 own_d5_1 rfl ?_
  refine own_iconst C (pc' := 5) (v := (0 : Int32)) own_d5_4 rfl (by decide) ?_
  refine own_ldIV C (pc' := 6) f6 (i := 0) (v := (f 0)) (by decide) (by decide) rfl own_d5_5 rfl ?_
  refine own_istoreN C (pc' := 7) (Ls' := #[.val (.ref a), .val (.int (f 0)), .unset, .unset, .unset]) own_d5_6 rfl rfl ?_
  refine own_aloadN C (pc' := 8) own_d5_7 rfl rfl rfl ?_
  refine own_getF C (pc' := 11) (hw _ (List.mem_of_getElem? (i := 14) rfl)) f4 own_d5_8 rfl ?_
  refine own_aloadN C (pc' := 12) own_d5_11 rfl rfl rfl ?_
  refine own_dup C (pc' := 13) own_d5_12 rfl rfl ?_
  refine own_getF C (pc' := 16) (hw _ (List.mem_of_getElem? (i := 21) rfl)) f5 own_d5_13 rfl ?_
  refine own_iconst C (pc' := 17) (v := (1 : Int32)) own_d5_16 rfl (by decide) ?_
  refine own_isubV C (pc' := 18) (v := (2 : Int32)) own_d5_17 rfl (by decide) ?_
  refine own_dupX1 C (pc' := 19) own_d5_18 rfl rfl rfl ?_
  refine own_putF C (pc' := 22) (hw _ (List.mem_of_getElem? (i := 21) rfl)) f5 f0 (Or.inl (hw _ (List.mem_of_getElem? (i := 22) rfl))) (hw _ (List.mem_of_getElem? (i := 6) rfl)) (ty := .int) (by decide) rfl rfl f1 own_d5_19 rfl (fun h280 W281 => ?_)
  have Z282 : n0 ≤ h280.size := Nat.le_trans Z0 (Nat.le_of_eq (Wr.size W281).symm)
  have K283 := Keep.wr K0 W281 (Or.inl (List.mem_of_getElem? (i := 0) rfl))
  have F284 : Exa Z h280 a "com/example/serialis/serialis/graph/IntMinHeap" := Exa.wr W281 f0
  have F285 : Fld Z h280 a "com/example/serialis/serialis/graph/IntMinHeap" "heap" "[I" (.ref ar) := Fld.other W281 f4 (Or.inr (slot_ne (Or.inr (hw _ (List.mem_of_getElem? (i := 15) rfl))) (Or.inl (hw _ (List.mem_of_getElem? (i := 22) rfl))) (by decide) (t := (.array .int)) (t' := .int) (by decide) (by decide)))
  have F286 : Fld Z h280 a "com/example/serialis/serialis/graph/IntMinHeap" "size" "I" (.int (2 : Int32)) := Fld.same W281 f5
  have F287 : own_AI Z h280 ar 5 f := own_A.other f6 W281 (Ne.symm f3)
  refine own_ldIV C (pc' := 23) F287 (i := 2) (v := (f 2)) (by decide) (by decide) rfl own_d5_22 rfl ?_
  refine own_istoreN C (pc' := 24) (Ls' := #[.val (.ref a), .val (.int (f 0)), .val (.int (f 2)), .unset, .unset]) own_d5_23 rfl rfl ?_
  refine own_iconst C (pc' := 25) (v := (0 : Int32)) own_d5_24 rfl (by decide) ?_
  refine own_istoreN C (pc' := 26) (Ls' := #[.val (.ref a), .val (.int (f 0)), .val (.int (f 2)), .val (.int (0 : Int32)), .unset]) own_d5_25 rfl rfl ?_
  refine own_iconst C (pc' := 27) (v := (2 : Int32)) own_d5_26 rfl (by decide) ?_
  refine own_iloadN C (pc' := 28) own_d5_27 rfl rfl ?_
  refine own_imulV C (pc' := 29) (v := (0 : Int32)) own_d5_28 rfl (by decide) ?_
  refine own_iconst C (pc' := 30) (v := (1 : Int32)) own_d5_29 rfl (by decide) ?_
  refine own_iaddV C (pc' := 31) (v := (1 : Int32)) own_d5_30 rfl (by decide) ?_
  refine own_istore C (pc' := 33) (Ls' := #[.val (.ref a), .val (.int (f 0)), .val (.int (f 2)), .val (.int (0 : Int32)), .val (.int (1 : Int32))]) own_d5_31 rfl rfl ?_
  refine own_iload C (pc' := 35) own_d5_33 rfl rfl ?_
  refine own_aloadN C (pc' := 36) own_d5_35 rfl rfl rfl ?_
  refine own_getF C (pc' := 39) (hw _ (List.mem_of_getElem? (i := 21) rfl)) F286 own_d5_36 rfl ?_
  refine own_ii_lt C (pc1 := 45) (pc2 := 42) own_d5_39 rfl rfl (fun c288 => ?_) (fun c288 => absurd c288 (by decide))
  refine own_iload C (pc' := 47) own_d5_45 rfl rfl ?_
  refine own_iconst C (pc' := 48) (v := (1 : Int32)) own_d5_47 rfl (by decide) ?_
  refine own_iaddV C (pc' := 49) (v := (2 : Int32)) own_d5_48 rfl (by decide) ?_
  refine own_aloadN C (pc' := 50) own_d5_49 rfl rfl rfl ?_
  refine own_getF C (pc' := 53) (hw _ (List.mem_of_getElem? (i := 21) rfl)) F286 own_d5_50 rfl ?_
  refine own_ii_ge C (pc1 := 78) (pc2 := 56) own_d5_53 rfl rfl (fun c289 => ?_) (fun c289 => absurd c289 (by decide))
  refine own_iloadN C (pc' := 79) own_d5_78 rfl rfl ?_
  refine own_aloadN C (pc' := 80) own_d5_79 rfl rfl rfl ?_
  refine own_getF C (pc' := 83) (hw _ (List.mem_of_getElem? (i := 14) rfl)) F285 own_d5_80 rfl ?_
  refine own_iload C (pc' := 85) own_d5_83 rfl rfl ?_
  refine own_ldIV C (pc' := 86) F287 (i := 1) (v := (f 1)) (by decide) (by decide) rfl own_d5_85 rfl ?_
  refine own_ii_gt C (pc1 := 92) (pc2 := 89) own_d5_86 rfl rfl (fun c290 => ?_) (fun c290 => ?_)
  · skip
    refine own_aloadN C (pc' := 93) own_d5_92 rfl rfl rfl ?_
    refine own_getF C (pc' := 96) (hw _ (List.mem_of_getElem? (i := 14) rfl)) F285 own_d5_93 rfl ?_
    refine own_iloadN C (pc' := 97) own_d5_96 rfl rfl ?_
    refine own_aloadN C (pc' := 98) own_d5_97 rfl rfl rfl ?_
    refine own_getF C (pc' := 101) (hw _ (List.mem_of_getElem? (i := 14) rfl)) F285 own_d5_98 rfl ?_
    refine own_iload C (pc' := 103) own_d5_101 rfl rfl ?_
    refine own_ldIV C (pc' := 104) F287 (i := 1) (v := (f 1)) (by decide) (by decide) rfl own_d5_103 rfl ?_
    refine own_stI C (pc' := 105) F287 (i := 0) (by decide) (by decide) f2 own_d5_104 rfl (fun h291 W292 V293 => ?_)
    have Z294 : n0 ≤ h291.size := Nat.le_trans Z282 (Nat.le_of_eq (Wr.size W292).symm)
    have K295 := Keep.wr K283 W292 (Or.inl (List.mem_of_getElem? (i := 1) rfl))
    have F296 : Exa Z h291 a "com/example/serialis/serialis/graph/IntMinHeap" := Exa.wr W292 F284
    have F297 : Fld Z h291 a "com/example/serialis/serialis/graph/IntMinHeap" "heap" "[I" (.ref ar) := Fld.other W292 F285 (Or.inl f3)
    have F298 : Fld Z h291 a "com/example/serialis/serialis/graph/IntMinHeap" "size" "I" (.int (2 : Int32)) := Fld.other W292 F286 (Or.inl f3)
    have F299 : own_AI Z h291 ar 5 (own_upd f 0 (f 1)) := V293
    refine own_iload C (pc' := 107) own_d5_105 rfl rfl ?_
    refine own_istoreN C (pc' := 108) (Ls' := #[.val (.ref a), .val (.int (f 0)), .val (.int (f 2)), .val (.int (1 : Int32)), .val (.int (1 : Int32))]) own_d5_107 rfl rfl ?_
    refine own_goto C (pc' := 26) own_d5_108 rfl ?_
    refine own_iconst C (pc' := 27) (v := (2 : Int32)) own_d5_26 rfl (by decide) ?_
    refine own_iloadN C (pc' := 28) own_d5_27 rfl rfl ?_
    refine own_imulV C (pc' := 29) (v := (2 : Int32)) own_d5_28 rfl (by decide) ?_
    refine own_iconst C (pc' := 30) (v := (1 : Int32)) own_d5_29 rfl (by decide) ?_
    refine own_iaddV C (pc' := 31) (v := (3 : Int32)) own_d5_30 rfl (by decide) ?_
    refine own_istore C (pc' := 33) (Ls' := #[.val (.ref a), .val (.int (f 0)), .val (.int (f 2)), .val (.int (1 : Int32)), .val (.int (3 : Int32))]) own_d5_31 rfl rfl ?_
    refine own_iload C (pc' := 35) own_d5_33 rfl rfl ?_
    refine own_aloadN C (pc' := 36) own_d5_35 rfl rfl rfl ?_
    refine own_getF C (pc' := 39) (hw _ (List.mem_of_getElem? (i := 21) rfl)) F298 own_d5_36 rfl ?_
    refine own_ii_lt C (pc1 := 45) (pc2 := 42) own_d5_39 rfl rfl (fun c300 => absurd c300 (by decide)) (fun c300 => ?_)
    refine own_goto C (pc' := 111) own_d5_42 rfl ?_
    refine own_aloadN C (pc' := 112) own_d5_111 rfl rfl rfl ?_
    refine own_getF C (pc' := 115) (hw _ (List.mem_of_getElem? (i := 14) rfl)) F297 own_d5_112 rfl ?_
    refine own_iloadN C (pc' := 116) own_d5_115 rfl rfl ?_
    refine own_iloadN C (pc' := 117) own_d5_116 rfl rfl ?_
    refine own_stI C (pc' := 118) F299 (i := 1) (by decide) (by decide) f2 own_d5_117 rfl (fun h301 W302 V303 => ?_)
    have Z304 : n0 ≤ h301.size := Nat.le_trans Z294 (Nat.le_of_eq (Wr.size W302).symm)
    have K305 := Keep.wr K295 W302 (Or.inl (List.mem_of_getElem? (i := 1) rfl))
    have F306 : Exa Z h301 a "com/example/serialis/serialis/graph/IntMinHeap" := Exa.wr W302 F296
    have F307 : Fld Z h301 a "com/example/serialis/serialis/graph/IntMinHeap" "heap" "[I" (.ref ar) := Fld.other W302 F297 (Or.inl f3)
    have F308 : Fld Z h301 a "com/example/serialis/serialis/graph/IntMinHeap" "size" "I" (.int (2 : Int32)) := Fld.other W302 F298 (Or.inl f3)
    have F309 : own_AI Z h301 ar 5 (own_upd (own_upd f 0 (f 1)) 1 (f 2)) := V303
    refine own_iloadN C (pc' := 119) own_d5_118 rfl rfl ?_
    have HH310 : own_H 2 (own_upd (own_upd f 0 (f 1)) 1 (f 2)) := by
      refine fun i hi => ?_
      have H1 : f 0 ≤ f 1 := hH 1 (by decide)
      have H2 : f 0 ≤ f 2 := hH 2 (by decide)
      rw [own_le] at H1
      rw [own_le] at H2
      rw [own_lt] at c290
      have t : i = 0 ∨ i = 1 := by omega
      rcases t with rfl | rfl
      · show (f 1) ≤ (f 1)
        rw [own_le]; omega
      · show (f 1) ≤ (f 2)
        rw [own_le]; omega
    exact own_ret C (t := .int) rfl rfl (Or.inl ⟨rfl, by simp, _, rfl⟩) own_d5_119 (by decide) (by decide) (⟨(own_upd (own_upd f 0 (f 1)) 1 (f 2)), rfl, K305, F306, F307, F308, F309, HH310, (fun v => by show (((0 + own_one (f 0) v) + own_one (f 1) v) + own_one (f 2) v) = ((0 + own_one (f 1) v) + own_one (f 2) v) + own_one (f 0) v; omega), (by have H1 : f 0 ≤ f 1 := hH 1 (by decide); have H2 : f 0 ≤ f 2 := hH 2 (by decide); rw [own_le] at H1; rw [own_le] at H2; rw [own_lt] at c290; show (f 0) ≤ (f 1); rw [own_le]; omega)⟩)
  · skip
    refine own_goto C (pc' := 111) own_d5_89 rfl ?_
    refine own_aloadN C (pc' := 112) own_d5_111 rfl rfl rfl ?_
    refine own_getF C (pc' := 115) (hw _ (List.mem_of_getElem? (i := 14) rfl)) F285 own_d5_112 rfl ?_
    refine own_iloadN C (pc' := 116) own_d5_115 rfl rfl ?_
    refine own_iloadN C (pc' := 117) own_d5_116 rfl rfl ?_
    refine own_stI C (pc' := 118) F287 (i := 0) (by decide) (by decide) f2 own_d5_117 rfl (fun h311 W312 V313 => ?_)
    have Z314 : n0 ≤ h311.size := Nat.le_trans Z282 (Nat.le_of_eq (Wr.size W312).symm)
    have K315 := Keep.wr K283 W312 (Or.inl (List.mem_of_getElem? (i := 1) rfl))
    have F316 : Exa Z h311 a "com/example/serialis/serialis/graph/IntMinHeap" := Exa.wr W312 F284
    have F317 : Fld Z h311 a "com/example/serialis/serialis/graph/IntMinHeap" "heap" "[I" (.ref ar) := Fld.other W312 F285 (Or.inl f3)
    have F318 : Fld Z h311 a "com/example/serialis/serialis/graph/IntMinHeap" "size" "I" (.int (2 : Int32)) := Fld.other W312 F286 (Or.inl f3)
    have F319 : own_AI Z h311 ar 5 (own_upd f 0 (f 2)) := V313
    refine own_iloadN C (pc' := 119) own_d5_118 rfl rfl ?_
    have HH320 : own_H 2 (own_upd f 0 (f 2)) := by
      refine fun i hi => ?_
      have H1 : f 0 ≤ f 1 := hH 1 (by decide)
      have H2 : f 0 ≤ f 2 := hH 2 (by decide)
      rw [own_le] at H1
      rw [own_le] at H2
      rw [own_lt] at c290
      have t : i = 0 ∨ i = 1 := by omega
      rcases t with rfl | rfl
      · show (f 2) ≤ (f 2)
        rw [own_le]; omega
      · show (f 2) ≤ (f 1)
        rw [own_le]; omega
    exact own_ret C (t := .int) rfl rfl (Or.inl ⟨rfl, by simp, _, rfl⟩) own_d5_119 (by decide) (by decide) (⟨(own_upd f 0 (f 2)), rfl, K315, F316, F317, F318, F319, HH320, (fun v => by show (((0 + own_one (f 0) v) + own_one (f 1) v) + own_one (f 2) v) = ((0 + own_one (f 2) v) + own_one (f 1) v) + own_one (f 0) v; omega), (by have H1 : f 0 ≤ f 1 := hH 1 (by decide); have H2 : f 0 ≤ f 2 := hH 2 (by decide); rw [own_le] at H1; rw [own_le] at H2; rw [own_lt] at c290; show (f 0) ≤ (f 2); rw [own_le]; omega)⟩)
set_option maxRecDepth 65536 in
set_option maxHeartbeats 40000000 in
theorem own_rem4 {l : Launch} {Z : State} {a0 : Array Value} (hw : ∀ d ∈ tables_1, d.before a0 Z = true) {n0 : Nat} {ws : List Jvm.Cond} {h : Heap} (a : Addr) (ar : Addr) (f : Nat → Int32) (Z0 : n0 ≤ h.size) (f0 : Exa Z h a "com/example/serialis/serialis/graph/IntMinHeap") (f1 : n0 ≤ a) (f2 : n0 ≤ ar) (f3 : a ≠ ar) (f4 : Fld Z h a "com/example/serialis/serialis/graph/IntMinHeap" "heap" "[I" (.ref ar)) (f5 : Fld Z h a "com/example/serialis/serialis/graph/IntMinHeap" "size" "I" (.int (4 : Int32))) (f6 : own_AI Z h ar 5 f) (hH : own_H 4 f) :
    own_Met l Z n0 (⟨"com/example/serialis/serialis/graph/IntMinHeap", "removeSmallest", "()I"⟩ : MethodName) prog_36_method_4_code 5 (some .int) ({ frames := 0, cells := 0, slots := 0, locals := 0 } : Room) ws #[(.ref a)] h (fun v h' => ∃ g : Nat → Int32, (v = some (.int (f 0))) ∧ (Keep h h' [a, ar]) ∧ (Exa Z h' a "com/example/serialis/serialis/graph/IntMinHeap") ∧ (Fld Z h' a "com/example/serialis/serialis/graph/IntMinHeap" "heap" "[I" (.ref ar)) ∧ (Fld Z h' a "com/example/serialis/serialis/graph/IntMinHeap" "size" "I" (.int (3 : Int32))) ∧ (own_AI Z h' ar 5 g) ∧ (own_H 3 g) ∧ (∀ v, own_cnt 4 f v = own_cnt 3 g v + own_one (f 0) v) ∧ (f 0 ≤ g 0)) := by
  refine own_met own_pn0 #[.val (.ref a), .unset, .unset, .unset, .unset] (fun m => by first | (simp [entryFrame, mkF, argsToLocals, Value.category]; done) | rfl) ?_
  intro p_ e_ s_ m_ b_ mt_ c_ C
  replace C : own_Ctx p_ s_ m_ mt_ c_ Z "com/example/serialis/serialis/graph/IntMinHeap" "removeSmallest" prog_36_method_4_code 5 (some .int) := C
  have K0 : Keep h h [a, ar] := Keep.refl _ _
  refine own_aloadN C (pc' := 1) own_d5_0 rfl rfl rfl ?_
  refine own_getF C (pc' := 4) (hw _ (List.mem_of_getElem? (i := 14) rfl)) f4 own_d5_1 rfl ?_
  refine own_iconst C (pc' := 5) (v := (0 : Int32)) own_d5_4 rfl (by decide) ?_
  refine own_ldIV C (pc' := 6) f6 (i := 0) (v := (f 0)) (by decide) (by decide) rfl own_d5_5 rfl ?_
  refine own_istoreN C (pc' := 7) (Ls' := #[.val (.ref a), .val (.int (f 0)), .unset, .unset, .unset]) own_d5_6 rfl rfl ?_
  refine own_aloadN C (pc' := 8) own_d5_7 rfl rfl rfl ?_
  refine own_getF C (pc' := 11) (hw _ (List.mem_of_getElem? (i := 14) rfl)) f4 own_d5_8 rfl ?_
  refine own_aloadN C (pc' := 12) own_d5_11 rfl rfl rfl ?_
  refine own_dup C (pc' := 13) own_d5_12 rfl rfl ?_
  refine own_getF C (pc' := 16) (hw _ (List.mem_of_getElem? (i := 21) rfl)) f5 own_d5_13 rfl ?_
  refine own_iconst C (pc' := 17) (v := (1 : Int32)) own_d5_16 rfl (by decide) ?_
  refine own_isubV C (pc' := 18) (v := (3 : Int32)) own_d5_17 rfl (by decide) ?_
  refine own_dupX1 C (pc' := 19) own_d5_18 rfl rfl rfl ?_
  refine own_putF C (pc' := 22) (hw _ (List.mem_of_getElem? (i := 21) rfl)) f5 f0 (Or.inl (hw _ (List.mem_of_getElem? (i := 22) rfl))) (hw _ (List.mem_of_getElem? (i := 6) rfl)) (ty := .int) (by decide) rfl rfl f1 own_d5_19 rfl (fun h321 W322 => ?_)
  have Z323 : n0 ≤ h321.size := Nat.le_trans Z0 (Nat.le_of_eq (Wr.size W322).symm)
  have K324 := Keep.wr K0 W322 (Or.inl (List.mem_of_getElem? (i := 0) rfl))
  have F325 : Exa Z h321 a "com/example/serialis/serialis/graph/IntMinHeap" := Exa.wr W322 f0
  have F326 : Fld Z h321 a "com/example/serialis/serialis/graph/IntMinHeap" "heap" "[I" (.ref ar) := Fld.other W322 f4 (Or.inr (slot_ne (Or.inr (hw _ (List.mem_of_getElem? (i := 15) rfl))) (Or.inl (hw _ (List.mem_of_getElem? (i := 22) rfl))) (by decide) (t := (.array .int)) (t' := .int) (by decide) (by decide)))
  have F327 : Fld Z h321 a "com/example/serialis/serialis/graph/IntMinHeap" "size" "I" (.int (3 : Int32)) := Fld.same W322 f5
  have F328 : own_AI Z h321 ar 5 f := own_A.other f6 W322 (Ne.symm f3)
  refine own_ldIV C (pc' := 23) F328 (i := 3) (v := (f 3)) (by decide) (by decide) rfl own_d5_22 rfl ?_
  refine own_istoreN C (pc' := 24) (Ls' := #[.val (.ref a), .val (.int (f 0)), .val (.int (f 3)), .unset, .unset]) own_d5_23 rfl rfl ?_
  refine own_iconst C (pc' := 25) (v := (0 : Int32)) own_d5_24 rfl (by decide) ?_
  refine own_istoreN C (pc' := 26) (Ls' := #[.val (.ref a), .val (.int (f 0)), .val (.int (f 3)), .val (.int (0 : Int32)), .unset]) own_d5_25 rfl rfl ?_
  refine own_iconst C (pc' := 27) (v := (2 : Int32)) own_d5_26 rfl (by decide) ?_
  refine own_iloadN C (pc' := 28) own_d5_27 rfl rfl ?_
  refine own_imulV C (pc' := 29) (v := (0 : Int32)) own_d5_28 rfl (by decide) ?_
  refine own_iconst C (pc' := 30) (v := (1 : Int32)) own_d5_29 rfl (by decide) ?_
  refine own_iaddV C (pc' := 31) (v := (1 : Int32)) own_d5_30 rfl (by decide) ?_
  refine own_istore C (pc' := 33) (Ls' := #[.val (.ref a), .val (.int (f 0)), .val (.int (f 3)), .val (.int (0 : Int32)), .val (.int (1 : Int32))]) own_d5_31 rfl rfl ?_
  refine own_iload C (pc' := 35) own_d5_33 rfl rfl ?_
  refine own_aloadN C (pc' := 36) own_d5_35 rfl rfl rfl ?_
  refine own_getF C (pc' := 39) (hw _ (List.mem_of_getElem? (i := 21) rfl)) F327 own_d5_36 rfl ?_
  refine own_ii_lt C (pc1 := 45) (pc2 := 42) own_d5_39 rfl rfl (fun c329 => ?_) (fun c329 => absurd c329 (by decide))
  refine own_iload C (pc' := 47) own_d5_45 rfl rfl ?_
  refine own_iconst C (pc' := 48) (v := (1 : Int32)) own_d5_47 rfl (by decide) ?_
  refine own_iaddV C (pc' := 49) (v := (2 : Int32)) own_d5_48 rfl (by decide) ?_
  refine own_aloadN C (pc' := 50) own_d5_49 rfl rfl rfl ?_
  refine own_getF C (pc' := 53) (hw _ (List.mem_of_getElem? (i := 21) rfl)) F327 own_d5_50 rfl ?_
  refine own_ii_ge C (pc1 := 78) (pc2 := 56) own_d5_53 rfl rfl (fun c330 => absurd c330 (by decide)) (fun c330 => ?_)
  refine own_aloadN C (pc' := 57) own_d5_56 rfl rfl rfl ?_
  refine own_getF C (pc' := 60) (hw _ (List.mem_of_getElem? (i := 14) rfl)) F326 own_d5_57 rfl ?_
  refine own_iload C (pc' := 62) own_d5_60 rfl rfl ?_
  refine own_iconst C (pc' := 63) (v := (1 : Int32)) own_d5_62 rfl (by decide) ?_
  refine own_iaddV C (pc' := 64) (v := (2 : Int32)) own_d5_63 rfl (by decide) ?_
  refine own_ldIV C (pc' := 65) F328 (i := 2) (v := (f 2)) (by decide) (by decide) rfl own_d5_64 rfl ?_
  refine own_aloadN C (pc' := 66) own_d5_65 rfl rfl rfl ?_
  refine own_getF C (pc' := 69) (hw _ (List.mem_of_getElem? (i := 14) rfl)) F326 own_d5_66 rfl ?_
  refine own_iload C (pc' := 71) own_d5_69 rfl rfl ?_
  refine own_ldIV C (pc' := 72) F328 (i := 1) (v := (f 1)) (by decide) (by decide) rfl own_d5_71 rfl ?_
  refine own_ii_ge C (pc1 := 78) (pc2 := 75) own_d5_72 rfl rfl (fun c331 => ?_) (fun c331 => ?_)
  · skip
    refine own_iloadN C (pc' := 79) own_d5_78 rfl rfl ?_
    refine own_aloadN C (pc' := 80) own_d5_79 rfl rfl rfl ?_
    refine own_getF C (pc' := 83) (hw _ (List.mem_of_getElem? (i := 14) rfl)) F326 own_d5_80 rfl ?_
    refine own_iload C (pc' := 85) own_d5_83 rfl rfl ?_
    refine own_ldIV C (pc' := 86) F328 (i := 1) (v := (f 1)) (by decide) (by decide) rfl own_d5_85 rfl ?_
    refine own_ii_gt C (pc1 := 92) (pc2 := 89) own_d5_86 rfl rfl (fun c332 => ?_) (fun c332 => ?_)
    · skip
      refine own_aloadN C (pc' := 93) own_d5_92 rfl rfl rfl ?_
      refine own_getF C (pc' := 96) (hw _ (List.mem_of_getElem? (i := 14) rfl)) F326 own_d5_93 rfl ?_
      refine own_iloadN C (pc' := 97) own_d5_96 rfl rfl ?_
      refine own_aloadN C (pc' := 98) own_d5_97 rfl rfl rfl ?_
      refine own_getF C (pc' := 101) (hw _ (List.mem_of_getElem? (i := 14) rfl)) F326 own_d5_98 rfl ?_
      refine own_iload C (pc' := 103) own_d5_101 rfl rfl ?_
      refine own_ldIV C (pc' := 104) F328 (i := 1) (v := (f 1)) (by decide) (by decide) rfl own_d5_103 rfl ?_
      refine own_stI C (pc' := 105) F328 (i := 0) (by decide) (by decide) f2 own_d5_104 rfl (fun h333 W334 V335 => ?_)
      have Z336 : n0 ≤ h333.size := Nat.le_trans Z323 (Nat.le_of_eq (Wr.size W334).symm)
      have K337 := Keep.wr K324 W334 (Or.inl (List.mem_of_getElem? (i := 1) rfl))
      have F338 : Exa Z h333 a "com/example/serialis/serialis/graph/IntMinHeap" := Exa.wr W334 F325
      have F339 : Fld Z h333 a "com/example/serialis/serialis/graph/IntMinHeap" "heap" "[I" (.ref ar) := Fld.other W334 F326 (Or.inl f3)
      have F340 : Fld Z h333 a "com/example/serialis/serialis/graph/IntMinHeap" "size" "I" (.int (3 : Int32)) := Fld.other W334 F327 (Or.inl f3)
      have F341 : own_AI Z h333 ar 5 (own_upd f 0 (f 1)) := V335
      refine own_iload C (pc' := 107) own_d5_105 rfl rfl ?_
      refine own_istoreN C (pc' := 108) (Ls' := #[.val (.ref a), .val (.int (f 0)), .val (.int (f 3)), .val (.int (1 : Int32)), .val (.int (1 : Int32))]) own_d5_107 rfl rfl ?_
      refine own_goto C (pc' := 26) own_d5_108 rfl ?_
      refine own_iconst C (pc' := 27) (v := (2 : Int32)) own_d5_26 rfl (by decide) ?_
      refine own_iloadN C (pc' := 28) own_d5_27 rfl rfl ?_
      refine own_imulV C (pc' := 29) (v := (2 : Int32)) own_d5_28 rfl (by decide) ?_
      refine own_iconst C (pc' := 30) (v := (1 : Int32)) own_d5_29 rfl (by decide) ?_
      refine own_iaddV C (pc' := 31) (v := (3 : Int32)) own_d5_30 rfl (by decide) ?_
      refine own_istore C (pc' := 33) (Ls' := #[.val (.ref a), .val (.int (f 0)), .val (.int (f 3)), .val (.int (1 : Int32)), .val (.int (3 : Int32))]) own_d5_31 rfl rfl ?_
      refine own_iload C (pc' := 35) own_d5_33 rfl rfl ?_
      refine own_aloadN C (pc' := 36) own_d5_35 rfl rfl rfl ?_
      refine own_getF C (pc' := 39) (hw _ (List.mem_of_getElem? (i := 21) rfl)) F340 own_d5_36 rfl ?_
      refine own_ii_lt C (pc1 := 45) (pc2 := 42) own_d5_39 rfl rfl (fun c342 => absurd c342 (by decide)) (fun c342 => ?_)
      refine own_goto C (pc' := 111) own_d5_42 rfl ?_
      refine own_aloadN C (pc' := 112) own_d5_111 rfl rfl rfl ?_
      refine own_getF C (pc' := 115) (hw _ (List.mem_of_getElem? (i := 14) rfl)) F339 own_d5_112 rfl ?_
      refine own_iloadN C (pc' := 116) own_d5_115 rfl rfl ?_
      refine own_iloadN C (pc' := 117) own_d5_116 rfl rfl ?_
      refine own_stI C (pc' := 118) F341 (i := 1) (by decide) (by decide) f2 own_d5_117 rfl (fun h343 W344 V345 => ?_)
      have Z346 : n0 ≤ h343.size := Nat.le_trans Z336 (Nat.le_of_eq (Wr.size W344).symm)
      have K347 := Keep.wr K337 W344 (Or.inl (List.mem_of_getElem? (i := 1) rfl))
      have F348 : Exa Z h343 a "com/example/serialis/serialis/graph/IntMinHeap" := Exa.wr W344 F338
      have F349 : Fld Z h343 a "com/example/serialis/serialis/graph/IntMinHeap" "heap" "[I" (.ref ar) := Fld.other W344 F339 (Or.inl f3)
      have F350 : Fld Z h343 a "com/example/serialis/serialis/graph/IntMinHeap" "size" "I" (.int (3 : Int32)) := Fld.other W344 F340 (Or.inl f3)
      have F351 : own_AI Z h343 ar 5 (own_upd (own_upd f 0 (f 1)) 1 (f 3)) := V345
      refine own_iloadN C (pc' := 119) own_d5_118 rfl rfl ?_
      have HH352 : own_H 3 (own_upd (own_upd f 0 (f 1)) 1 (f 3)) := by
        refine fun i hi => ?_
        have H1 : f 0 ≤ f 1 := hH 1 (by decide)
        have H2 : f 0 ≤ f 2 := hH 2 (by decide)
        have H3 : f 1 ≤ f 3 := hH 3 (by decide)
        rw [own_le] at H1
        rw [own_le] at H2
        rw [own_le] at H3
        rw [own_lt] at c331
        rw [own_lt] at c332
        have t : i = 0 ∨ i = 1 ∨ i = 2 := by omega
        rcases t with rfl | rfl | rfl
        · show (f 1) ≤ (f 1)
          rw [own_le]; omega
        · show (f 1) ≤ (f 3)
          rw [own_le]; omega
        · show (f 1) ≤ (f 2)
          rw [own_le]; omega
      exact own_ret C (t := .int) rfl rfl (Or.inl ⟨rfl, by simp, _, rfl⟩) own_d5_119 (by decide) (by decide) (⟨(own_upd (own_upd f 0 (f 1)) 1 (f 3)), rfl, K347, F348, F349, F350, F351, HH352, (fun v => by show ((((0 + own_one (f 0) v) + own_one (f 1) v) + own_one (f 2) v) + own_one (f 3) v) = (((0 + own_one (f 1) v) + own_one (f 3) v) + own_one (f 2) v) + own_one (f 0) v; omega), (by have H1 : f 0 ≤ f 1 := hH 1 (by decide); have H2 : f 0 ≤ f 2 := hH 2 (by decide); have H3 : f 1 ≤ f 3 := hH 3 (by decide); rw [own_le] at H1; rw [own_le] at H2; rw [own_le] at H3; rw [own_lt] at c331; rw [own_lt] at c332; show (f 0) ≤ (f 1); rw [own_le]; omega)⟩)
    · skip
      refine own_goto C (pc' := 111) own_d5_89 rfl ?_
      refine own_aloadN C (pc' := 112) own_d5_111 rfl rfl rfl ?_
      refine own_getF C (pc' := 115) (hw _ (List.mem_of_getElem? (i := 14) rfl)) F326 own_d5_112 rfl ?_
      refine own_iloadN C (pc' := 116) own_d5_115 rfl rfl ?_
      refine own_iloadN C (pc' := 117) own_d5_116 rfl rfl ?_
      refine own_stI C (pc' := 118) F328 (i := 0) (by decide) (by decide) f2 own_d5_117 rfl (fun h353 W354 V355 => ?_)
      have Z356 : n0 ≤ h353.size := Nat.le_trans Z323 (Nat.le_of_eq (Wr.size W354).symm)
      have K357 := Keep.wr K324 W354 (Or.inl (List.mem_of_getElem? (i := 1) rfl))
      have F358 : Exa Z h353 a "com/example/serialis/serialis/graph/IntMinHeap" := Exa.wr W354 F325
      have F359 : Fld Z h353 a "com/example/serialis/serialis/graph/IntMinHeap" "heap" "[I" (.ref ar) := Fld.other W354 F326 (Or.inl f3)
      have F360 : Fld Z h353 a "com/example/serialis/serialis/graph/IntMinHeap" "size" "I" (.int (3 : Int32)) := Fld.other W354 F327 (Or.inl f3)
      have F361 : own_AI Z h353 ar 5 (own_upd f 0 (f 3)) := V355
      refine own_iloadN C (pc' := 119) own_d5_118 rfl rfl ?_
      have HH362 : own_H 3 (own_upd f 0 (f 3)) := by
        refine fun i hi => ?_
        have H1 : f 0 ≤ f 1 := hH 1 (by decide)
        have H2 : f 0 ≤ f 2 := hH 2 (by decide)
        have H3 : f 1 ≤ f 3 := hH 3 (by decide)
        rw [own_le] at H1
        rw [own_le] at H2
        rw [own_le] at H3
        rw [own_lt] at c331
        rw [own_lt] at c332
        have t : i = 0 ∨ i = 1 ∨ i = 2 := by omega
        rcases t with rfl | rfl | rfl
        · show (f 3) ≤ (f 3)
          rw [own_le]; omega
        · show (f 3) ≤ (f 1)
          rw [own_le]; omega
        · show (f 3) ≤ (f 2)
          rw [own_le]; omega
      exact own_ret C (t := .int) rfl rfl (Or.inl ⟨rfl, by simp, _, rfl⟩) own_d5_119 (by decide) (by decide) (⟨(own_upd f 0 (f 3)), rfl, K357, F358, F359, F360, F361, HH362, (fun v => by show ((((0 + own_one (f 0) v) + own_one (f 1) v) + own_one (f 2) v) + own_one (f 3) v) = (((0 + own_one (f 3) v) + own_one (f 1) v) + own_one (f 2) v) + own_one (f 0) v; omega), (by have H1 : f 0 ≤ f 1 := hH 1 (by decide); have H2 : f 0 ≤ f 2 := hH 2 (by decide); have H3 : f 1 ≤ f 3 := hH 3 (by decide); rw [own_le] at H1; rw [own_le] at H2; rw [own_le] at H3; rw [own_lt] at c331; rw [own_lt] at c332; show (f 0) ≤ (f 3); rw [own_le]; omega)⟩)
  · skip
    refine own_iincV C (pc' := 78) (w := (1 : Int32)) (x := (2 : Int32)) (Ls' := #[.val (.ref a), .val (.int (f 0)), .val (.int (f 3)), .val (.int (0 : Int32)), .val (.int (2 : Int32))]) own_d5_75 rfl (by decide) (by decide) rfl rfl ?_
    refine own_iloadN C (pc' := 79) own_d5_78 rfl rfl ?_
    refine own_aloadN C (pc' := 80) own_d5_79 rfl rfl rfl ?_
    refine own_getF C (pc' := 83) (hw _ (List.mem_of_getElem? (i := 14) rfl)) F326 own_d5_80 rfl ?_
    refine own_iload C (pc' := 85) own_d5_83 rfl rfl ?_
    refine own_ldIV C (pc' := 86) F328 (i := 2) (v := (f 2)) (by decide) (by decide) rfl own_d5_85 rfl ?_
    refine own_ii_gt C (pc1 := 92) (pc2 := 89) own_d5_86 rfl rfl (fun c363 => ?_) (fun c363 => ?_)
    · skip
      refine own_aloadN C (pc' := 93) own_d5_92 rfl rfl rfl ?_
      refine own_getF C (pc' := 96) (hw _ (List.mem_of_getElem? (i := 14) rfl)) F326 own_d5_93 rfl ?_
      refine own_iloadN C (pc' := 97) own_d5_96 rfl rfl ?_
      refine own_aloadN C (pc' := 98) own_d5_97 rfl rfl rfl ?_
      refine own_getF C (pc' := 101) (hw _ (List.mem_of_getElem? (i := 14) rfl)) F326 own_d5_98 rfl ?_
      refine own_iload C (pc' := 103) own_d5_101 rfl rfl ?_
      refine own_ldIV C (pc' := 104) F328 (i := 2) (v := (f 2)) (by decide) (by decide) rfl own_d5_103 rfl ?_
      refine own_stI C (pc' := 105) F328 (i := 0) (by decide) (by decide) f2 own_d5_104 rfl (fun h364 W365 V366 => ?_)
      have Z367 : n0 ≤ h364.size := Nat.le_trans Z323 (Nat.le_of_eq (Wr.size W365).symm)
      have K368 := Keep.wr K324 W365 (Or.inl (List.mem_of_getElem? (i := 1) rfl))
      have F369 : Exa Z h364 a "com/example/serialis/serialis/graph/IntMinHeap" := Exa.wr W365 F325
      have F370 : Fld Z h364 a "com/example/serialis/serialis/graph/IntMinHeap" "heap" "[I" (.ref ar) := Fld.other W365 F326 (Or.inl f3)
      have F371 : Fld Z h364 a "com/example/serialis/serialis/graph/IntMinHeap" "size" "I" (.int (3 : Int32)) := Fld.other W365 F327 (Or.inl f3)
      have F372 : own_AI Z h364 ar 5 (own_upd f 0 (f 2)) := V366
      refine own_iload C (pc' := 107) own_d5_105 rfl rfl ?_
      refine own_istoreN C (pc' := 108) (Ls' := #[.val (.ref a), .val (.int (f 0)), .val (.int (f 3)), .val (.int (2 : Int32)), .val (.int (2 : Int32))]) own_d5_107 rfl rfl ?_
      refine own_goto C (pc' := 26) own_d5_108 rfl ?_
      refine own_iconst C (pc' := 27) (v := (2 : Int32)) own_d5_26 rfl (by decide) ?_
      refine own_iloadN C (pc' := 28) own_d5_27 rfl rfl ?_
      refine own_imulV C (pc' := 29) (v := (4 : Int32)) own_d5_28 rfl (by decide) ?_
      refine own_iconst C (pc' := 30) (v := (1 : Int32)) own_d5_29 rfl (by decide) ?_
      refine own_iaddV C (pc' := 31) (v := (5 : Int32)) own_d5_30 rfl (by decide) ?_
      refine own_istore C (pc' := 33) (Ls' := #[.val (.ref a), .val (.int (f 0)), .val (.int (f 3)), .val (.int (2 : Int32)), .val (.int (5 : Int32))]) own_d5_31 rfl rfl ?_
      refine own_iload C (pc' := 35) own_d5_33 rfl rfl ?_
      refine own_aloadN C (pc' := 36) own_d5_35 rfl rfl rfl ?_
      refine own_getF C (pc' := 39) (hw _ (List.mem_of_getElem? (i := 21) rfl)) F371 own_d5_36 rfl ?_
      refine own_ii_lt C (pc1 := 45) (pc2 := 42) own_d5_39 rfl rfl (fun c373 => absurd c373 (by decide)) (fun c373 => ?_)
      refine own_goto C (pc' := 111) own_d5_42 rfl ?_
      refine own_aloadN C (pc' := 112) own_d5_111 rfl rfl rfl ?_
      refine own_getF C (pc' := 115) (hw _ (List.mem_of_getElem? (i := 14) rfl)) F370 own_d5_112 rfl ?_
      refine own_iloadN C (pc' := 116) own_d5_115 rfl rfl ?_
      refine own_iloadN C (pc' := 117) own_d5_116 rfl rfl ?_
      refine own_stI C (pc' := 118) F372 (i := 2) (by decide) (by decide) f2 own_d5_117 rfl (fun h374 W375 V376 => ?_)
      have Z377 : n0 ≤ h374.size := Nat.le_trans Z367 (Nat.le_of_eq (Wr.size W375).symm)
      have K378 := Keep.wr K368 W375 (Or.inl (List.mem_of_getElem? (i := 1) rfl))
      have F379 : Exa Z h374 a "com/example/serialis/serialis/graph/IntMinHeap" := Exa.wr W375 F369
      have F380 : Fld Z h374 a "com/example/serialis/serialis/graph/IntMinHeap" "heap" "[I" (.ref ar) := Fld.other W375 F370 (Or.inl f3)
      have F381 : Fld Z h374 a "com/example/serialis/serialis/graph/IntMinHeap" "size" "I" (.int (3 : Int32)) := Fld.other W375 F371 (Or.inl f3)
      have F382 : own_AI Z h374 ar 5 (own_upd (own_upd f 0 (f 2)) 2 (f 3)) := V376
      refine own_iloadN C (pc' := 119) own_d5_118 rfl rfl ?_
      have HH383 : own_H 3 (own_upd (own_upd f 0 (f 2)) 2 (f 3)) := by
        refine fun i hi => ?_
        have H1 : f 0 ≤ f 1 := hH 1 (by decide)
        have H2 : f 0 ≤ f 2 := hH 2 (by decide)
        have H3 : f 1 ≤ f 3 := hH 3 (by decide)
        rw [own_le] at H1
        rw [own_le] at H2
        rw [own_le] at H3
        rw [own_lt] at c331
        rw [own_lt] at c363
        have t : i = 0 ∨ i = 1 ∨ i = 2 := by omega
        rcases t with rfl | rfl | rfl
        · show (f 2) ≤ (f 2)
          rw [own_le]; omega
        · show (f 2) ≤ (f 1)
          rw [own_le]; omega
        · show (f 2) ≤ (f 3)
          rw [own_le]; omega
      exact own_ret C (t := .int) rfl rfl (Or.inl ⟨rfl, by simp, _, rfl⟩) own_d5_119 (by decide) (by decide) (⟨(own_upd (own_upd f 0 (f 2)) 2 (f 3)), rfl, K378, F379, F380, F381, F382, HH383, (fun v => by show ((((0 + own_one (f 0) v) + own_one (f 1) v) + own_one (f 2) v) + own_one (f 3) v) = (((0 + own_one (f 2) v) + own_one (f 1) v) + own_one (f 3) v) + own_one (f 0) v; omega), (by have H1 : f 0 ≤ f 1 := hH 1 (by decide); have H2 : f 0 ≤ f 2 := hH 2 (by decide); have H3 : f 1 ≤ f 3 := hH 3 (by decide); rw [own_le] at H1; rw [own_le] at H2; rw [own_le] at H3; rw [own_lt] at c331; rw [own_lt] at c363; show (f 0) ≤ (f 2); rw [own_le]; omega)⟩)
    · skip
      refine own_goto C (pc' := 111) own_d5_89 rfl ?_
      refine own_aloadN C (pc' := 112) own_d5_111 rfl rfl rfl ?_
      refine own_getF C (pc' := 115) (hw _ (List.mem_of_getElem? (i := 14) rfl)) F326 own_d5_112 rfl ?_
      refine own_iloadN C (pc' := 116) own_d5_115 rfl rfl ?_
      refine own_iloadN C (pc' := 117) own_d5_116 rfl rfl ?_
      refine own_stI C (pc' := 118) F328 (i := 0) (by decide) (by decide) f2 own_d5_117 rfl (fun h384 W385 V386 => ?_)
      have Z387 : n0 ≤ h384.size := Nat.le_trans Z323 (Nat.le_of_eq (Wr.size W385).symm)
      have K388 := Keep.wr K324 W385 (Or.inl (List.mem_of_getElem? (i := 1) rfl))
      have F389 : Exa Z h384 a "com/example/serialis/serialis/graph/IntMinHeap" := Exa.wr W385 F325
      have F390 : Fld Z h384 a "com/example/serialis/serialis/graph/IntMinHeap" "heap" "[I" (.ref ar) := Fld.other W385 F326 (Or.inl f3)
      have F391 : Fld Z h384 a "com/example/serialis/serialis/graph/IntMinHeap" "size" "I" (.int (3 : Int32)) := Fld.other W385 F327 (Or.inl f3)
      have F392 : own_AI Z h384 ar 5 (own_upd f 0 (f 3)) := V386
      refine own_iloadN C (pc' := 119) own_d5_118 rfl rfl ?_
      have HH393 : own_H 3 (own_upd f 0 (f 3)) := by
        refine fun i hi => ?_
        have H1 : f 0 ≤ f 1 := hH 1 (by decide)
        have H2 : f 0 ≤ f 2 := hH 2 (by decide)
        have H3 : f 1 ≤ f 3 := hH 3 (by decide)
        rw [own_le] at H1
        rw [own_le] at H2
        rw [own_le] at H3
        rw [own_lt] at c331
        rw [own_lt] at c363
        have t : i = 0 ∨ i = 1 ∨ i = 2 := by omega
        rcases t with rfl | rfl | rfl
        · show (f 3) ≤ (f 3)
          rw [own_le]; omega
        · show (f 3) ≤ (f 1)
          rw [own_le]; omega
        · show (f 3) ≤ (f 2)
          rw [own_le]; omega
      exact own_ret C (t := .int) rfl rfl (Or.inl ⟨rfl, by simp, _, rfl⟩) own_d5_119 (by decide) (by decide) (⟨(own_upd f 0 (f 3)), rfl, K388, F389, F390, F391, F392, HH393, (fun v => by show ((((0 + own_one (f 0) v) + own_one (f 1) v) + own_one (f 2) v) + own_one (f 3) v) = (((0 + own_one (f 3) v) + own_one (f 1) v) + own_one (f 2) v) + own_one (f 0) v; omega), (by have H1 : f 0 ≤ f 1 := hH 1 (by decide); have H2 : f 0 ≤ f 2 := hH 2 (by decide); have H3 : f 1 ≤ f 3 := hH 3 (by decide); rw [own_le] at H1; rw [own_le] at H2; rw [own_le] at H3; rw [own_lt] at c331; rw [own_lt] at c363; show (f 0) ≤ (f 3); rw [own_le]; omega)⟩)
set_option maxRecDepth 65536 in
set_option maxHeartbeats 40000000 in
theorem own_rem5 {l : Launch} {Z : State} {a0 : Array Value} (hw : ∀ d ∈ tables_1, d.before a0 Z = true) {n0 : Nat} {ws : List Jvm.Cond} {h : Heap} (a : Addr) (ar : Addr) (f : Nat → Int32) (Z0 : n0 ≤ h.size) (f0 : Exa Z h a "com/example/serialis/serialis/graph/IntMinHeap") (f1 : n0 ≤ a) (f2 : n0 ≤ ar) (f3 : a ≠ ar) (f4 : Fld Z h a "com/example/serialis/serialis/graph/IntMinHeap" "heap" "[I" (.ref ar)) (f5 : Fld Z h a "com/example/serialis/serialis/graph/IntMinHeap" "size" "I" (.int (5 : Int32))) (f6 : own_AI Z h ar 5 f) (hH : own_H 5 f) :
    own_Met l Z n0 (⟨"com/example/serialis/serialis/graph/IntMinHeap", "removeSmallest", "()I"⟩ : MethodName) prog_36_method_4_code 5 (some .int) ({ frames := 0, cells := 0, slots := 0, locals := 0 } : Room) ws #[(.ref a)] h (fun v h' => ∃ g : Nat → Int32, (v = some (.int (f 0))) ∧ (Keep h h' [a, ar]) ∧ (Exa Z h' a "com/example/serialis/serialis/graph/IntMinHeap") ∧ (Fld Z h' a "com/example/serialis/serialis/graph/IntMinHeap" "heap" "[I" (.ref ar)) ∧ (Fld Z h' a "com/example/serialis/serialis/graph/IntMinHeap" "size" "I" (.int (4 : Int32))) ∧ (own_AI Z h' ar 5 g) ∧ (own_H 4 g) ∧ (∀ v, own_cnt 5 f v = own_cnt 4 g v + own_one (f 0) v) ∧ (f 0 ≤ g 0)) := by
  refine own_met own_pn0 #[.val (.ref a), .unset, .unset, .unset, .unset] (fun m => by first | (simp [entryFrame, mkF, argsToLocals, Value.category]; done) | rfl) ?_
  intro p_ e_ s_ m_ b_ mt_ c_ C
  replace C : own_Ctx p_ s_ m_ mt_ c_ Z "com/example/serialis/serialis/graph/IntMinHeap" "removeSmallest" prog_36_method_4_code 5 (some .int) := C
  have K0 : Keep h h [a, ar] := Keep.refl _ _
  refine own_aloadN C (pc' := 1) own_d5_0 rfl rfl rfl ?_
  refine own_getF C (pc' := 4) (hw _ (List.mem_of_getElem? (i := 14) rfl)) f4 own_d5_1 rfl ?_
  refine own_iconst C (pc' := 5) (v := (0 : Int32)) own_d5_4 rfl (by decide) ?_
  refine own_ldIV C (pc' := 6) f6 (i := 0) (v := (f 0)) (by decide) (by decide) rfl own_d5_5 rfl ?_
  refine own_istoreN C (pc' := 7) (Ls' := #[.val (.ref a), .val (.int (f 0)), .unset, .unset, .unset]) own_d5_6 rfl rfl ?_
  refine own_aloadN C (pc' := 8) own_d5_7 rfl rfl rfl ?_
  refine own_getF C (pc' := 11) (hw _ (List.mem_of_getElem? (i := 14) rfl)) f4 own_d5_8 rfl ?_
  refine own_aloadN C (pc' := 12) own_d5_11 rfl rfl rfl ?_
  refine own_dup C (pc' := 13) own_d5_12 rfl rfl ?_
  refine own_getF C (pc' := 16) (hw _ (List.mem_of_getElem? (i := 21) rfl)) f5 own_d5_13 rfl ?_
  refine own_iconst C (pc' := 17) (v := (1 : Int32)) own_d5_16 rfl (by decide) ?_
  refine own_isubV C (pc' := 18) (v := (4 : Int32)) own_d5_17 rfl (by decide) ?_
  refine own_dupX1 C (pc' := 19) own_d5_18 rfl rfl rfl ?_
  refine own_putF C (pc' := 22) (hw _ (List.mem_of_getElem? (i := 21) rfl)) f5 f0 (Or.inl (hw _ (List.mem_of_getElem? (i := 22) rfl))) (hw _ (List.mem_of_getElem? (i := 6) rfl)) (ty := .int) (by decide) rfl rfl f1 own_d5_19 rfl (fun h394 W395 => ?_)
  have Z396 : n0 ≤ h394.size := Nat.le_trans Z0 (Nat.le_of_eq (Wr.size W395).symm)
  have K397 := Keep.wr K0 W395 (Or.inl (List.mem_of_getElem? (i := 0) rfl))
  have F398 : Exa Z h394 a "com/example/serialis/serialis/graph/IntMinHeap" := Exa.wr W395 f0
  have F399 : Fld Z h394 a "com/example/serialis/serialis/graph/IntMinHeap" "heap" "[I" (.ref ar) := Fld.other W395 f4 (Or.inr (slot_ne (Or.inr (hw _ (List.mem_of_getElem? (i := 15) rfl))) (Or.inl (hw _ (List.mem_of_getElem? (i := 22) rfl))) (by decide) (t := (.array .int)) (t' := .int) (by decide) (by decide)))
  have F400 : Fld Z h394 a "com/example/serialis/serialis/graph/IntMinHeap" "size" "I" (.int (4 : Int32)) := Fld.same W395 f5
  have F401 : own_AI Z h394 ar 5 f := own_A.other f6 W395 (Ne.symm f3)
  refine own_ldIV C (pc' := 23) F401 (i := 4) (v := (f 4)) (by decide) (by decide) rfl own_d5_22 rfl ?_
  refine own_istoreN C (pc' := 24) (Ls' := #[.val (.ref a), .val (.int (f 0)), .val (.int (f 4)), .unset, .unset]) own_d5_23 rfl rfl ?_
  refine own_iconst C (pc' := 25) (v := (0 : Int32)) own_d5_24 rfl (by decide) ?_
  refine own_istoreN C (pc' := 26) (Ls' := #[.val (.ref a), .val (.int (f 0)), .val (.int (f 4)), .val (.int (0 : Int32)), .unset]) own_d5_25 rfl rfl ?_
  refine own_iconst C (pc' := 27) (v := (2 : Int32)) own_d5_26 rfl (by decide) ?_
  refine own_iloadN C (pc' := 28) own_d5_27 rfl rfl ?_
  refine own_imulV C (pc' := 29) (v := (0 : Int32)) own_d5_28 rfl (by decide) ?_
  refine own_iconst C (pc' := 30) (v := (1 : Int32)) own_d5_29 rfl (by decide) ?_
  refine own_iaddV C (pc' := 31) (v := (1 : Int32)) own_d5_30 rfl (by decide) ?_
  refine own_istore C (pc' := 33) (Ls' := #[.val (.ref a), .val (.int (f 0)), .val (.int (f 4)), .val (.int (0 : Int32)), .val (.int (1 : Int32))]) own_d5_31 rfl rfl ?_
  refine own_iload C (pc' := 35) own_d5_33 rfl rfl ?_
  refine own_aloadN C (pc' := 36) own_d5_35 rfl rfl rfl ?_
  refine own_getF C (pc' := 39) (hw _ (List.mem_of_getElem? (i := 21) rfl)) F400 own_d5_36 rfl ?_
  refine own_ii_lt C (pc1 := 45) (pc2 := 42) own_d5_39 rfl rfl (fun c402 => ?_) (fun c402 => absurd c402 (by decide))
  refine own_iload C (pc' := 47) own_d5_45 rfl rfl ?_
  refine own_iconst C (pc' := 48) (v := (1 : Int32)) own_d5_47 rfl (by decide) ?_
  refine own_iaddV C (pc' := 49) (v := (2 : Int32)) own_d5_48 rfl (by decide) ?_
  refine own_aloadN C (pc' := 50) own_d5_49 rfl rfl rfl ?_
  refine own_getF C (pc' := 53) (hw _ (List.mem_of_getElem? (i := 21) rfl)) F400 own_d5_50 rfl ?_
  refine own_ii_ge C (pc1 := 78) (pc2 := 56) own_d5_53 rfl rfl (fun c403 => absurd c403 (by decide)) (fun c403 => ?_)
  refine own_aloadN C (pc' := 57) own_d5_56 rfl rfl rfl ?_
  refine own_getF C (pc' := 60) (hw _ (List.mem_of_getElem? (i := 14) rfl)) F399 own_d5_57 rfl ?_
  refine own_iload C (pc' := 62) own_d5_60 rfl rfl ?_
  refine own_iconst C (pc' := 63) (v := (1 : Int32)) own_d5_62 rfl (by decide) ?_
  refine own_iaddV C (pc' := 64) (v := (2 : Int32)) own_d5_63 rfl (by decide) ?_
  refine own_ldIV C (pc' := 65) F401 (i := 2) (v := (f 2)) (by decide) (by decide) rfl own_d5_64 rfl ?_
  refine own_aloadN C (pc' := 66) own_d5_65 rfl rfl rfl ?_
  refine own_getF C (pc' := 69) (hw _ (List.mem_of_getElem? (i := 14) rfl)) F399 own_d5_66 rfl ?_
  refine own_iload C (pc' := 71) own_d5_69 rfl rfl ?_
  refine own_ldIV C (pc' := 72) F401 (i := 1) (v := (f 1)) (by decide) (by decide) rfl own_d5_71 rfl ?_
  refine own_ii_ge C (pc1 := 78) (pc2 := 75) own_d5_72 rfl rfl (fun c404 => ?_) (fun c404 => ?_)
  · skip
    refine own_iloadN C (pc' := 79) own_d5_78 rfl rfl ?_
    refine own_aloadN C (pc' := 80) own_d5_79 rfl rfl rfl ?_
    refine own_getF C (pc' := 83) (hw _ (List.mem_of_getElem? (i := 14) rfl)) F399 own_d5_80 rfl ?_
    refine own_iload C (pc' := 85) own_d5_83 rfl rfl ?_
    refine own_ldIV C (pc' := 86) F401 (i := 1) (v := (f 1)) (by decide) (by decide) rfl own_d5_85 rfl ?_
    refine own_ii_gt C (pc1 := 92) (pc2 := 89) own_d5_86 rfl rfl (fun c405 => ?_) (fun c405 => ?_)
    · skip
      refine own_aloadN C (pc' := 93) own_d5_92 rfl rfl rfl ?_
      refine own_getF C (pc' := 96) (hw _ (List.mem_of_getElem? (i := 14) rfl)) F399 own_d5_93 rfl ?_
      refine own_iloadN C (pc' := 97) own_d5_96 rfl rfl ?_
      refine own_aloadN C (pc' := 98) own_d5_97 rfl rfl rfl ?_
      refine own_getF C (pc' := 101) (hw _ (List.mem_of_getElem? (i := 14) rfl)) F399 own_d5_98 rfl ?_
      refine own_iload C (pc' := 103) own_d5_101 rfl rfl ?_
      refine own_ldIV C (pc' := 104) F401 (i := 1) (v := (f 1)) (by decide) (by decide) rfl own_d5_103 rfl ?_
      refine own_stI C (pc' := 105) F401 (i := 0) (by decide) (by decide) f2 own_d5_104 rfl (fun h406 W407 V408 => ?_)
      have Z409 : n0 ≤ h406.size := Nat.le_trans Z396 (Nat.le_of_eq (Wr.size W407).symm)
      have K410 := Keep.wr K397 W407 (Or.inl (List.mem_of_getElem? (i := 1) rfl))
      have F411 : Exa Z h406 a "com/example/serialis/serialis/graph/IntMinHeap" := Exa.wr W407 F398
      have F412 : Fld Z h406 a "com/example/serialis/serialis/graph/IntMinHeap" "heap" "[I" (.ref ar) := Fld.other W407 F399 (Or.inl f3)
      have F413 : Fld Z h406 a "com/example/serialis/serialis/graph/IntMinHeap" "size" "I" (.int (4 : Int32)) := Fld.other W407 F400 (Or.inl f3)
      have F414 : own_AI Z h406 ar 5 (own_upd f 0 (f 1)) := V408
      refine own_iload C (pc' := 107) own_d5_105 rfl rfl ?_
      refine own_istoreN C (pc' := 108) (Ls' := #[.val (.ref a), .val (.int (f 0)), .val (.int (f 4)), .val (.int (1 : Int32)), .val (.int (1 : Int32))]) own_d5_107 rfl rfl ?_
      refine own_goto C (pc' := 26) own_d5_108 rfl ?_
      refine own_iconst C (pc' := 27) (v := (2 : Int32)) own_d5_26 rfl (by decide) ?_
      refine own_iloadN C (pc' := 28) own_d5_27 rfl rfl ?_
      refine own_imulV C (pc' := 29) (v := (2 : Int32)) own_d5_28 rfl (by decide) ?_
      refine own_iconst C (pc' := 30) (v := (1 : Int32)) own_d5_29 rfl (by decide) ?_
      refine own_iaddV C (pc' := 31) (v := (3 : Int32)) own_d5_30 rfl (by decide) ?_
      refine own_istore C (pc' := 33) (Ls' := #[.val (.ref a), .val (.int (f 0)), .val (.int (f 4)), .val (.int (1 : Int32)), .val (.int (3 : Int32))]) own_d5_31 rfl rfl ?_
      refine own_iload C (pc' := 35) own_d5_33 rfl rfl ?_
      refine own_aloadN C (pc' := 36) own_d5_35 rfl rfl rfl ?_
      refine own_getF C (pc' := 39) (hw _ (List.mem_of_getElem? (i := 21) rfl)) F413 own_d5_36 rfl ?_
      refine own_ii_lt C (pc1 := 45) (pc2 := 42) own_d5_39 rfl rfl (fun c415 => ?_) (fun c415 => absurd c415 (by decide))
      refine own_iload C (pc' := 47) own_d5_45 rfl rfl ?_
      refine own_iconst C (pc' := 48) (v := (1 : Int32)) own_d5_47 rfl (by decide) ?_
      refine own_iaddV C (pc' := 49) (v := (4 : Int32)) own_d5_48 rfl (by decide) ?_
      refine own_aloadN C (pc' := 50) own_d5_49 rfl rfl rfl ?_
      refine own_getF C (pc' := 53) (hw _ (List.mem_of_getElem? (i := 21) rfl)) F413 own_d5_50 rfl ?_
      refine own_ii_ge C (pc1 := 78) (pc2 := 56) own_d5_53 rfl rfl (fun c416 => ?_) (fun c416 => absurd c416 (by decide))
      refine own_iloadN C (pc' := 79) own_d5_78 rfl rfl ?_
      refine own_aloadN C (pc' := 80) own_d5_79 rfl rfl rfl ?_
      refine own_getF C (pc' := 83) (hw _ (List.mem_of_getElem? (i := 14) rfl)) F412 own_d5_80 rfl ?_
      refine own_iload C (pc' := 85) own_d5_83 rfl rfl ?_
      refine own_ldIV C (pc' := 86) F414 (i := 3) (v := (f 3)) (by decide) (by decide) rfl own_d5_85 rfl ?_
      refine own_ii_gt C (pc1 := 92) (pc2 := 89) own_d5_86 rfl rfl (fun c417 => ?_) (fun c417 => ?_)
      · skip
        refine own_aloadN C (pc' := 93) own_d5_92 rfl rfl rfl ?_
        refine own_getF C (pc' := 96) (hw _ (List.mem_of_getElem? (i := 14) rfl)) F412 own_d5_93 rfl ?_
        refine own_iloadN C (pc' := 97) own_d5_96 rfl rfl ?_
        refine own_aloadN C (pc' := 98) own_d5_97 rfl rfl rfl ?_
        refine own_getF C (pc' := 101) (hw _ (List.mem_of_getElem? (i := 14) rfl)) F412 own_d5_98 rfl ?_
        refine own_iload C (pc' := 103) own_d5_101 rfl rfl ?_
        refine own_ldIV C (pc' := 104) F414 (i := 3) (v := (f 3)) (by decide) (by decide) rfl own_d5_103 rfl ?_
        refine own_stI C (pc' := 105) F414 (i := 1) (by decide) (by decide) f2 own_d5_104 rfl (fun h418 W419 V420 => ?_)
        have Z421 : n0 ≤ h418.size := Nat.le_trans Z409 (Nat.le_of_eq (Wr.size W419).symm)
        have K422 := Keep.wr K410 W419 (Or.inl (List.mem_of_getElem? (i := 1) rfl))
        have F423 : Exa Z h418 a "com/example/serialis/serialis/graph/IntMinHeap" := Exa.wr W419 F411
        have F424 : Fld Z h418 a "com/example/serialis/serialis/graph/IntMinHeap" "heap" "[I" (.ref ar) := Fld.other W419 F412 (Or.inl f3)
        have F425 : Fld Z h418 a "com/example/serialis/serialis/graph/IntMinHeap" "size" "I" (.int (4 : Int32)) := Fld.other W419 F413 (Or.inl f3)
        have F426 : own_AI Z h418 ar 5 (own_upd (own_upd f 0 (f 1)) 1 (f 3)) := V420
        refine own_iload C (pc' := 107) own_d5_105 rfl rfl ?_
        refine own_istoreN C (pc' := 108) (Ls' := #[.val (.ref a), .val (.int (f 0)), .val (.int (f 4)), .val (.int (3 : Int32)), .val (.int (3 : Int32))]) own_d5_107 rfl rfl ?_
        refine own_goto C (pc' := 26) own_d5_108 rfl ?_
        refine own_iconst C (pc' := 27) (v := (2 : Int32)) own_d5_26 rfl (by decide) ?_
        refine own_iloadN C (pc' := 28) own_d5_27 rfl rfl ?_
        refine own_imulV C (pc' := 29) (v := (6 : Int32)) own_d5_28 rfl (by decide) ?_
        refine own_iconst C (pc' := 30) (v := (1 : Int32)) own_d5_29 rfl (by decide) ?_
        refine own_iaddV C (pc' := 31) (v := (7 : Int32)) own_d5_30 rfl (by decide) ?_
        refine own_istore C (pc' := 33) (Ls' := #[.val (.ref a), .val (.int (f 0)), .val (.int (f 4)), .val (.int (3 : Int32)), .val (.int (7 : Int32))]) own_d5_31 rfl rfl ?_
        refine own_iload C (pc' := 35) own_d5_33 rfl rfl ?_
        refine own_aloadN C (pc' := 36) own_d5_35 rfl rfl rfl ?_
        refine own_getF C (pc' := 39) (hw _ (List.mem_of_getElem? (i := 21) rfl)) F425 own_d5_36 rfl ?_
        refine own_ii_lt C (pc1 := 45) (pc2 := 42) own_d5_39 rfl rfl (fun c427 => absurd c427 (by decide)) (fun c427 => ?_)
        refine own_goto C (pc' := 111) own_d5_42 rfl ?_
        refine own_aloadN C (pc' := 112) own_d5_111 rfl rfl rfl ?_
        refine own_getF C (pc' := 115) (hw _ (List.mem_of_getElem? (i := 14) rfl)) F424 own_d5_112 rfl ?_
        refine own_iloadN C (pc' := 116) own_d5_115 rfl rfl ?_
        refine own_iloadN C (pc' := 117) own_d5_116 rfl rfl ?_
        refine own_stI C (pc' := 118) F426 (i := 3) (by decide) (by decide) f2 own_d5_117 rfl (fun h428 W429 V430 => ?_)
        have Z431 : n0 ≤ h428.size := Nat.le_trans Z421 (Nat.le_of_eq (Wr.size W429).symm)
        have K432 := Keep.wr K422 W429 (Or.inl (List.mem_of_getElem? (i := 1) rfl))
        have F433 : Exa Z h428 a "com/example/serialis/serialis/graph/IntMinHeap" := Exa.wr W429 F423
        have F434 : Fld Z h428 a "com/example/serialis/serialis/graph/IntMinHeap" "heap" "[I" (.ref ar) := Fld.other W429 F424 (Or.inl f3)
        have F435 : Fld Z h428 a "com/example/serialis/serialis/graph/IntMinHeap" "size" "I" (.int (4 : Int32)) := Fld.other W429 F425 (Or.inl f3)
        have F436 : own_AI Z h428 ar 5 (own_upd (own_upd (own_upd f 0 (f 1)) 1 (f 3)) 3 (f 4)) := V430
        refine own_iloadN C (pc' := 119) own_d5_118 rfl rfl ?_
        have HH437 : own_H 4 (own_upd (own_upd (own_upd f 0 (f 1)) 1 (f 3)) 3 (f 4)) := by
          refine fun i hi => ?_
          have H1 : f 0 ≤ f 1 := hH 1 (by decide)
          have H2 : f 0 ≤ f 2 := hH 2 (by decide)
          have H3 : f 1 ≤ f 3 := hH 3 (by decide)
          have H4 : f 1 ≤ f 4 := hH 4 (by decide)
          rw [own_le] at H1
          rw [own_le] at H2
          rw [own_le] at H3
          rw [own_le] at H4
          rw [own_lt] at c404
          rw [own_lt] at c405
          rw [own_lt] at c417
          have t : i = 0 ∨ i = 1 ∨ i = 2 ∨ i = 3 := by omega
          rcases t with rfl | rfl | rfl | rfl
          · show (f 1) ≤ (f 1)
            rw [own_le]; omega
          · show (f 1) ≤ (f 3)
            rw [own_le]; omega
          · show (f 1) ≤ (f 2)
            rw [own_le]; omega
          · show (f 3) ≤ (f 4)
            rw [own_le]; omega
        exact own_ret C (t := .int) rfl rfl (Or.inl ⟨rfl, by simp, _, rfl⟩) own_d5_119 (by decide) (by decide) (⟨(own_upd (own_upd (own_upd f 0 (f 1)) 1 (f 3)) 3 (f 4)), rfl, K432, F433, F434, F435, F436, HH437, (fun v => by show (((((0 + own_one (f 0) v) + own_one (f 1) v) + own_one (f 2) v) + own_one (f 3) v) + own_one (f 4) v) = ((((0 + own_one (f 1) v) + own_one (f 3) v) + own_one (f 2) v) + own_one (f 4) v) + own_one (f 0) v; omega), (by have H1 : f 0 ≤ f 1 := hH 1 (by decide); have H2 : f 0 ≤ f 2 := hH 2 (by decide); have H3 : f 1 ≤ f 3 := hH 3 (by decide); have H4 : f 1 ≤ f 4 := hH 4 (by decide); rw [own_le] at H1; rw [own_le] at H2; rw [own_le] at H3; rw [own_le] at H4; rw [own_lt] at c404; rw [own_lt] at c405; rw [own_lt] at c417; show (f 0) ≤ (f 1); rw [own_le]; omega)⟩)
      · skip
        refine own_goto C (pc' := 111) own_d5_89 rfl ?_
        refine own_aloadN C (pc' := 112) own_d5_111 rfl rfl rfl ?_
        refine own_getF C (pc' := 115) (hw _ (List.mem_of_getElem? (i := 14) rfl)) F412 own_d5_112 rfl ?_
        refine own_iloadN C (pc' := 116) own_d5_115 rfl rfl ?_
        refine own_iloadN C (pc' := 117) own_d5_116 rfl rfl ?_
        refine own_stI C (pc' := 118) F414 (i := 1) (by decide) (by decide) f2 own_d5_117 rfl (fun h438 W439 V440 => ?_)
        have Z441 : n0 ≤ h438.size := Nat.le_trans Z409 (Nat.le_of_eq (Wr.size W439).symm)
        have K442 := Keep.wr K410 W439 (Or.inl (List.mem_of_getElem? (i := 1) rfl))
        have F443 : Exa Z h438 a "com/example/serialis/serialis/graph/IntMinHeap" := Exa.wr W439 F411
        have F444 : Fld Z h438 a "com/example/serialis/serialis/graph/IntMinHeap" "heap" "[I" (.ref ar) := Fld.other W439 F412 (Or.inl f3)
        have F445 : Fld Z h438 a "com/example/serialis/serialis/graph/IntMinHeap" "size" "I" (.int (4 : Int32)) := Fld.other W439 F413 (Or.inl f3)
        have F446 : own_AI Z h438 ar 5 (own_upd (own_upd f 0 (f 1)) 1 (f 4)) := V440
        refine own_iloadN C (pc' := 119) own_d5_118 rfl rfl ?_
        have HH447 : own_H 4 (own_upd (own_upd f 0 (f 1)) 1 (f 4)) := by
          refine fun i hi => ?_
          have H1 : f 0 ≤ f 1 := hH 1 (by decide)
          have H2 : f 0 ≤ f 2 := hH 2 (by decide)
          have H3 : f 1 ≤ f 3 := hH 3 (by decide)
          have H4 : f 1 ≤ f 4 := hH 4 (by decide)
          rw [own_le] at H1
          rw [own_le] at H2
          rw [own_le] at H3
          rw [own_le] at H4
          rw [own_lt] at c404
          rw [own_lt] at c405
          rw [own_lt] at c417
          have t : i = 0 ∨ i = 1 ∨ i = 2 ∨ i = 3 := by omega
          rcases t with rfl | rfl | rfl | rfl
          · show (f 1) ≤ (f 1)
            rw [own_le]; omega
          · show (f 1) ≤ (f 4)
            rw [own_le]; omega
          · show (f 1) ≤ (f 2)
            rw [own_le]; omega
          · show (f 4) ≤ (f 3)
            rw [own_le]; omega
        exact own_ret C (t := .int) rfl rfl (Or.inl ⟨rfl, by simp, _, rfl⟩) own_d5_119 (by decide) (by decide) (⟨(own_upd (own_upd f 0 (f 1)) 1 (f 4)), rfl, K442, F443, F444, F445, F446, HH447, (fun v => by show (((((0 + own_one (f 0) v) + own_one (f 1) v) + own_one (f 2) v) + own_one (f 3) v) + own_one (f 4) v) = ((((0 + own_one (f 1) v) + own_one (f 4) v) + own_one (f 2) v) + own_one (f 3) v) + own_one (f 0) v; omega), (by have H1 : f 0 ≤ f 1 := hH 1 (by decide); have H2 : f 0 ≤ f 2 := hH 2 (by decide); have H3 : f 1 ≤ f 3 := hH 3 (by decide); have H4 : f 1 ≤ f 4 := hH 4 (by decide); rw [own_le] at H1; rw [own_le] at H2; rw [own_le] at H3; rw [own_le] at H4; rw [own_lt] at c404; rw [own_lt] at c405; rw [own_lt] at c417; show (f 0) ≤ (f 1); rw [own_le]; omega)⟩)
    · skip
      refine own_goto C (pc' := 111) own_d5_89 rfl ?_
      refine own_aloadN C (pc' := 112) own_d5_111 rfl rfl rfl ?_
      refine own_getF C (pc' := 115) (hw _ (List.mem_of_getElem? (i := 14) rfl)) F399 own_d5_112 rfl ?_
      refine own_iloadN C (pc' := 116) own_d5_115 rfl rfl ?_
      refine own_iloadN C (pc' := 117) own_d5_116 rfl rfl ?_
      refine own_stI C (pc' := 118) F401 (i := 0) (by decide) (by decide) f2 own_d5_117 rfl (fun h448 W449 V450 => ?_)
      have Z451 : n0 ≤ h448.size := Nat.le_trans Z396 (Nat.le_of_eq (Wr.size W449).symm)
      have K452 := Keep.wr K397 W449 (Or.inl (List.mem_of_getElem? (i := 1) rfl))
      have F453 : Exa Z h448 a "com/example/serialis/serialis/graph/IntMinHeap" := Exa.wr W449 F398
      have F454 : Fld Z h448 a "com/example/serialis/serialis/graph/IntMinHeap" "heap" "[I" (.ref ar) := Fld.other W449 F399 (Or.inl f3)
      have F455 : Fld Z h448 a "com/example/serialis/serialis/graph/IntMinHeap" "size" "I" (.int (4 : Int32)) := Fld.other W449 F400 (Or.inl f3)
      have F456 : own_AI Z h448 ar 5 (own_upd f 0 (f 4)) := V450
      refine own_iloadN C (pc' := 119) own_d5_118 rfl rfl ?_
      have HH457 : own_H 4 (own_upd f 0 (f 4)) := by
        refine fun i hi => ?_
        have H1 : f 0 ≤ f 1 := hH 1 (by decide)
        have H2 : f 0 ≤ f 2 := hH 2 (by decide)
        have H3 : f 1 ≤ f 3 := hH 3 (by decide)
        have H4 : f 1 ≤ f 4 := hH 4 (by decide)
        rw [own_le] at H1
        rw [own_le] at H2
        rw [own_le] at H3
        rw [own_le] at H4
        rw [own_lt] at c404
        rw [own_lt] at c405
        have t : i = 0 ∨ i = 1 ∨ i = 2 ∨ i = 3 := by omega
        rcases t with rfl | rfl | rfl | rfl
        · show (f 4) ≤ (f 4)
          rw [own_le]; omega
        · show (f 4) ≤ (f 1)
          rw [own_le]; omega
        · show (f 4) ≤ (f 2)
          rw [own_le]; omega
        · show (f 1) ≤ (f 3)
          rw [own_le]; omega
      exact own_ret C (t := .int) rfl rfl (Or.inl ⟨rfl, by simp, _, rfl⟩) own_d5_119 (by decide) (by decide) (⟨(own_upd f 0 (f 4)), rfl, K452, F453, F454, F455, F456, HH457, (fun v => by show (((((0 + own_one (f 0) v) + own_one (f 1) v) + own_one (f 2) v) + own_one (f 3) v) + own_one (f 4) v) = ((((0 + own_one (f 4) v) + own_one (f 1) v) + own_one (f 2) v) + own_one (f 3) v) + own_one (f 0) v; omega), (by have H1 : f 0 ≤ f 1 := hH 1 (by decide); have H2 : f 0 ≤ f 2 := hH 2 (by decide); have H3 : f 1 ≤ f 3 := hH 3 (by decide); have H4 : f 1 ≤ f 4 := hH 4 (by decide); rw [own_le] at H1; rw [own_le] at H2; rw [own_le] at H3; rw [own_le] at H4; rw [own_lt] at c404; rw [own_lt] at c405; show (f 0) ≤ (f 4); rw [own_le]; omega)⟩)
  · skip
    refine own_iincV C (pc' := 78) (w := (1 : Int32)) (x := (2 : Int32)) (Ls' := #[.val (.ref a), .val (.int (f 0)), .val (.int (f 4)), .val (.int (0 : Int32)), .val (.int (2 : Int32))]) own_d5_75 rfl (by decide) (by decide) rfl rfl ?_
    refine own_iloadN C (pc' := 79) own_d5_78 rfl rfl ?_
    refine own_aloadN C (pc' := 80) own_d5_79 rfl rfl rfl ?_
    refine own_getF C (pc' := 83) (hw _ (List.mem_of_getElem? (i := 14) rfl)) F399 own_d5_80 rfl ?_
    refine own_iload C (pc' := 85) own_d5_83 rfl rfl ?_
    refine own_ldIV C (pc' := 86) F401 (i := 2) (v := (f 2)) (by decide) (by decide) rfl own_d5_85 rfl ?_
    refine own_ii_gt C (pc1 := 92) (pc2 := 89) own_d5_86 rfl rfl (fun c458 => ?_) (fun c458 => ?_)
    · skip
      refine own_aloadN C (pc' := 93) own_d5_92 rfl rfl rfl ?_
      refine own_getF C (pc' := 96) (hw _ (List.mem_of_getElem? (i := 14) rfl)) F399 own_d5_93 rfl ?_
      refine own_iloadN C (pc' := 97) own_d5_96 rfl rfl ?_
      refine own_aloadN C (pc' := 98) own_d5_97 rfl rfl rfl ?_
      refine own_getF C (pc' := 101) (hw _ (List.mem_of_getElem? (i := 14) rfl)) F399 own_d5_98 rfl ?_
      refine own_iload C (pc' := 103) own_d5_101 rfl rfl ?_
      refine own_ldIV C (pc' := 104) F401 (i := 2) (v := (f 2)) (by decide) (by decide) rfl own_d5_103 rfl ?_
      refine own_stI C (pc' := 105) F401 (i := 0) (by decide) (by decide) f2 own_d5_104 rfl (fun h459 W460 V461 => ?_)
      have Z462 : n0 ≤ h459.size := Nat.le_trans Z396 (Nat.le_of_eq (Wr.size W460).symm)
      have K463 := Keep.wr K397 W460 (Or.inl (List.mem_of_getElem? (i := 1) rfl))
      have F464 : Exa Z h459 a "com/example/serialis/serialis/graph/IntMinHeap" := Exa.wr W460 F398
      have F465 : Fld Z h459 a "com/example/serialis/serialis/graph/IntMinHeap" "heap" "[I" (.ref ar) := Fld.other W460 F399 (Or.inl f3)
      have F466 : Fld Z h459 a "com/example/serialis/serialis/graph/IntMinHeap" "size" "I" (.int (4 : Int32)) := Fld.other W460 F400 (Or.inl f3)
      have F467 : own_AI Z h459 ar 5 (own_upd f 0 (f 2)) := V461
      refine own_iload C (pc' := 107) own_d5_105 rfl rfl ?_
      refine own_istoreN C (pc' := 108) (Ls' := #[.val (.ref a), .val (.int (f 0)), .val (.int (f 4)), .val (.int (2 : Int32)), .val (.int (2 : Int32))]) own_d5_107 rfl rfl ?_
      refine own_goto C (pc' := 26) own_d5_108 rfl ?_
      refine own_iconst C (pc' := 27) (v := (2 : Int32)) own_d5_26 rfl (by decide) ?_
      refine own_iloadN C (pc' := 28) own_d5_27 rfl rfl ?_
      refine own_imulV C (pc' := 29) (v := (4 : Int32)) own_d5_28 rfl (by decide) ?_
      refine own_iconst C (pc' := 30) (v := (1 : Int32)) own_d5_29 rfl (by decide) ?_
      refine own_iaddV C (pc' := 31) (v := (5 : Int32)) own_d5_30 rfl (by decide) ?_
      refine own_istore C (pc' := 33) (Ls' := #[.val (.ref a), .val (.int (f 0)), .val (.int (f 4)), .val (.int (2 : Int32)), .val (.int (5 : Int32))]) own_d5_31 rfl rfl ?_
      refine own_iload C (pc' := 35) own_d5_33 rfl rfl ?_
      refine own_aloadN C (pc' := 36) own_d5_35 rfl rfl rfl ?_
      refine own_getF C (pc' := 39) (hw _ (List.mem_of_getElem? (i := 21) rfl)) F466 own_d5_36 rfl ?_
      refine own_ii_lt C (pc1 := 45) (pc2 := 42) own_d5_39 rfl rfl (fun c468 => absurd c468 (by decide)) (fun c468 => ?_)
      refine own_goto C (pc' := 111) own_d5_42 rfl ?_
      refine own_aloadN C (pc' := 112) own_d5_111 rfl rfl rfl ?_
      refine own_getF C (pc' := 115) (hw _ (List.mem_of_getElem? (i := 14) rfl)) F465 own_d5_112 rfl ?_
      refine own_iloadN C (pc' := 116) own_d5_115 rfl rfl ?_
      refine own_iloadN C (pc' := 117) own_d5_116 rfl rfl ?_
      refine own_stI C (pc' := 118) F467 (i := 2) (by decide) (by decide) f2 own_d5_117 rfl (fun h469 W470 V471 => ?_)
      have Z472 : n0 ≤ h469.size := Nat.le_trans Z462 (Nat.le_of_eq (Wr.size W470).symm)
      have K473 := Keep.wr K463 W470 (Or.inl (List.mem_of_getElem? (i := 1) rfl))
      have F474 : Exa Z h469 a "com/example/serialis/serialis/graph/IntMinHeap" := Exa.wr W470 F464
      have F475 : Fld Z h469 a "com/example/serialis/serialis/graph/IntMinHeap" "heap" "[I" (.ref ar) := Fld.other W470 F465 (Or.inl f3)
      have F476 : Fld Z h469 a "com/example/serialis/serialis/graph/IntMinHeap" "size" "I" (.int (4 : Int32)) := Fld.other W470 F466 (Or.inl f3)
      have F477 : own_AI Z h469 ar 5 (own_upd (own_upd f 0 (f 2)) 2 (f 4)) := V471
      refine own_iloadN C (pc' := 119) own_d5_118 rfl rfl ?_
      have HH478 : own_H 4 (own_upd (own_upd f 0 (f 2)) 2 (f 4)) := by
        refine fun i hi => ?_
        have H1 : f 0 ≤ f 1 := hH 1 (by decide)
        have H2 : f 0 ≤ f 2 := hH 2 (by decide)
        have H3 : f 1 ≤ f 3 := hH 3 (by decide)
        have H4 : f 1 ≤ f 4 := hH 4 (by decide)
        rw [own_le] at H1
        rw [own_le] at H2
        rw [own_le] at H3
        rw [own_le] at H4
        rw [own_lt] at c404
        rw [own_lt] at c458
        have t : i = 0 ∨ i = 1 ∨ i = 2 ∨ i = 3 := by omega
        rcases t with rfl | rfl | rfl | rfl
        · show (f 2) ≤ (f 2)
          rw [own_le]; omega
        · show (f 2) ≤ (f 1)
          rw [own_le]; omega
        · show (f 2) ≤ (f 4)
          rw [own_le]; omega
        · show (f 1) ≤ (f 3)
          rw [own_le]; omega
      exact own_ret C (t := .int) rfl rfl (Or.inl ⟨rfl, by simp, _, rfl⟩) own_d5_119 (by decide) (by decide) (⟨(own_upd (own_upd f 0 (f 2)) 2 (f 4)), rfl, K473, F474, F475, F476, F477, HH478, (fun v => by show (((((0 + own_one (f 0) v) + own_one (f 1) v) + own_one (f 2) v) + own_one (f 3) v) + own_one (f 4) v) = ((((0 + own_one (f 2) v) + own_one (f 1) v) + own_one (f 4) v) + own_one (f 3) v) + own_one (f 0) v; omega), (by have H1 : f 0 ≤ f 1 := hH 1 (by decide); have H2 : f 0 ≤ f 2 := hH 2 (by decide); have H3 : f 1 ≤ f 3 := hH 3 (by decide); have H4 : f 1 ≤ f 4 := hH 4 (by decide); rw [own_le] at H1; rw [own_le] at H2; rw [own_le] at H3; rw [own_le] at H4; rw [own_lt] at c404; rw [own_lt] at c458; show (f 0) ≤ (f 2); rw [own_le]; omega)⟩)
    · skip
      refine own_goto C (pc' := 111) own_d5_89 rfl ?_
      refine own_aloadN C (pc' := 112) own_d5_111 rfl rfl rfl ?_
      refine own_getF C (pc' := 115) (hw _ (List.mem_of_getElem? (i := 14) rfl)) F399 own_d5_112 rfl ?_
      refine own_iloadN C (pc' := 116) own_d5_115 rfl rfl ?_
      refine own_iloadN C (pc' := 117) own_d5_116 rfl rfl ?_
      refine own_stI C (pc' := 118) F401 (i := 0) (by decide) (by decide) f2 own_d5_117 rfl (fun h479 W480 V481 => ?_)
      have Z482 : n0 ≤ h479.size := Nat.le_trans Z396 (Nat.le_of_eq (Wr.size W480).symm)
      have K483 := Keep.wr K397 W480 (Or.inl (List.mem_of_getElem? (i := 1) rfl))
      have F484 : Exa Z h479 a "com/example/serialis/serialis/graph/IntMinHeap" := Exa.wr W480 F398
      have F485 : Fld Z h479 a "com/example/serialis/serialis/graph/IntMinHeap" "heap" "[I" (.ref ar) := Fld.other W480 F399 (Or.inl f3)
      have F486 : Fld Z h479 a "com/example/serialis/serialis/graph/IntMinHeap" "size" "I" (.int (4 : Int32)) := Fld.other W480 F400 (Or.inl f3)
      have F487 : own_AI Z h479 ar 5 (own_upd f 0 (f 4)) := V481
      refine own_iloadN C (pc' := 119) own_d5_118 rfl rfl ?_
      have HH488 : own_H 4 (own_upd f 0 (f 4)) := by
        refine fun i hi => ?_
        have H1 : f 0 ≤ f 1 := hH 1 (by decide)
        have H2 : f 0 ≤ f 2 := hH 2 (by decide)
        have H3 : f 1 ≤ f 3 := hH 3 (by decide)
        have H4 : f 1 ≤ f 4 := hH 4 (by decide)
        rw [own_le] at H1
        rw [own_le] at H2
        rw [own_le] at H3
        rw [own_le] at H4
        rw [own_lt] at c404
        rw [own_lt] at c458
        have t : i = 0 ∨ i = 1 ∨ i = 2 ∨ i = 3 := by omega
        rcases t with rfl | rfl | rfl | rfl
        · show (f 4) ≤ (f 4)
          rw [own_le]; omega
        · show (f 4) ≤ (f 1)
          rw [own_le]; omega
        · show (f 4) ≤ (f 2)
          rw [own_le]; omega
        · show (f 1) ≤ (f 3)
          rw [own_le]; omega
      exact own_ret C (t := .int) rfl rfl (Or.inl ⟨rfl, by simp, _, rfl⟩) own_d5_119 (by decide) (by decide) (⟨(own_upd f 0 (f 4)), rfl, K483, F484, F485, F486, F487, HH488, (fun v => by show (((((0 + own_one (f 0) v) + own_one (f 1) v) + own_one (f 2) v) + own_one (f 3) v) + own_one (f 4) v) = ((((0 + own_one (f 4) v) + own_one (f 1) v) + own_one (f 2) v) + own_one (f 3) v) + own_one (f 0) v; omega), (by have H1 : f 0 ≤ f 1 := hH 1 (by decide); have H2 : f 0 ≤ f 2 := hH 2 (by decide); have H3 : f 1 ≤ f 3 := hH 3 (by decide); have H4 : f 1 ≤ f 4 := hH 4 (by decide); rw [own_le] at H1; rw [own_le] at H2; rw [own_le] at H3; rw [own_le] at H4; rw [own_lt] at c404; rw [own_lt] at c458; show (f 0) ≤ (f 4); rw [own_le]; omega)⟩)
set_option maxRecDepth 65536 in
set_option maxHeartbeats 40000000 in
theorem own_m1 {l : Launch} {Z : State} {a0 : Array Value} (hw : ∀ d ∈ tables_1, d.before a0 Z = true) {n0 : Nat} {ws : List Jvm.Cond} {h : Heap} (ar : Addr) (f : Nat → Int32) (i : Int32) (j : Int32) (ii : Nat) (jj : Nat) (fi : Int32) (fj : Int32) (Z0 : n0 ≤ h.size) (f0 : n0 ≤ ar) (f1 : own_AI Z h ar 5 f) (hi : i.toInt = (ii : Int)) (hib : ii < 5) (hj : j.toInt = (jj : Int)) (hjb : jj < 5) (hij : ii ≠ jj) (hfi : f ii = fi) (hfj : f jj = fj) :
    own_Met l Z n0 (⟨"com/example/serialis/serialis/graph/IntMinHeapRemoveSmallestPinLaw", "cx", "([III)V"⟩ : MethodName) method_2_code 4 none ({ frames := 0, cells := 0, slots := 0, locals := 0 } : Room) ws #[(.ref ar), (.int i), (.int j)] h (fun v h' => ∃ u : Int32, ∃ w : Int32, (v = none) ∧ (Keep h h' [ar]) ∧ (own_AI Z h' ar 5 (own_upd (own_upd f ii u) jj w)) ∧ (u ≤ w) ∧ ((u = fi ∧ w = fj) ∨ (u = fj ∧ w = fi))) := by
  refine own_met own_pn1 #[.val (.ref ar), .val (.int i), .val (.int j), .unset] (fun m => by first | (simp [entryFrame, mkF, argsToLocals, Value.category]; done) | rfl) ?_
  intro p_ e_ s_ m_ b_ mt_ c_ C
  replace C : own_Ctx p_ s_ m_ mt_ c_ Z "com/example/serialis/serialis/graph/IntMinHeapRemoveSmallestPinLaw" "cx" method_2_code 4 none := C
  have K0 : Keep h h [ar] := Keep.refl _ _
  refine own_aloadN C (pc' := 1) own_d1_0 rfl rfl rfl ?_
  refine own_iloadN C (pc' := 2) own_d1_1 rfl rfl ?_
  refine own_ldIV C (pc' := 3) f1 (i := jj) (v := fj) hj hjb hfj own_d1_2 rfl ?_
  refine own_aloadN C (pc' := 4) own_d1_3 rfl rfl rfl ?_
  refine own_iloadN C (pc' := 5) own_d1_4 rfl rfl ?_
  refine own_ldIV C (pc' := 6) f1 (i := ii) (v := fi) hi hib hfi own_d1_5 rfl ?_
  refine own_ii_ge C (pc1 := 23) (pc2 := 9) own_d1_6 rfl rfl (fun c489 => ?_) (fun c489 => ?_)
  · skip
    exact own_retV C rfl own_d1_23 (by decide) (by decide) (⟨fi, fj, rfl, K0, (own_A.congr f1 fun j hj => congrArg _ (own_same hfi hfj j)), (by rw [own_le]; rw [own_lt] at c489; omega), (Or.inl ⟨rfl, rfl⟩)⟩)
  · skip
    refine own_aloadN C (pc' := 10) own_d1_9 rfl rfl rfl ?_
    refine own_iloadN C (pc' := 11) own_d1_10 rfl rfl ?_
    refine own_ldIV C (pc' := 12) f1 (i := ii) (v := fi) hi hib hfi own_d1_11 rfl ?_
    refine own_istoreN C (pc' := 13) (Ls' := #[.val (.ref ar), .val (.int i), .val (.int j), .val (.int fi)]) own_d1_12 rfl rfl ?_
    refine own_aloadN C (pc' := 14) own_d1_13 rfl rfl rfl ?_
    refine own_iloadN C (pc' := 15) own_d1_14 rfl rfl ?_
    refine own_aloadN C (pc' := 16) own_d1_15 rfl rfl rfl ?_
    refine own_iloadN C (pc' := 17) own_d1_16 rfl rfl ?_
    refine own_ldIV C (pc' := 18) f1 (i := jj) (v := fj) hj hjb hfj own_d1_17 rfl ?_
    refine own_stI C (pc' := 19) f1 (i := ii) hi hib f0 own_d1_18 rfl (fun h490 W491 V492 => ?_)
    have Z493 : n0 ≤ h490.size := Nat.le_trans Z0 (Nat.le_of_eq (Wr.size W491).symm)
    have K494 := Keep.wr K0 W491 (Or.inl (List.mem_of_getElem? (i := 0) rfl))
    have F495 : own_AI Z h490 ar 5 (own_upd f ii fj) := V492
    refine own_aloadN C (pc' := 20) own_d1_19 rfl rfl rfl ?_
    refine own_iloadN C (pc' := 21) own_d1_20 rfl rfl ?_
    refine own_iloadN C (pc' := 22) own_d1_21 rfl rfl ?_
    refine own_stI C (pc' := 23) F495 (i := jj) hj hjb f0 own_d1_22 rfl (fun h496 W497 V498 => ?_)
    have Z499 : n0 ≤ h496.size := Nat.le_trans Z493 (Nat.le_of_eq (Wr.size W497).symm)
    have K500 := Keep.wr K494 W497 (Or.inl (List.mem_of_getElem? (i := 0) rfl))
    have F501 : own_AI Z h496 ar 5 (own_upd (own_upd f ii fj) jj fi) := V498
    exact own_retV C rfl own_d1_23 (by decide) (by decide) (⟨fj, fi, rfl, K500, F501, (by rw [own_le]; rw [own_lt] at c489; omega), (Or.inr ⟨rfl, rfl⟩)⟩)
set_option maxRecDepth 65536 in
set_option maxHeartbeats 40000000 in
theorem own_law {l : Launch} {Z : State} {a0 : Array Value} (hw : ∀ d ∈ tables_1, d.before a0 Z = true) {n0 : Nat} {ws : List Jvm.Cond} {h : Heap} (p0 : Int32) (p1 : Int32) (p2 : Int32) (p3 : Int32) (p4 : Int32) (Z0 : n0 ≤ h.size) :
    own_Met l Z n0 x code maxLocals ret room_1 ws #[(.int p0), (.int p1), (.int p2), (.int p3), (.int p4)] h (fun v h' => v = some (.int 1)) := by
  refine own_met own_pn1 #[.val (.int p0), .val (.int p1), .val (.int p2), .val (.int p3), .val (.int p4), .unset, .unset, .unset, .unset, .unset, .unset, .unset] (fun m => by first | (simp [entryFrame, mkF, argsToLocals, Value.category, maxLocals]; done) | rfl) ?_
  intro p_ e_ s_ m_ b_ mt_ c_ C
  replace C : own_Ctx p_ s_ m_ mt_ c_ Z "com/example/serialis/serialis/graph/IntMinHeapRemoveSmallestPinLaw" "law" code maxLocals ret := C
  refine own_iconst C (pc' := 1) (v := (5 : Int32)) at_0 rfl (by decide) ?_
  refine own_newAI C (pc' := 3) (hw _ (List.mem_of_getElem? (i := 0) rfl)) Z0 at_1 rfl (nn := 5) (cap := 5) (by decide) (by decide) (by decide) (by decide) (by decide) (fun h502 a503 ea504 ga505 Z506 E507 V508 => ?_)
  refine own_dup C (pc' := 4) at_3 rfl rfl ?_
  refine own_iconst C (pc' := 5) (v := (0 : Int32)) at_4 rfl (by decide) ?_
  refine own_iloadN C (pc' := 6) at_5 rfl rfl ?_
  refine own_stI C (pc' := 7) V508 (i := 0) (by decide) (by decide) ga505 at_6 rfl (fun h509 W510 V511 => ?_)
  have Z512 : n0 ≤ h509.size := Nat.le_trans Z506 (Nat.le_of_eq (Wr.size W510).symm)
  have F513 : own_AI Z h509 a503 5 (own_upd (fun _ => (0 : Int32)) 0 p0) := V511
  refine own_dup C (pc' := 8) at_7 rfl rfl ?_
  refine own_iconst C (pc' := 9) (v := (1 : Int32)) at_8 rfl (by decide) ?_
  refine own_iloadN C (pc' := 10) at_9 rfl rfl ?_
  refine own_stI C (pc' := 11) F513 (i := 1) (by decide) (by decide) ga505 at_10 rfl (fun h514 W515 V516 => ?_)
  have Z517 : n0 ≤ h514.size := Nat.le_trans Z512 (Nat.le_of_eq (Wr.size W515).symm)
  have F518 : own_AI Z h514 a503 5 (own_upd (own_upd (fun _ => (0 : Int32)) 0 p0) 1 p1) := V516
  refine own_dup C (pc' := 12) at_11 rfl rfl ?_
  refine own_iconst C (pc' := 13) (v := (2 : Int32)) at_12 rfl (by decide) ?_
  refine own_iloadN C (pc' := 14) at_13 rfl rfl ?_
  refine own_stI C (pc' := 15) F518 (i := 2) (by decide) (by decide) ga505 at_14 rfl (fun h519 W520 V521 => ?_)
  have Z522 : n0 ≤ h519.size := Nat.le_trans Z517 (Nat.le_of_eq (Wr.size W520).symm)
  have F523 : own_AI Z h519 a503 5 (own_upd (own_upd (own_upd (fun _ => (0 : Int32)) 0 p0) 1 p1) 2 p2) := V521
  refine own_dup C (pc' := 16) at_15 rfl rfl ?_
  refine own_iconst C (pc' := 17) (v := (3 : Int32)) at_16 rfl (by decide) ?_
  refine own_iloadN C (pc' := 18) at_17 rfl rfl ?_
  refine own_stI C (pc' := 19) F523 (i := 3) (by decide) (by decide) ga505 at_18 rfl (fun h524 W525 V526 => ?_)
  have Z527 : n0 ≤ h524.size := Nat.le_trans Z522 (Nat.le_of_eq (Wr.size W525).symm)
  have F528 : own_AI Z h524 a503 5 (own_upd (own_upd (own_upd (own_upd (fun _ => (0 : Int32)) 0 p0) 1 p1) 2 p2) 3 p3) := V526
  refine own_dup C (pc' := 20) at_19 rfl rfl ?_
  refine own_iconst C (pc' := 21) (v := (4 : Int32)) at_20 rfl (by decide) ?_
  refine own_iload C (pc' := 23) at_21 rfl rfl ?_
  refine own_stI C (pc' := 24) F528 (i := 4) (by decide) (by decide) ga505 at_23 rfl (fun h529 W530 V531 => ?_)
  have Z532 : n0 ≤ h529.size := Nat.le_trans Z527 (Nat.le_of_eq (Wr.size W530).symm)
  have F533 : own_AI Z h529 a503 5 (own_upd (own_upd (own_upd (own_upd (own_upd (fun _ => (0 : Int32)) 0 p0) 1 p1) 2 p2) 3 p3) 4 p4) := V531
  refine own_astore C (pc' := 26) (Ls' := #[.val (.int p0), .val (.int p1), .val (.int p2), .val (.int p3), .val (.int p4), .val (.ref a503), .unset, .unset, .unset, .unset, .unset, .unset]) at_24 rfl rfl rfl ?_
  refine own_aload C (pc' := 28) at_26 rfl rfl rfl ?_
  refine own_iconst C (pc' := 29) (v := (0 : Int32)) at_28 rfl (by decide) ?_
  refine own_iconst C (pc' := 30) (v := (3 : Int32)) at_29 rfl (by decide) ?_
  refine own_callS C (pc' := 33) (y := (⟨"com/example/serialis/serialis/graph/IntMinHeapRemoveSmallestPinLaw", "cx", "([III)V"⟩ : MethodName)) (argsL := [(.ref a503), (.int (0 : Int32)), (.int (3 : Int32))]) (rest := []) 0 (hw _ (List.mem_of_getElem? (i := 1) rfl)) (hw _ (List.mem_of_getElem? (i := 2) rfl)) (hw _ (List.mem_of_getElem? (i := 3) rfl)) (hw _ (List.mem_of_getElem? (i := 4) rfl)) (by decide) (own_m1 hw a503 (own_upd (own_upd (own_upd (own_upd (own_upd (fun _ => (0 : Int32)) 0 p0) 1 p1) 2 p2) 3 p3) 4 p4) (0 : Int32) (3 : Int32) 0 3 p0 p3 Z532 ga505 F533 (by decide) (by decide) (by decide) (by decide) (by decide) rfl rfl) (by decide) (by decide) (lenOf own_pd0 rfl) rfl (Nat.le_of_eq rfl) at_30 rfl rfl (by decide) (by decide) (fun v534 h535 hq536 => ?_)
  obtain ⟨y537, y538, rfl, K539, F540, g541, g542⟩ := hq536
  have Z544 : n0 ≤ h535.size := Nat.le_trans Z532 K539.1
  show own_Run p_ l e_ _ s_ m_ _ b_ mt_ c_ n0 _ h535 _ _ (mkF m_ 33 #[.val (.int p0), .val (.int p1), .val (.int p2), .val (.int p3), .val (.int p4), .val (.ref a503), .unset, .unset, .unset, .unset, .unset, .unset] [])
  refine own_aload C (pc' := 35) at_33 rfl rfl rfl ?_
  refine own_iconst C (pc' := 36) (v := (1 : Int32)) at_35 rfl (by decide) ?_
  refine own_iconst C (pc' := 37) (v := (4 : Int32)) at_36 rfl (by decide) ?_
  refine own_callS C (pc' := 40) (y := (⟨"com/example/serialis/serialis/graph/IntMinHeapRemoveSmallestPinLaw", "cx", "([III)V"⟩ : MethodName)) (argsL := [(.ref a503), (.int (1 : Int32)), (.int (4 : Int32))]) (rest := []) 0 (hw _ (List.mem_of_getElem? (i := 1) rfl)) (hw _ (List.mem_of_getElem? (i := 2) rfl)) (hw _ (List.mem_of_getElem? (i := 3) rfl)) (hw _ (List.mem_of_getElem? (i := 4) rfl)) (by decide) (own_m1 hw a503 (own_upd (own_upd (own_upd (own_upd (own_upd (own_upd (own_upd (fun _ => (0 : Int32)) 0 p0) 1 p1) 2 p2) 3 p3) 4 p4) 0 y537) 3 y538) (1 : Int32) (4 : Int32) 1 4 p1 p4 Z544 ga505 F540 (by decide) (by decide) (by decide) (by decide) (by decide) rfl rfl) (by decide) (by decide) (lenOf own_pd0 rfl) rfl (Nat.le_of_eq rfl) at_37 rfl rfl (by decide) (by decide) (fun v545 h546 hq547 => ?_)
  obtain ⟨y548, y549, rfl, K550, F551, g552, g553⟩ := hq547
  have Z555 : n0 ≤ h546.size := Nat.le_trans Z544 K550.1
  show own_Run p_ l e_ _ s_ m_ _ b_ mt_ c_ n0 _ h546 _ _ (mkF m_ 40 #[.val (.int p0), .val (.int p1), .val (.int p2), .val (.int p3), .val (.int p4), .val (.ref a503), .unset, .unset, .unset, .unset, .unset, .unset] [])
  refine own_aload C (pc' := 42) at_40 rfl rfl rfl ?_
  refine own_iconst C (pc' := 43) (v := (0 : Int32)) at_42 rfl (by decide) ?_
  refine own_iconst C (pc' := 44) (v := (2 : Int32)) at_43 rfl (by decide) ?_
  refine own_callS C (pc' := 47) (y := (⟨"com/example/serialis/serialis/graph/IntMinHeapRemoveSmallestPinLaw", "cx", "([III)V"⟩ : MethodName)) (argsL := [(.ref a503), (.int (0 : Int32)), (.int (2 : Int32))]) (rest := []) 0 (hw _ (List.mem_of_getElem? (i := 1) rfl)) (hw _ (List.mem_of_getElem? (i := 2) rfl)) (hw _ (List.mem_of_getElem? (i := 3) rfl)) (hw _ (List.mem_of_getElem? (i := 4) rfl)) (by decide) (own_m1 hw a503 (own_upd (own_upd (own_upd (own_upd (own_upd (own_upd (own_upd (own_upd (own_upd (fun _ => (0 : Int32)) 0 p0) 1 p1) 2 p2) 3 p3) 4 p4) 0 y537) 3 y538) 1 y548) 4 y549) (0 : Int32) (2 : Int32) 0 2 y537 p2 Z555 ga505 F551 (by decide) (by decide) (by decide) (by decide) (by decide) rfl rfl) (by decide) (by decide) (lenOf own_pd0 rfl) rfl (Nat.le_of_eq rfl) at_44 rfl rfl (by decide) (by decide) (fun v556 h557 hq558 => ?_)
  obtain ⟨y559, y560, rfl, K561, F562, g563, g564⟩ := hq558
  have Z566 : n0 ≤ h557.size := Nat.le_trans Z555 K561.1
  show own_Run p_ l e_ _ s_ m_ _ b_ mt_ c_ n0 _ h557 _ _ (mkF m_ 47 #[.val (.int p0), .val (.int p1), .val (.int p2), .val (.int p3), .val (.int p4), .val (.ref a503), .unset, .unset, .unset, .unset, .unset, .unset] [])
  refine own_aload C (pc' := 49) at_47 rfl rfl rfl ?_
  refine own_iconst C (pc' := 50) (v := (1 : Int32)) at_49 rfl (by decide) ?_
  refine own_iconst C (pc' := 51) (v := (3 : Int32)) at_50 rfl (by decide) ?_
  refine own_callS C (pc' := 54) (y := (⟨"com/example/serialis/serialis/graph/IntMinHeapRemoveSmallestPinLaw", "cx", "([III)V"⟩ : MethodName)) (argsL := [(.ref a503), (.int (1 : Int32)), (.int (3 : Int32))]) (rest := []) 0 (hw _ (List.mem_of_getElem? (i := 1) rfl)) (hw _ (List.mem_of_getElem? (i := 2) rfl)) (hw _ (List.mem_of_getElem? (i := 3) rfl)) (hw _ (List.mem_of_getElem? (i := 4) rfl)) (by decide) (own_m1 hw a503 (own_upd (own_upd (own_upd (own_upd (own_upd (own_upd (own_upd (own_upd (own_upd (own_upd (own_upd (fun _ => (0 : Int32)) 0 p0) 1 p1) 2 p2) 3 p3) 4 p4) 0 y537) 3 y538) 1 y548) 4 y549) 0 y559) 2 y560) (1 : Int32) (3 : Int32) 1 3 y548 y538 Z566 ga505 F562 (by decide) (by decide) (by decide) (by decide) (by decide) rfl rfl) (by decide) (by decide) (lenOf own_pd0 rfl) rfl (Nat.le_of_eq rfl) at_51 rfl rfl (by decide) (by decide) (fun v567 h568 hq569 => ?_)
  obtain ⟨y570, y571, rfl, K572, F573, g574, g575⟩ := hq569
  have Z577 : n0 ≤ h568.size := Nat.le_trans Z566 K572.1
  show own_Run p_ l e_ _ s_ m_ _ b_ mt_ c_ n0 _ h568 _ _ (mkF m_ 54 #[.val (.int p0), .val (.int p1), .val (.int p2), .val (.int p3), .val (.int p4), .val (.ref a503), .unset, .unset, .unset, .unset, .unset, .unset] [])
  refine own_aload C (pc' := 56) at_54 rfl rfl rfl ?_
  refine own_iconst C (pc' := 57) (v := (0 : Int32)) at_56 rfl (by decide) ?_
  refine own_iconst C (pc' := 58) (v := (1 : Int32)) at_57 rfl (by decide) ?_
  refine own_callS C (pc' := 61) (y := (⟨"com/example/serialis/serialis/graph/IntMinHeapRemoveSmallestPinLaw", "cx", "([III)V"⟩ : MethodName)) (argsL := [(.ref a503), (.int (0 : Int32)), (.int (1 : Int32))]) (rest := []) 0 (hw _ (List.mem_of_getElem? (i := 1) rfl)) (hw _ (List.mem_of_getElem? (i := 2) rfl)) (hw _ (List.mem_of_getElem? (i := 3) rfl)) (hw _ (List.mem_of_getElem? (i := 4) rfl)) (by decide) (own_m1 hw a503 (own_upd (own_upd (own_upd (own_upd (own_upd (own_upd (own_upd (own_upd (own_upd (own_upd (own_upd (own_upd (own_upd (fun _ => (0 : Int32)) 0 p0) 1 p1) 2 p2) 3 p3) 4 p4) 0 y537) 3 y538) 1 y548) 4 y549) 0 y559) 2 y560) 1 y570) 3 y571) (0 : Int32) (1 : Int32) 0 1 y559 y570 Z577 ga505 F573 (by decide) (by decide) (by decide) (by decide) (by decide) rfl rfl) (by decide) (by decide) (lenOf own_pd0 rfl) rfl (Nat.le_of_eq rfl) at_58 rfl rfl (by decide) (by decide) (fun v578 h579 hq580 => ?_)
  obtain ⟨y581, y582, rfl, K583, F584, g585, g586⟩ := hq580
  have Z588 : n0 ≤ h579.size := Nat.le_trans Z577 K583.1
  show own_Run p_ l e_ _ s_ m_ _ b_ mt_ c_ n0 _ h579 _ _ (mkF m_ 61 #[.val (.int p0), .val (.int p1), .val (.int p2), .val (.int p3), .val (.int p4), .val (.ref a503), .unset, .unset, .unset, .unset, .unset, .unset] [])
  refine own_aload C (pc' := 63) at_61 rfl rfl rfl ?_
  refine own_iconst C (pc' := 64) (v := (2 : Int32)) at_63 rfl (by decide) ?_
  refine own_iconst C (pc' := 65) (v := (4 : Int32)) at_64 rfl (by decide) ?_
  refine own_callS C (pc' := 68) (y := (⟨"com/example/serialis/serialis/graph/IntMinHeapRemoveSmallestPinLaw", "cx", "([III)V"⟩ : MethodName)) (argsL := [(.ref a503), (.int (2 : Int32)), (.int (4 : Int32))]) (rest := []) 0 (hw _ (List.mem_of_getElem? (i := 1) rfl)) (hw _ (List.mem_of_getElem? (i := 2) rfl)) (hw _ (List.mem_of_getElem? (i := 3) rfl)) (hw _ (List.mem_of_getElem? (i := 4) rfl)) (by decide) (own_m1 hw a503 (own_upd (own_upd (own_upd (own_upd (own_upd (own_upd (own_upd (own_upd (own_upd (own_upd (own_upd (own_upd (own_upd (own_upd (own_upd (fun _ => (0 : Int32)) 0 p0) 1 p1) 2 p2) 3 p3) 4 p4) 0 y537) 3 y538) 1 y548) 4 y549) 0 y559) 2 y560) 1 y570) 3 y571) 0 y581) 1 y582) (2 : Int32) (4 : Int32) 2 4 y560 y549 Z588 ga505 F584 (by decide) (by decide) (by decide) (by decide) (by decide) rfl rfl) (by decide) (by decide) (lenOf own_pd0 rfl) rfl (Nat.le_of_eq rfl) at_65 rfl rfl (by decide) (by decide) (fun v589 h590 hq591 => ?_)
  obtain ⟨y592, y593, rfl, K594, F595, g596, g597⟩ := hq591
  have Z599 : n0 ≤ h590.size := Nat.le_trans Z588 K594.1
  show own_Run p_ l e_ _ s_ m_ _ b_ mt_ c_ n0 _ h590 _ _ (mkF m_ 68 #[.val (.int p0), .val (.int p1), .val (.int p2), .val (.int p3), .val (.int p4), .val (.ref a503), .unset, .unset, .unset, .unset, .unset, .unset] [])
  refine own_aload C (pc' := 70) at_68 rfl rfl rfl ?_
  refine own_iconst C (pc' := 71) (v := (1 : Int32)) at_70 rfl (by decide) ?_
  refine own_iconst C (pc' := 72) (v := (2 : Int32)) at_71 rfl (by decide) ?_
  refine own_callS C (pc' := 75) (y := (⟨"com/example/serialis/serialis/graph/IntMinHeapRemoveSmallestPinLaw", "cx", "([III)V"⟩ : MethodName)) (argsL := [(.ref a503), (.int (1 : Int32)), (.int (2 : Int32))]) (rest := []) 0 (hw _ (List.mem_of_getElem? (i := 1) rfl)) (hw _ (List.mem_of_getElem? (i := 2) rfl)) (hw _ (List.mem_of_getElem? (i := 3) rfl)) (hw _ (List.mem_of_getElem? (i := 4) rfl)) (by decide) (own_m1 hw a503 (own_upd (own_upd (own_upd (own_upd (own_upd (own_upd (own_upd (own_upd (own_upd (own_upd (own_upd (own_upd (own_upd (own_upd (own_upd (own_upd (own_upd (fun _ => (0 : Int32)) 0 p0) 1 p1) 2 p2) 3 p3) 4 p4) 0 y537) 3 y538) 1 y548) 4 y549) 0 y559) 2 y560) 1 y570) 3 y571) 0 y581) 1 y582) 2 y592) 4 y593) (1 : Int32) (2 : Int32) 1 2 y582 y592 Z599 ga505 F595 (by decide) (by decide) (by decide) (by decide) (by decide) rfl rfl) (by decide) (by decide) (lenOf own_pd0 rfl) rfl (Nat.le_of_eq rfl) at_72 rfl rfl (by decide) (by decide) (fun v600 h601 hq602 => ?_)
  obtain ⟨y603, y604, rfl, K605, F606, g607, g608⟩ := hq602
  have Z610 : n0 ≤ h601.size := Nat.le_trans Z599 K605.1
  show own_Run p_ l e_ _ s_ m_ _ b_ mt_ c_ n0 _ h601 _ _ (mkF m_ 75 #[.val (.int p0), .val (.int p1), .val (.int p2), .val (.int p3), .val (.int p4), .val (.ref a503), .unset, .unset, .unset, .unset, .unset, .unset] [])
  refine own_aload C (pc' := 77) at_75 rfl rfl rfl ?_
  refine own_iconst C (pc' := 78) (v := (3 : Int32)) at_77 rfl (by decide) ?_
  refine own_iconst C (pc' := 79) (v := (4 : Int32)) at_78 rfl (by decide) ?_
  refine own_callS C (pc' := 82) (y := (⟨"com/example/serialis/serialis/graph/IntMinHeapRemoveSmallestPinLaw", "cx", "([III)V"⟩ : MethodName)) (argsL := [(.ref a503), (.int (3 : Int32)), (.int (4 : Int32))]) (rest := []) 0 (hw _ (List.mem_of_getElem? (i := 1) rfl)) (hw _ (List.mem_of_getElem? (i := 2) rfl)) (hw _ (List.mem_of_getElem? (i := 3) rfl)) (hw _ (List.mem_of_getElem? (i := 4) rfl)) (by decide) (own_m1 hw a503 (own_upd (own_upd (own_upd (own_upd (own_upd (own_upd (own_upd (own_upd (own_upd (own_upd (own_upd (own_upd (own_upd (own_upd (own_upd (own_upd (own_upd (own_upd (own_upd (fun _ => (0 : Int32)) 0 p0) 1 p1) 2 p2) 3 p3) 4 p4) 0 y537) 3 y538) 1 y548) 4 y549) 0 y559) 2 y560) 1 y570) 3 y571) 0 y581) 1 y582) 2 y592) 4 y593) 1 y603) 2 y604) (3 : Int32) (4 : Int32) 3 4 y571 y593 Z610 ga505 F606 (by decide) (by decide) (by decide) (by decide) (by decide) rfl rfl) (by decide) (by decide) (lenOf own_pd0 rfl) rfl (Nat.le_of_eq rfl) at_79 rfl rfl (by decide) (by decide) (fun v611 h612 hq613 => ?_)
  obtain ⟨y614, y615, rfl, K616, F617, g618, g619⟩ := hq613
  have Z621 : n0 ≤ h612.size := Nat.le_trans Z610 K616.1
  show own_Run p_ l e_ _ s_ m_ _ b_ mt_ c_ n0 _ h612 _ _ (mkF m_ 82 #[.val (.int p0), .val (.int p1), .val (.int p2), .val (.int p3), .val (.int p4), .val (.ref a503), .unset, .unset, .unset, .unset, .unset, .unset] [])
  refine own_aload C (pc' := 84) at_82 rfl rfl rfl ?_
  refine own_iconst C (pc' := 85) (v := (2 : Int32)) at_84 rfl (by decide) ?_
  refine own_iconst C (pc' := 86) (v := (3 : Int32)) at_85 rfl (by decide) ?_
  refine own_callS C (pc' := 89) (y := (⟨"com/example/serialis/serialis/graph/IntMinHeapRemoveSmallestPinLaw", "cx", "([III)V"⟩ : MethodName)) (argsL := [(.ref a503), (.int (2 : Int32)), (.int (3 : Int32))]) (rest := []) 0 (hw _ (List.mem_of_getElem? (i := 1) rfl)) (hw _ (List.mem_of_getElem? (i := 2) rfl)) (hw _ (List.mem_of_getElem? (i := 3) rfl)) (hw _ (List.mem_of_getElem? (i := 4) rfl)) (by decide) (own_m1 hw a503 (own_upd (own_upd (own_upd (own_upd (own_upd (own_upd (own_upd (own_upd (own_upd (own_upd (own_upd (own_upd (own_upd (own_upd (own_upd (own_upd (own_upd (own_upd (own_upd (own_upd (own_upd (fun _ => (0 : Int32)) 0 p0) 1 p1) 2 p2) 3 p3) 4 p4) 0 y537) 3 y538) 1 y548) 4 y549) 0 y559) 2 y560) 1 y570) 3 y571) 0 y581) 1 y582) 2 y592) 4 y593) 1 y603) 2 y604) 3 y614) 4 y615) (2 : Int32) (3 : Int32) 2 3 y604 y614 Z621 ga505 F617 (by decide) (by decide) (by decide) (by decide) (by decide) rfl rfl) (by decide) (by decide) (lenOf own_pd0 rfl) rfl (Nat.le_of_eq rfl) at_86 rfl rfl (by decide) (by decide) (fun v622 h623 hq624 => ?_)
  obtain ⟨y625, y626, rfl, K627, F628, g629, g630⟩ := hq624
  have Z632 : n0 ≤ h623.size := Nat.le_trans Z621 K627.1
  show own_Run p_ l e_ _ s_ m_ _ b_ mt_ c_ n0 _ h623 _ _ (mkF m_ 89 #[.val (.int p0), .val (.int p1), .val (.int p2), .val (.int p3), .val (.int p4), .val (.ref a503), .unset, .unset, .unset, .unset, .unset, .unset] [])
  refine own_new C (pc' := 92) (hw _ (List.mem_of_getElem? (i := 5) rfl)) (hw _ (List.mem_of_getElem? (i := 6) rfl)) (hw _ (List.mem_of_getElem? (i := 7) rfl)) Z632 at_89 rfl (by decide) (by decide) (fun h633 a634 ea635 ga636 Z637 E638 A639 D640 => ?_)
  have ne641 : a503 ≠ a634 := by rw [ea635]; exact Nat.ne_of_lt (own_A.lt F628)
  have F642 : own_AI Z h633 a503 5 (own_upd (own_upd (own_upd (own_upd (own_upd (own_upd (own_upd (own_upd (own_upd (own_upd (own_upd (own_upd (own_upd (own_upd (own_upd (own_upd (own_upd (own_upd (own_upd (own_upd (own_upd (own_upd (own_upd (fun _ => (0 : Int32)) 0 p0) 1 p1) 2 p2) 3 p3) 4 p4) 0 y537) 3 y538) 1 y548) 4 y549) 0 y559) 2 y560) 1 y570) 3 y571) 0 y581) 1 y582) 2 y592) 4 y593) 1 y603) 2 y604) 3 y614) 4 y615) 2 y625) 3 y626) := own_A.ext F628 E638
  have F643 : Fld Z h633 a634 "com/example/serialis/serialis/graph/IntMinHeap" "heap" "[I" .null := D640 (Or.inr (hw _ (List.mem_of_getElem? (i := 15) rfl))) (ty := (.array .int)) (by decide)
  have F644 : Fld Z h633 a634 "com/example/serialis/serialis/graph/IntMinHeap" "size" "I" (.int (0 : Int32)) := D640 (Or.inl (hw _ (List.mem_of_getElem? (i := 22) rfl))) (ty := .int) (by decide)
  refine own_dup C (pc' := 93) at_92 rfl rfl ?_
  refine own_iconst C (pc' := 94) (v := (5 : Int32)) at_93 rfl (by decide) ?_
  refine own_callN C (pc' := 97) (y := (⟨"com/example/serialis/serialis/graph/IntMinHeap", "<init>", "(I)V"⟩ : MethodName)) (a := a634) (argsL := [(.int (5 : Int32))]) (rest := [(.ref a634)]) 1 rfl (hw _ (List.mem_of_getElem? (i := 8) rfl)) (hw _ (List.mem_of_getElem? (i := 9) rfl)) (hw _ (List.mem_of_getElem? (i := 10) rfl)) (hw _ (List.mem_of_getElem? (i := 7) rfl)) (by decide) (own_m2 hw a634 Z637 A639 ga636 F643 F644 ) (by decide) (by decide) (lenOf own_pd1 rfl) rfl (Nat.le_of_eq rfl) at_94 rfl rfl (by decide) (by decide) (fun v645 h646 hq647 => ?_)
  obtain ⟨a648, rfl, K649, ⟨ga650, gk651⟩, F652, F653, F654, F655, F656⟩ := hq647
  have ne657 : a503 ≠ a648 := Nat.ne_of_lt (Nat.lt_of_lt_of_le (own_A.lt F642) gk651)
  have ne658 : a634 ≠ a648 := Nat.ne_of_lt (Nat.lt_of_lt_of_le (Exa.lt A639) gk651)
  have Z660 : n0 ≤ h646.size := Nat.le_trans Z637 K649.1
  have F661 : own_AI Z h646 a503 5 (own_upd (own_upd (own_upd (own_upd (own_upd (own_upd (own_upd (own_upd (own_upd (own_upd (own_upd (own_upd (own_upd (own_upd (own_upd (own_upd (own_upd (own_upd (own_upd (own_upd (own_upd (own_upd (own_upd (fun _ => (0 : Int32)) 0 p0) 1 p1) 2 p2) 3 p3) 4 p4) 0 y537) 3 y538) 1 y548) 4 y549) 0 y559) 2 y560) 1 y570) 3 y571) 0 y581) 1 y582) 2 y592) 4 y593) 1 y603) 2 y604) 3 y614) 4 y615) 2 y625) 3 y626) := own_A.keep F642 K649 (ninS ne641 nin0)
  have F662 : Exa Z h646 a634 "com/example/serialis/serialis/graph/IntMinHeap" := Exa.keep A639 K649
  show own_Run p_ l e_ _ s_ m_ _ b_ mt_ c_ n0 _ h646 _ _ (mkF m_ 97 #[.val (.int p0), .val (.int p1), .val (.int p2), .val (.int p3), .val (.int p4), .val (.ref a503), .unset, .unset, .unset, .unset, .unset, .unset] [(.ref a634)])
  refine own_astore C (pc' := 99) (Ls' := #[.val (.int p0), .val (.int p1), .val (.int p2), .val (.int p3), .val (.int p4), .val (.ref a503), .val (.ref a634), .unset, .unset, .unset, .unset, .unset]) at_97 rfl rfl rfl ?_
  refine own_aload C (pc' := 101) at_99 rfl rfl rfl ?_
  refine own_iloadN C (pc' := 102) at_101 rfl rfl ?_
  refine own_callV C (pc' := 105) (y := (⟨"com/example/serialis/serialis/graph/IntMinHeap", "add", "(I)V"⟩ : MethodName)) (a := a634) (argsL := [(.int p0)]) (rest := []) 0 F652 (hw _ (List.mem_of_getElem? (i := 16) rfl)) (hw _ (List.mem_of_getElem? (i := 17) rfl)) (hw _ (List.mem_of_getElem? (i := 19) rfl)) (hw _ (List.mem_of_getElem? (i := 18) rfl)) (hw _ (List.mem_of_getElem? (i := 20) rfl)) (hw _ (List.mem_of_getElem? (i := 7) rfl)) (by decide) (own_add0 hw a634 a648 (fun _ => (0 : Int32)) p0 Z660 F652 ga636 ga650 ne658 F653 F654 F655 (fun i hi => absurd hi (Nat.not_lt_zero i))) (by decide) (by decide) (lenOf own_pd1 rfl) rfl (Nat.le_of_eq rfl) at_102 rfl rfl (by decide) (by decide) (fun v663 h664 hq665 => ?_)
  obtain ⟨y666, rfl, K667, F668, F669, F670, F671, g672, g673⟩ := hq665
  have Z675 : n0 ≤ h664.size := Nat.le_trans Z660 K667.1
  have F676 : own_AI Z h664 a503 5 (own_upd (own_upd (own_upd (own_upd (own_upd (own_upd (own_upd (own_upd (own_upd (own_upd (own_upd (own_upd (own_upd (own_upd (own_upd (own_upd (own_upd (own_upd (own_upd (own_upd (own_upd (own_upd (own_upd (fun _ => (0 : Int32)) 0 p0) 1 p1) 2 p2) 3 p3) 4 p4) 0 y537) 3 y538) 1 y548) 4 y549) 0 y559) 2 y560) 1 y570) 3 y571) 0 y581) 1 y582) 2 y592) 4 y593) 1 y603) 2 y604) 3 y614) 4 y615) 2 y625) 3 y626) := own_A.keep F661 K667 (ninS ne641 (ninS ne657 nin0))
  have F677 : Exa Z h664 a634 "com/example/serialis/serialis/graph/IntMinHeap" := Exa.keep F652 K667
  show own_Run p_ l e_ _ s_ m_ _ b_ mt_ c_ n0 _ h664 _ _ (mkF m_ 105 #[.val (.int p0), .val (.int p1), .val (.int p2), .val (.int p3), .val (.int p4), .val (.ref a503), .val (.ref a634), .unset, .unset, .unset, .unset, .unset] [])
  refine own_aload C (pc' := 107) at_105 rfl rfl rfl ?_
  refine own_iloadN C (pc' := 108) at_107 rfl rfl ?_
  refine own_callV C (pc' := 111) (y := (⟨"com/example/serialis/serialis/graph/IntMinHeap", "add", "(I)V"⟩ : MethodName)) (a := a634) (argsL := [(.int p1)]) (rest := []) 0 F668 (hw _ (List.mem_of_getElem? (i := 16) rfl)) (hw _ (List.mem_of_getElem? (i := 17) rfl)) (hw _ (List.mem_of_getElem? (i := 19) rfl)) (hw _ (List.mem_of_getElem? (i := 18) rfl)) (hw _ (List.mem_of_getElem? (i := 20) rfl)) (hw _ (List.mem_of_getElem? (i := 7) rfl)) (by decide) (own_add1 hw a634 a648 y666 p1 Z675 F668 ga636 ga650 ne658 F669 F670 F671 g672) (by decide) (by decide) (lenOf own_pd1 rfl) rfl (Nat.le_of_eq rfl) at_108 rfl rfl (by decide) (by decide) (fun v678 h679 hq680 => ?_)
  obtain ⟨y681, rfl, K682, F683, F684, F685, F686, g687, g688⟩ := hq680
  have Z690 : n0 ≤ h679.size := Nat.le_trans Z675 K682.1
  have F691 : own_AI Z h679 a503 5 (own_upd (own_upd (own_upd (own_upd (own_upd (own_upd (own_upd (own_upd (own_upd (own_upd (own_upd (own_upd (own_upd (own_upd (own_upd (own_upd (own_upd (own_upd (own_upd (own_upd (own_upd (own_upd (own_upd (fun _ => (0 : Int32)) 0 p0) 1 p1) 2 p2) 3 p3) 4 p4) 0 y537) 3 y538) 1 y548) 4 y549) 0 y559) 2 y560) 1 y570) 3 y571) 0 y581) 1 y582) 2 y592) 4 y593) 1 y603) 2 y604) 3 y614) 4 y615) 2 y625) 3 y626) := own_A.keep F676 K682 (ninS ne641 (ninS ne657 nin0))
  have F692 : Exa Z h679 a634 "com/example/serialis/serialis/graph/IntMinHeap" := Exa.keep F668 K682
  show own_Run p_ l e_ _ s_ m_ _ b_ mt_ c_ n0 _ h679 _ _ (mkF m_ 111 #[.val (.int p0), .val (.int p1), .val (.int p2), .val (.int p3), .val (.int p4), .val (.ref a503), .val (.ref a634), .unset, .unset, .unset, .unset, .unset] [])
  refine own_aload C (pc' := 113) at_111 rfl rfl rfl ?_
  refine own_iloadN C (pc' := 114) at_113 rfl rfl ?_
  refine own_callV C (pc' := 117) (y := (⟨"com/example/serialis/serialis/graph/IntMinHeap", "add", "(I)V"⟩ : MethodName)) (a := a634) (argsL := [(.int p2)]) (rest := []) 0 F683 (hw _ (List.mem_of_getElem? (i := 16) rfl)) (hw _ (List.mem_of_getElem? (i := 17) rfl)) (hw _ (List.mem_of_getElem? (i := 19) rfl)) (hw _ (List.mem_of_getElem? (i := 18) rfl)) (hw _ (List.mem_of_getElem? (i := 20) rfl)) (hw _ (List.mem_of_getElem? (i := 7) rfl)) (by decide) (own_add2 hw a634 a648 y681 p2 Z690 F683 ga636 ga650 ne658 F684 F685 F686 g687) (by decide) (by decide) (lenOf own_pd1 rfl) rfl (Nat.le_of_eq rfl) at_114 rfl rfl (by decide) (by decide) (fun v693 h694 hq695 => ?_)
  obtain ⟨y696, rfl, K697, F698, F699, F700, F701, g702, g703⟩ := hq695
  have Z705 : n0 ≤ h694.size := Nat.le_trans Z690 K697.1
  have F706 : own_AI Z h694 a503 5 (own_upd (own_upd (own_upd (own_upd (own_upd (own_upd (own_upd (own_upd (own_upd (own_upd (own_upd (own_upd (own_upd (own_upd (own_upd (own_upd (own_upd (own_upd (own_upd (own_upd (own_upd (own_upd (own_upd (fun _ => (0 : Int32)) 0 p0) 1 p1) 2 p2) 3 p3) 4 p4) 0 y537) 3 y538) 1 y548) 4 y549) 0 y559) 2 y560) 1 y570) 3 y571) 0 y581) 1 y582) 2 y592) 4 y593) 1 y603) 2 y604) 3 y614) 4 y615) 2 y625) 3 y626) := own_A.keep F691 K697 (ninS ne641 (ninS ne657 nin0))
  have F707 : Exa Z h694 a634 "com/example/serialis/serialis/graph/IntMinHeap" := Exa.keep F683 K697
  show own_Run p_ l e_ _ s_ m_ _ b_ mt_ c_ n0 _ h694 _ _ (mkF m_ 117 #[.val (.int p0), .val (.int p1), .val (.int p2), .val (.int p3), .val (.int p4), .val (.ref a503), .val (.ref a634), .unset, .unset, .unset, .unset, .unset] [])
  refine own_aload C (pc' := 119) at_117 rfl rfl rfl ?_
  refine own_iloadN C (pc' := 120) at_119 rfl rfl ?_
  refine own_callV C (pc' := 123) (y := (⟨"com/example/serialis/serialis/graph/IntMinHeap", "add", "(I)V"⟩ : MethodName)) (a := a634) (argsL := [(.int p3)]) (rest := []) 0 F698 (hw _ (List.mem_of_getElem? (i := 16) rfl)) (hw _ (List.mem_of_getElem? (i := 17) rfl)) (hw _ (List.mem_of_getElem? (i := 19) rfl)) (hw _ (List.mem_of_getElem? (i := 18) rfl)) (hw _ (List.mem_of_getElem? (i := 20) rfl)) (hw _ (List.mem_of_getElem? (i := 7) rfl)) (by decide) (own_add3 hw a634 a648 y696 p3 Z705 F698 ga636 ga650 ne658 F699 F700 F701 g702) (by decide) (by decide) (lenOf own_pd1 rfl) rfl (Nat.le_of_eq rfl) at_120 rfl rfl (by decide) (by decide) (fun v708 h709 hq710 => ?_)
  obtain ⟨y711, rfl, K712, F713, F714, F715, F716, g717, g718⟩ := hq710
  have Z720 : n0 ≤ h709.size := Nat.le_trans Z705 K712.1
  have F721 : own_AI Z h709 a503 5 (own_upd (own_upd (own_upd (own_upd (own_upd (own_upd (own_upd (own_upd (own_upd (own_upd (own_upd (own_upd (own_upd (own_upd (own_upd (own_upd (own_upd (own_upd (own_upd (own_upd (own_upd (own_upd (own_upd (fun _ => (0 : Int32)) 0 p0) 1 p1) 2 p2) 3 p3) 4 p4) 0 y537) 3 y538) 1 y548) 4 y549) 0 y559) 2 y560) 1 y570) 3 y571) 0 y581) 1 y582) 2 y592) 4 y593) 1 y603) 2 y604) 3 y614) 4 y615) 2 y625) 3 y626) := own_A.keep F706 K712 (ninS ne641 (ninS ne657 nin0))
  have F722 : Exa Z h709 a634 "com/example/serialis/serialis/graph/IntMinHeap" := Exa.keep F698 K712
  show own_Run p_ l e_ _ s_ m_ _ b_ mt_ c_ n0 _ h709 _ _ (mkF m_ 123 #[.val (.int p0), .val (.int p1), .val (.int p2), .val (.int p3), .val (.int p4), .val (.ref a503), .val (.ref a634), .unset, .unset, .unset, .unset, .unset] [])
  refine own_aload C (pc' := 125) at_123 rfl rfl rfl ?_
  refine own_iload C (pc' := 127) at_125 rfl rfl ?_
  refine own_callV C (pc' := 130) (y := (⟨"com/example/serialis/serialis/graph/IntMinHeap", "add", "(I)V"⟩ : MethodName)) (a := a634) (argsL := [(.int p4)]) (rest := []) 0 F713 (hw _ (List.mem_of_getElem? (i := 16) rfl)) (hw _ (List.mem_of_getElem? (i := 17) rfl)) (hw _ (List.mem_of_getElem? (i := 19) rfl)) (hw _ (List.mem_of_getElem? (i := 18) rfl)) (hw _ (List.mem_of_getElem? (i := 20) rfl)) (hw _ (List.mem_of_getElem? (i := 7) rfl)) (by decide) (own_add4 hw a634 a648 y711 p4 Z720 F713 ga636 ga650 ne658 F714 F715 F716 g717) (by decide) (by decide) (lenOf own_pd1 rfl) rfl (Nat.le_of_eq rfl) at_127 rfl rfl (by decide) (by decide) (fun v723 h724 hq725 => ?_)
  obtain ⟨y726, rfl, K727, F728, F729, F730, F731, g732, g733⟩ := hq725
  have Z735 : n0 ≤ h724.size := Nat.le_trans Z720 K727.1
  have F736 : own_AI Z h724 a503 5 (own_upd (own_upd (own_upd (own_upd (own_upd (own_upd (own_upd (own_upd (own_upd (own_upd (own_upd (own_upd (own_upd (own_upd (own_upd (own_upd (own_upd (own_upd (own_upd (own_upd (own_upd (own_upd (own_upd (fun _ => (0 : Int32)) 0 p0) 1 p1) 2 p2) 3 p3) 4 p4) 0 y537) 3 y538) 1 y548) 4 y549) 0 y559) 2 y560) 1 y570) 3 y571) 0 y581) 1 y582) 2 y592) 4 y593) 1 y603) 2 y604) 3 y614) 4 y615) 2 y625) 3 y626) := own_A.keep F721 K727 (ninS ne641 (ninS ne657 nin0))
  have F737 : Exa Z h724 a634 "com/example/serialis/serialis/graph/IntMinHeap" := Exa.keep F713 K727
  show own_Run p_ l e_ _ s_ m_ _ b_ mt_ c_ n0 _ h724 _ _ (mkF m_ 130 #[.val (.int p0), .val (.int p1), .val (.int p2), .val (.int p3), .val (.int p4), .val (.ref a503), .val (.ref a634), .unset, .unset, .unset, .unset, .unset] [])
  refine own_aload C (pc' := 132) at_130 rfl rfl rfl ?_
  refine own_callV C (pc' := 135) (y := (⟨"com/example/serialis/serialis/graph/IntMinHeap", "removeSmallest", "()I"⟩ : MethodName)) (a := a634) (argsL := []) (rest := []) 0 F728 (hw _ (List.mem_of_getElem? (i := 23) rfl)) (hw _ (List.mem_of_getElem? (i := 24) rfl)) (hw _ (List.mem_of_getElem? (i := 26) rfl)) (hw _ (List.mem_of_getElem? (i := 25) rfl)) (hw _ (List.mem_of_getElem? (i := 27) rfl)) (hw _ (List.mem_of_getElem? (i := 7) rfl)) (by decide) (own_rem5 hw a634 a648 y726 Z735 F728 ga636 ga650 ne658 F729 F730 F731 g732) (by decide) (by decide) (lenOf own_pd2 rfl) rfl (Nat.le_of_eq rfl) at_132 rfl rfl (by decide) (by decide) (fun v738 h739 hq740 => ?_)
  obtain ⟨y741, rfl, K742, F743, F744, F745, F746, g747, g748, g749⟩ := hq740
  have Z751 : n0 ≤ h739.size := Nat.le_trans Z735 K742.1
  have F752 : own_AI Z h739 a503 5 (own_upd (own_upd (own_upd (own_upd (own_upd (own_upd (own_upd (own_upd (own_upd (own_upd (own_upd (own_upd (own_upd (own_upd (own_upd (own_upd (own_upd (own_upd (own_upd (own_upd (own_upd (own_upd (own_upd (fun _ => (0 : Int32)) 0 p0) 1 p1) 2 p2) 3 p3) 4 p4) 0 y537) 3 y538) 1 y548) 4 y549) 0 y559) 2 y560) 1 y570) 3 y571) 0 y581) 1 y582) 2 y592) 4 y593) 1 y603) 2 y604) 3 y614) 4 y615) 2 y625) 3 y626) := own_A.keep F736 K742 (ninS ne641 (ninS ne657 nin0))
  have F753 : Exa Z h739 a634 "com/example/serialis/serialis/graph/IntMinHeap" := Exa.keep F728 K742
  show own_Run p_ l e_ _ s_ m_ _ b_ mt_ c_ n0 _ h739 _ _ (mkF m_ 135 #[.val (.int p0), .val (.int p1), .val (.int p2), .val (.int p3), .val (.int p4), .val (.ref a503), .val (.ref a634), .unset, .unset, .unset, .unset, .unset] [(.int (y726 0))])
  refine own_istore C (pc' := 137) (Ls' := #[.val (.int p0), .val (.int p1), .val (.int p2), .val (.int p3), .val (.int p4), .val (.ref a503), .val (.ref a634), .val (.int (y726 0)), .unset, .unset, .unset, .unset]) at_135 rfl rfl ?_
  refine own_aload C (pc' := 139) at_137 rfl rfl rfl ?_
  refine own_callV C (pc' := 142) (y := (⟨"com/example/serialis/serialis/graph/IntMinHeap", "removeSmallest", "()I"⟩ : MethodName)) (a := a634) (argsL := []) (rest := []) 0 F743 (hw _ (List.mem_of_getElem? (i := 23) rfl)) (hw _ (List.mem_of_getElem? (i := 24) rfl)) (hw _ (List.mem_of_getElem? (i := 26) rfl)) (hw _ (List.mem_of_getElem? (i := 25) rfl)) (hw _ (List.mem_of_getElem? (i := 27) rfl)) (hw _ (List.mem_of_getElem? (i := 7) rfl)) (by decide) (own_rem4 hw a634 a648 y741 Z751 F743 ga636 ga650 ne658 F744 F745 F746 g747) (by decide) (by decide) (lenOf own_pd2 rfl) rfl (Nat.le_of_eq rfl) at_139 rfl rfl (by decide) (by decide) (fun v754 h755 hq756 => ?_)
  obtain ⟨y757, rfl, K758, F759, F760, F761, F762, g763, g764, g765⟩ := hq756
  have Z767 : n0 ≤ h755.size := Nat.le_trans Z751 K758.1
  have F768 : own_AI Z h755 a503 5 (own_upd (own_upd (own_upd (own_upd (own_upd (own_upd (own_upd (own_upd (own_upd (own_upd (own_upd (own_upd (own_upd (own_upd (own_upd (own_upd (own_upd (own_upd (own_upd (own_upd (own_upd (own_upd (own_upd (fun _ => (0 : Int32)) 0 p0) 1 p1) 2 p2) 3 p3) 4 p4) 0 y537) 3 y538) 1 y548) 4 y549) 0 y559) 2 y560) 1 y570) 3 y571) 0 y581) 1 y582) 2 y592) 4 y593) 1 y603) 2 y604) 3 y614) 4 y615) 2 y625) 3 y626) := own_A.keep F752 K758 (ninS ne641 (ninS ne657 nin0))
  have F769 : Exa Z h755 a634 "com/example/serialis/serialis/graph/IntMinHeap" := Exa.keep F743 K758
  show own_Run p_ l e_ _ s_ m_ _ b_ mt_ c_ n0 _ h755 _ _ (mkF m_ 142 #[.val (.int p0), .val (.int p1), .val (.int p2), .val (.int p3), .val (.int p4), .val (.ref a503), .val (.ref a634), .val (.int (y726 0)), .unset, .unset, .unset, .unset] [(.int (y741 0))])
  refine own_istore C (pc' := 144) (Ls' := #[.val (.int p0), .val (.int p1), .val (.int p2), .val (.int p3), .val (.int p4), .val (.ref a503), .val (.ref a634), .val (.int (y726 0)), .val (.int (y741 0)), .unset, .unset, .unset]) at_142 rfl rfl ?_
  refine own_aload C (pc' := 146) at_144 rfl rfl rfl ?_
  refine own_callV C (pc' := 149) (y := (⟨"com/example/serialis/serialis/graph/IntMinHeap", "removeSmallest", "()I"⟩ : MethodName)) (a := a634) (argsL := []) (rest := []) 0 F759 (hw _ (List.mem_of_getElem? (i := 23) rfl)) (hw _ (List.mem_of_getElem? (i := 24) rfl)) (hw _ (List.mem_of_getElem? (i := 26) rfl)) (hw _ (List.mem_of_getElem? (i := 25) rfl)) (hw _ (List.mem_of_getElem? (i := 27) rfl)) (hw _ (List.mem_of_getElem? (i := 7) rfl)) (by decide) (own_rem3 hw a634 a648 y757 Z767 F759 ga636 ga650 ne658 F760 F761 F762 g763) (by decide) (by decide) (lenOf own_pd2 rfl) rfl (Nat.le_of_eq rfl) at_146 rfl rfl (by decide) (by decide) (fun v770 h771 hq772 => ?_)
  obtain ⟨y773, rfl, K774, F775, F776, F777, F778, g779, g780, g781⟩ := hq772
  have Z783 : n0 ≤ h771.size := Nat.le_trans Z767 K774.1
  have F784 : own_AI Z h771 a503 5 (own_upd (own_upd (own_upd (own_upd (own_upd (own_upd (own_upd (own_upd (own_upd (own_upd (own_upd (own_upd (own_upd (own_upd (own_upd (own_upd (own_upd (own_upd (own_upd (own_upd (own_upd (own_upd (own_upd (fun _ => (0 : Int32)) 0 p0) 1 p1) 2 p2) 3 p3) 4 p4) 0 y537) 3 y538) 1 y548) 4 y549) 0 y559) 2 y560) 1 y570) 3 y571) 0 y581) 1 y582) 2 y592) 4 y593) 1 y603) 2 y604) 3 y614) 4 y615) 2 y625) 3 y626) := own_A.keep F768 K774 (ninS ne641 (ninS ne657 nin0))
  have F785 : Exa Z h771 a634 "com/example/serialis/serialis/graph/IntMinHeap" := Exa.keep F759 K774
  show own_Run p_ l e_ _ s_ m_ _ b_ mt_ c_ n0 _ h771 _ _ (mkF m_ 149 #[.val (.int p0), .val (.int p1), .val (.int p2), .val (.int p3), .val (.int p4), .val (.ref a503), .val (.ref a634), .val (.int (y726 0)), .val (.int (y741 0)), .unset, .unset, .unset] [(.int (y757 0))])
  refine own_istore C (pc' := 151) (Ls' := #[.val (.int p0), .val (.int p1), .val (.int p2), .val (.int p3), .val (.int p4), .val (.ref a503), .val (.ref a634), .val (.int (y726 0)), .val (.int (y741 0)), .val (.int (y757 0)), .unset, .unset]) at_149 rfl rfl ?_
  refine own_aload C (pc' := 153) at_151 rfl rfl rfl ?_
  refine own_callV C (pc' := 156) (y := (⟨"com/example/serialis/serialis/graph/IntMinHeap", "removeSmallest", "()I"⟩ : MethodName)) (a := a634) (argsL := []) (rest := []) 0 F775 (hw _ (List.mem_of_getElem? (i := 23) rfl)) (hw _ (List.mem_of_getElem? (i := 24) rfl)) (hw _ (List.mem_of_getElem? (i := 26) rfl)) (hw _ (List.mem_of_getElem? (i := 25) rfl)) (hw _ (List.mem_of_getElem? (i := 27) rfl)) (hw _ (List.mem_of_getElem? (i := 7) rfl)) (by decide) (own_rem2 hw a634 a648 y773 Z783 F775 ga636 ga650 ne658 F776 F777 F778 g779) (by decide) (by decide) (lenOf own_pd2 rfl) rfl (Nat.le_of_eq rfl) at_153 rfl rfl (by decide) (by decide) (fun v786 h787 hq788 => ?_)
  obtain ⟨y789, rfl, K790, F791, F792, F793, F794, g795, g796, g797⟩ := hq788
  have Z799 : n0 ≤ h787.size := Nat.le_trans Z783 K790.1
  have F800 : own_AI Z h787 a503 5 (own_upd (own_upd (own_upd (own_upd (own_upd (own_upd (own_upd (own_upd (own_upd (own_upd (own_upd (own_upd (own_upd (own_upd (own_upd (own_upd (own_upd (own_upd (own_upd (own_upd (own_upd (own_upd (own_upd (fun _ => (0 : Int32)) 0 p0) 1 p1) 2 p2) 3 p3) 4 p4) 0 y537) 3 y538) 1 y548) 4 y549) 0 y559) 2 y560) 1 y570) 3 y571) 0 y581) 1 y582) 2 y592) 4 y593) 1 y603) 2 y604) 3 y614) 4 y615) 2 y625) 3 y626) := own_A.keep F784 K790 (ninS ne641 (ninS ne657 nin0))
  have F801 : Exa Z h787 a634 "com/example/serialis/serialis/graph/IntMinHeap" := Exa.keep F775 K790
  show own_Run p_ l e_ _ s_ m_ _ b_ mt_ c_ n0 _ h787 _ _ (mkF m_ 156 #[.val (.int p0), .val (.int p1), .val (.int p2), .val (.int p3), .val (.int p4), .val (.ref a503), .val (.ref a634), .val (.int (y726 0)), .val (.int (y741 0)), .val (.int (y757 0)), .unset, .unset] [(.int (y773 0))])
  refine own_istore C (pc' := 158) (Ls' := #[.val (.int p0), .val (.int p1), .val (.int p2), .val (.int p3), .val (.int p4), .val (.ref a503), .val (.ref a634), .val (.int (y726 0)), .val (.int (y741 0)), .val (.int (y757 0)), .val (.int (y773 0)), .unset]) at_156 rfl rfl ?_
  refine own_aload C (pc' := 160) at_158 rfl rfl rfl ?_
  refine own_callV C (pc' := 163) (y := (⟨"com/example/serialis/serialis/graph/IntMinHeap", "removeSmallest", "()I"⟩ : MethodName)) (a := a634) (argsL := []) (rest := []) 0 F791 (hw _ (List.mem_of_getElem? (i := 23) rfl)) (hw _ (List.mem_of_getElem? (i := 24) rfl)) (hw _ (List.mem_of_getElem? (i := 26) rfl)) (hw _ (List.mem_of_getElem? (i := 25) rfl)) (hw _ (List.mem_of_getElem? (i := 27) rfl)) (hw _ (List.mem_of_getElem? (i := 7) rfl)) (by decide) (own_rem1 hw a634 a648 y789 Z799 F791 ga636 ga650 ne658 F792 F793 F794 g795) (by decide) (by decide) (lenOf own_pd2 rfl) rfl (Nat.le_of_eq rfl) at_160 rfl rfl (by decide) (by decide) (fun v802 h803 hq804 => ?_)
  obtain ⟨y805, rfl, K806, F807, F808, F809, F810, g811, g812, g813⟩ := hq804
  have Z815 : n0 ≤ h803.size := Nat.le_trans Z799 K806.1
  have F816 : own_AI Z h803 a503 5 (own_upd (own_upd (own_upd (own_upd (own_upd (own_upd (own_upd (own_upd (own_upd (own_upd (own_upd (own_upd (own_upd (own_upd (own_upd (own_upd (own_upd (own_upd (own_upd (own_upd (own_upd (own_upd (own_upd (fun _ => (0 : Int32)) 0 p0) 1 p1) 2 p2) 3 p3) 4 p4) 0 y537) 3 y538) 1 y548) 4 y549) 0 y559) 2 y560) 1 y570) 3 y571) 0 y581) 1 y582) 2 y592) 4 y593) 1 y603) 2 y604) 3 y614) 4 y615) 2 y625) 3 y626) := own_A.keep F800 K806 (ninS ne641 (ninS ne657 nin0))
  have F817 : Exa Z h803 a634 "com/example/serialis/serialis/graph/IntMinHeap" := Exa.keep F791 K806
  show own_Run p_ l e_ _ s_ m_ _ b_ mt_ c_ n0 _ h803 _ _ (mkF m_ 163 #[.val (.int p0), .val (.int p1), .val (.int p2), .val (.int p3), .val (.int p4), .val (.ref a503), .val (.ref a634), .val (.int (y726 0)), .val (.int (y741 0)), .val (.int (y757 0)), .val (.int (y773 0)), .unset] [(.int (y789 0))])
  refine own_istore C (pc' := 165) (Ls' := #[.val (.int p0), .val (.int p1), .val (.int p2), .val (.int p3), .val (.int p4), .val (.ref a503), .val (.ref a634), .val (.int (y726 0)), .val (.int (y741 0)), .val (.int (y757 0)), .val (.int (y773 0)), .val (.int (y789 0))]) at_163 rfl rfl ?_
  have so1 : own_so [(y726 0), (y741 0), (y757 0), (y773 0), (y789 0)] := own_chain5 ⟨g749, g765, g781, g797⟩
  have so2 : own_so [y581, y603, y625, y626, y615] := own_chain5 (own_net g541 g552 g563 g574 g585 g596 g607 g618 g629 g542 g553 g564 g575 g586 g597 g608 g619 g630)
  have hc : ∀ v, own_lc [(y726 0), (y741 0), (y757 0), (y773 0), (y789 0)] v = own_lc [y581, y603, y625, y626, y615] v := by
    intro v
    have q0 := g673 v
    have q1 := g688 v
    have q2 := g703 v
    have q3 := g718 v
    have q4 := g733 v
    have q5 := g748 v
    have q6 := g764 v
    have q7 := g780 v
    have q8 := g796 v
    have q9 := g812 v
    have t0 := own_sw g542 v
    have t1 := own_sw g553 v
    have t2 := own_sw g564 v
    have t3 := own_sw g575 v
    have t4 := own_sw g586 v
    have t5 := own_sw g597 v
    have t6 := own_sw g608 v
    have t7 := own_sw g619 v
    have t8 := own_sw g630 v
    show (own_one (y726 0) v + (own_one (y741 0) v + (own_one (y757 0) v + (own_one (y773 0) v + (own_one (y789 0) v + 0))))) = (own_one y581 v + (own_one y603 v + (own_one y625 v + (own_one y626 v + (own_one y615 v + 0)))))
    simp only [own_cnt] at *; omega
  have he := own_uniq _ _ so1 so2 hc
  simp only [List.cons.injEq, and_true] at he
  obtain ⟨he0, he1, he2, he3, he4⟩ := he
  refine own_iload C (pc' := 167) at_165 rfl rfl ?_
  refine own_aload C (pc' := 169) at_167 rfl rfl rfl ?_
  refine own_iconst C (pc' := 170) (v := (0 : Int32)) at_169 rfl (by decide) ?_
  refine own_ldIV C (pc' := 171) F816 (i := 0) (v := y581) (by decide) (by decide) rfl at_170 rfl ?_
  refine own_ii_ne C (pc1 := 214) (pc2 := 174) at_171 rfl rfl (fun c818 => absurd c818 (not_not_intro he0)) (fun c818 => ?_)
  refine own_iload C (pc' := 176) at_174 rfl rfl ?_
  refine own_aload C (pc' := 178) at_176 rfl rfl rfl ?_
  refine own_iconst C (pc' := 179) (v := (1 : Int32)) at_178 rfl (by decide) ?_
  refine own_ldIV C (pc' := 180) F816 (i := 1) (v := y603) (by decide) (by decide) rfl at_179 rfl ?_
  refine own_ii_ne C (pc1 := 214) (pc2 := 183) at_180 rfl rfl (fun c819 => absurd c819 (not_not_intro he1)) (fun c819 => ?_)
  refine own_iload C (pc' := 185) at_183 rfl rfl ?_
  refine own_aload C (pc' := 187) at_185 rfl rfl rfl ?_
  refine own_iconst C (pc' := 188) (v := (2 : Int32)) at_187 rfl (by decide) ?_
  refine own_ldIV C (pc' := 189) F816 (i := 2) (v := y625) (by decide) (by decide) rfl at_188 rfl ?_
  refine own_ii_ne C (pc1 := 214) (pc2 := 192) at_189 rfl rfl (fun c820 => absurd c820 (not_not_intro he2)) (fun c820 => ?_)
  refine own_iload C (pc' := 194) at_192 rfl rfl ?_
  refine own_aload C (pc' := 196) at_194 rfl rfl rfl ?_
  refine own_iconst C (pc' := 197) (v := (3 : Int32)) at_196 rfl (by decide) ?_
  refine own_ldIV C (pc' := 198) F816 (i := 3) (v := y626) (by decide) (by decide) rfl at_197 rfl ?_
  refine own_ii_ne C (pc1 := 214) (pc2 := 201) at_198 rfl rfl (fun c821 => absurd c821 (not_not_intro he3)) (fun c821 => ?_)
  refine own_iload C (pc' := 203) at_201 rfl rfl ?_
  refine own_aload C (pc' := 205) at_203 rfl rfl rfl ?_
  refine own_iconst C (pc' := 206) (v := (4 : Int32)) at_205 rfl (by decide) ?_
  refine own_ldIV C (pc' := 207) F816 (i := 4) (v := y615) (by decide) (by decide) rfl at_206 rfl ?_
  refine own_ii_ne C (pc1 := 214) (pc2 := 210) at_207 rfl rfl (fun c822 => absurd c822 (not_not_intro he4)) (fun c822 => ?_)
  refine own_iconst C (pc' := 211) (v := (1 : Int32)) at_210 rfl (by decide) ?_
  refine own_goto C (pc' := 215) at_211 rfl ?_
  exact own_ret C (t := .boolean) rfl rfl (Or.inl ⟨rfl, by simp, _, rfl⟩) at_215 (by decide) (by decide) (rfl)
set_option maxRecDepth 65536 in
set_option maxHeartbeats 40000000 in
theorem own_comes {Post : Tables → Env → Array Value → State → Outcome → State → Prop} (hpost : ∀ tb e args s v u, (limb_1_1.after args s (.returned v) u = true ∧ limb_1_2.after args s (.returned v) u = true ∧ True) → FrameEnd s (.returned v) u (Jvm.fieldLocs frame_1_writes args s ++ Jvm.arrayLocs frame_1_arrays args s ++ Jvm.staticLocs frame_1_statics s) 16 128 → Post tb e args s (.returned v) u) :
    ArmFor flags0 classFile x code maxLocals ret World_1 tables_1 room_1 Calls_1 rest_1 Pre_1 Post := by
  intro l hfl _ _ p e ha hc hk s m args below hf hA hF happ hP
  obtain ⟨hcalls, hrest, hpre⟩ := hP
  obtain ⟨-, -, -, hnamed, -, -, -, hat⟩ := (Spec.applies_iff hf).mp happ
  obtain ⟨hg, hn⟩ := and_e (Cond.before_iff.mp (show (Jvm.Cond.and given_1 narrow_1).before args s = true from hpre))
  obtain ⟨g0, r0⟩ := and_e hg
  obtain ⟨q0, r1⟩ := and_e r0
  obtain ⟨q1, r2⟩ := and_e r1
  obtain ⟨q2, r3⟩ := and_e r2
  obtain ⟨q3, r4⟩ := and_e r3
  obtain ⟨w0, w1, w2, w3, w4, rfl⟩ : ∃ w0 w1 w2 w3 w4 : Value, args = #[w0, w1, w2, w3, w4] := by
    have hs : args.size = 5 := by simpa [Cond.value, given_1] using g0
    obtain ⟨L⟩ := args
    match L, hs with
    | [w0, w1, w2, w3, w4], _ => exact ⟨w0, w1, w2, w3, w4, rfl⟩
  have hw := fun d (hd : d ∈ tables_1) => atoms_spec (ws := Jvm.Cond.code x code maxLocals ret :: tables_1) hat d (List.mem_cons_of_mem _ hd)
  obtain ⟨i0, ei0⟩ := is_v q0
  obtain rfl : w0 = (.int i0) := Option.some.inj ei0
  obtain ⟨i1, ei1⟩ := is_v q1
  obtain rfl : w1 = (.int i1) := Option.some.inj ei1
  obtain ⟨i2, ei2⟩ := is_v q2
  obtain rfl : w2 = (.int i2) := Option.some.inj ei2
  obtain ⟨i3, ei3⟩ := is_v q3
  obtain rfl : w3 = (.int i3) := Option.some.inj ei3
  obtain ⟨i4, ei4⟩ := is_v r4
  obtain rfl : w4 = (.int i4) := Option.some.inj ei4
  obtain ⟨n, o, h1, h2, h3, _, L, rfl, ⟨N, rfl⟩, hq⟩ := own_law (l := l) (Z := s) hw (n0 := s.heap.size) (ws := tables_1) (h := s.heap) i0 i1 i2 i3 i4 (Nat.le_refl _)  p e ha hc hk s m _ below hf ((Spec.applies_iff_loose hf).mp happ).1 ⟨rfl, State.Warmed39.refl s, rfl⟩ trivial
  refine ⟨n, _, h1, h2, h3, hpost _ _ _ _ _ _ ⟨Cond.after_iff.mpr rfl, Cond.after_iff.mpr (eq_i res_at (Term.int_eval (1)) rfl), trivial⟩ ⟨hq.1, hq.2.1, (hq.2.2.sift fun y hy => Or.inr (N y hy)).mono (by decide) (by decide)⟩⟩
theorem main_1_1 : Claimed_1_1 := own_comes fun _ _ _ _ _ _ h hF => ⟨h.1, hF⟩
theorem main_1_2 : Claimed_1_2 := own_comes fun _ _ _ _ _ _ h hF => ⟨h.2.1, hF⟩
end Jvm.Pilot.@@N@@
namespace Jvm.Pilot.@@N@@
open Jvm Jvm.ClassFile Sem Op Lib Jvm.Free Jvm.Stand Jvm.Pilot.@@N@@.Jvm.D
/-! MADE BY PROGRAM (witnessworld.py) out of the Statement's table words and the real class files: 9 classes; the members and pool entries that the words name. The judged class is class 1, her method 2. -/
namespace start1
open Jvm.ClassFile
def u (s : String) : CpInfo := .utf8 (stringToUtf16 s)
/-- a pool by its gaps: so many unusable entries, then the entry; so many at the end -/
def gap : Nat → List CpInfo → List CpInfo
  | 0, r => r
  | n + 1, r => .unusable :: gap n r
def poolList (es : List (Nat × CpInfo)) (last : Nat) : List CpInfo := es.foldr (fun e r => gap e.1 (e.2 :: r)) (gap last [])
def pool (es : List (Nat × CpInfo)) (last : Nat) : Array CpInfo := ⟨poolList es last⟩
def fileOf (pool : Array CpInfo) (this : Nat) (attrs : Array Attribute := #[]) (ms : Array MethodInfo := #[]) (fl : Nat := 33) (sup : Nat := 0) (ifs : Array Nat := #[]) (fds : Array FieldInfo := #[]) : ClassFile where
  minorVersion := 0
  majorVersion := 65
  constantPool := pool
  accessFlags := fl
  thisClass := this
  superClass := sup
  interfaces := ifs
  fields := fds
  methods := ms
  attributes := attrs
def plain (name : String) (sup : Option ClassId) : Class where
  name := name
  kind := .ordinary
  loader := none
  accessFlags := 33
  super := sup
  interfaces := #[]
  cf := none
  fields := #[]
  methods := #[]
  instanceTypes := #[]
  staticTypes := #[]
  resolved := #[]
  callSites := []
  init := .initialized
  statics := none
  mirror := none

def pool0 : Array CpInfo := pool [(5, u "<init>"), (0, u "()V"), (1, .class_ 10), (1, u "java/lang/Object")] 113

def k0c0 : Code := { maxStack := 0, maxLocals := 1, code := object_method_1_code, exceptionTable := #[], attributes := #[] }
def k0m0 : Method := { name := "<init>", desc := "()V", sig := { parameters := [], returnType := none }, accessFlags := 1, code := some k0c0 }
/-- java/lang/Object -/
def k0 : Class := { plain "java/lang/Object" none with
  accessFlags := 33
  interfaces := #[]
  cf := some (fileOf pool0 8 #[] #[{ accessFlags := 1, nameIndex := 5, descriptorIndex := 6, attributes := #[] }] 33 0 #[] #[])
  fields := #[]
  methods := #[k0m0]
  instanceTypes := #[]
  staticTypes := #[]
  resolved := Array.replicate 124 none
  statics := none }

def pool1 : Array CpInfo := pool [(2, .class_ 4), (1, u "java/lang/Object"), (0, u "<init>"), (0, u "()V"), (0, .methodref 8 9), (0, .class_ 10), (0, .nameAndType 11 12), (0, u "com/example/serialis/serialis/graph/IntMinHeapRemoveSmallestPinLaw"), (0, u "cx"), (0, u "([III)V"), (0, .class_ 14), (0, u "com/example/serialis/serialis/graph/IntMinHeap"), (0, .methodref 13 16), (0, .nameAndType 5 17), (0, u "(I)V"), (0, .methodref 13 19), (0, .nameAndType 20 17), (0, u "add"), (0, .methodref 13 22), (0, .nameAndType 23 24), (0, u "removeSmallest"), (0, u "()I"), (3, u "law"), (0, u "(IIIII)Z")] 4

def k1m0 : Method := { name := "<init>", desc := "()V", sig := { parameters := [], returnType := none }, accessFlags := 1, code := none }
def k1c1 : Code := { maxStack := 4, maxLocals := 4, code := method_2_code, exceptionTable := #[], attributes := #[] }
def k1m1 : Method := { name := "cx", desc := "([III)V", sig := { parameters := [(.array .int), .int, .int], returnType := none }, accessFlags := 10, code := some k1c1 }
def k1c2 : Code := { maxStack := 4, maxLocals := 12, code := code, exceptionTable := #[], attributes := #[] }
def k1m2 : Method := { name := "law", desc := "(IIIII)Z", sig := { parameters := [.int, .int, .int, .int, .int], returnType := some .boolean }, accessFlags := 9, code := some k1c2 }
/-- com/example/serialis/serialis/graph/IntMinHeapRemoveSmallestPinLaw -/
def k1 : Class := { plain "com/example/serialis/serialis/graph/IntMinHeapRemoveSmallestPinLaw" (some 0) with
  accessFlags := 49
  interfaces := #[]
  cf := some (fileOf pool1 8 #[] #[{ accessFlags := 1, nameIndex := 5, descriptorIndex := 6, attributes := #[] }, { accessFlags := 10, nameIndex := 11, descriptorIndex := 12, attributes := #[] }, { accessFlags := 9, nameIndex := 28, descriptorIndex := 29, attributes := #[] }] 49 2 #[] #[])
  fields := #[]
  methods := #[k1m0, k1m1, k1m2]
  instanceTypes := #[]
  staticTypes := #[]
  resolved := Array.replicate 34 none
  statics := none }

def pool2 : Array CpInfo := pool [(1, .methodref 2 3), (0, .class_ 4), (0, .nameAndType 5 6), (0, u "java/lang/Object"), (0, u "<init>"), (0, u "()V"), (0, .fieldref 8 9), (0, .class_ 10), (0, .nameAndType 11 12), (0, u "com/example/serialis/serialis/graph/IntMinHeap"), (0, u "heap"), (0, u "[I"), (0, .fieldref 8 14), (0, .nameAndType 15 16), (0, u "size"), (0, u "I"), (0, u "(I)V"), (5, u "add"), (0, u "removeSmallest"), (0, u "()I")] 2

def k2c0 : Code := { maxStack := 2, maxLocals := 2, code := prog_36_method_1_code, exceptionTable := #[], attributes := #[] }
def k2m0 : Method := { name := "<init>", desc := "(I)V", sig := { parameters := [.int], returnType := none }, accessFlags := 0, code := some k2c0 }
def k2c1 : Code := { maxStack := 4, maxLocals := 4, code := prog_36_method_3_code, exceptionTable := #[], attributes := #[] }
def k2m1 : Method := { name := "add", desc := "(I)V", sig := { parameters := [.int], returnType := none }, accessFlags := 0, code := some k2c1 }
def k2c2 : Code := { maxStack := 4, maxLocals := 5, code := prog_36_method_4_code, exceptionTable := #[], attributes := #[] }
def k2m2 : Method := { name := "removeSmallest", desc := "()I", sig := { parameters := [], returnType := some .int }, accessFlags := 0, code := some k2c2 }
/-- com/example/serialis/serialis/graph/IntMinHeap -/
def k2 : Class := { plain "com/example/serialis/serialis/graph/IntMinHeap" (some 0) with
  accessFlags := 48
  interfaces := #[]
  cf := some (fileOf pool2 8 #[] #[{ accessFlags := 0, nameIndex := 5, descriptorIndex := 17, attributes := #[] }, { accessFlags := 0, nameIndex := 23, descriptorIndex := 17, attributes := #[] }, { accessFlags := 0, nameIndex := 24, descriptorIndex := 25, attributes := #[] }] 48 2 #[] #[{ accessFlags := 18, nameIndex := 11, descriptorIndex := 12, attributes := #[] }, { accessFlags := 2, nameIndex := 15, descriptorIndex := 16, attributes := #[] }])
  fields := #[{ name := "heap", type := (.array .int), accessFlags := 18, slot := 0, constantValue := 0 }, { name := "size", type := .int, accessFlags := 2, slot := 1, constantValue := 0 }]
  methods := #[k2m0, k2m1, k2m2]
  instanceTypes := #[(.array .int), .int]
  staticTypes := #[]
  resolved := Array.replicate 28 none
  statics := none }

def pool3 : Array CpInfo := pool [(1, u "java/lang/Cloneable"), (0, .class_ 1), (0, u "java/lang/Object"), (0, .class_ 3)] 3

/-- java/lang/Cloneable -/
def k3 : Class := { plain "java/lang/Cloneable" (some 0) with
  accessFlags := 1537
  interfaces := #[]
  cf := some (fileOf pool3 2 #[] #[] 1537 4 #[] #[])
  fields := #[]
  methods := #[]
  instanceTypes := #[]
  staticTypes := #[]
  resolved := Array.replicate 8 none
  statics := none }

def pool4 : Array CpInfo := pool [(1, u "java/io/Serializable"), (0, .class_ 1), (0, u "java/lang/Object"), (0, .class_ 3)] 3

/-- java/io/Serializable -/
def k4 : Class := { plain "java/io/Serializable" (some 0) with
  accessFlags := 1537
  interfaces := #[]
  cf := some (fileOf pool4 2 #[] #[] 1537 4 #[] #[])
  fields := #[]
  methods := #[]
  instanceTypes := #[]
  staticTypes := #[]
  resolved := Array.replicate 8 none
  statics := none }

/-- the primitive byte -/
def k5 : Class := { plain "byte" none with kind := .primitive 'B', accessFlags := 0x411 }
/-- [B -/
def k6 : Class := { plain "[B" (some 0) with kind := .array 5 .byte, interfaces := #[3, 4], accessFlags := 1041 }

/-- the primitive int -/
def k7 : Class := { plain "int" none with kind := .primitive 'I', accessFlags := 0x411 }
/-- [I -/
def k8 : Class := { plain "[I" (some 0) with kind := .array 7 .int, interfaces := #[3, 4], accessFlags := 1041 }

def heap : Heap := #[]
def classes : Array Class := #[k0, k1, k2, k3, k4, k5, k6, k7, k8]
def interned : List (Array UInt16 × Addr) := []
def slotsUsed : Nat := 0
def theMethod : MethodId := ⟨1, 2⟩
def args0 : Array Value := #[.int 5, .int 7, .int 6, .int 3, .int 2]
def aboutOver (below : List Frame) : State where
  vm := { classes := classes, interned := interned.toArray }
  heap := heap
  slotsUsed := slotsUsed
  threads := #[{ frames := .invoking theMethod args0 :: below }]
def below0 : List Frame := [.native { method := ⟨0, 0⟩, args := #[] }]
def about1 : State := aboutOver below0
def p0 : Program := .bare "" "" ""
def e0 : Env := launch0.env 0 0 0
theorem w_frames : about1.frames = Frame.invoking theMethod args0 :: below0 := rfl
set_option maxRecDepth 65536 in
theorem w_args : argsFit about1.vm theMethod args0 = true := by decide +kernel
set_option maxRecDepth 65536 in
theorem w_heap : heapFits about1 = true := by decide +kernel
set_option maxRecDepth 65536 in
theorem w_runnable : about1.curStatus? = some .runnable := by decide +kernel
set_option maxRecDepth 65536 in
theorem w_alone : about1.alone = true := by decide +kernel
set_option maxRecDepth 65536 in
theorem w_named : about1.methodNamed? x = some theMethod := by decide +kernel
set_option maxRecDepth 65536 in
theorem w_hears : about1.hears theMethod below0 = true := by decide +kernel
set_option maxRecDepth 65536 in
theorem w_ripe : about1.ripe theMethod args0 below0 = true := by decide +kernel
theorem w_running : about1.status = .running := rfl
set_option maxRecDepth 65536 in
theorem w_room : about1.hasRoom e0.platform room_1 = true :=
  launch0.hasRoom_least _ room_1 (by decide +kernel) (by decide +kernel) (by decide +kernel) (by decide +kernel) (by decide +kernel) (by decide +kernel)
theorem allAtoms_all (ts : List Jvm.Cond) (a : Array Jvm.Value) (st : Jvm.State) : (allAtoms ts).before a st = ts.all (fun c => c.before a st) := by
  induction ts with
  | nil => rfl
  | cons c t ih =>
    show (Jvm.Cond.and c (allAtoms t)).before a st = _
    rw [Jvm.Cond.before_and, ih, List.all_cons]
def words1 : List Jvm.Cond := Jvm.Cond.code x code maxLocals ret :: tables_1
/-- a 'code' word, met by the world's own term for the bytes: nothing is compared byte by byte -/
theorem code_word {y : MethodName} {bytes : ByteArray} {mx : Nat} {rt : Option FieldType} {a : Array Value} {s : State} {m : MethodId} {meth : Method} {c : Code} (h1 : s.methodNamed? y = some m) (h2 : s.vm.method? m = some meth) (h3 : meth.code = some c) (h4 : c.code = bytes)
    (h5 : (c.maxLocals == mx && c.exceptionTable.isEmpty && decide (c.maxStack ≤ mostOperands) && decide (meth.sig.returnType = rt) && !meth.locks && decide (parseMethodDescriptor y.desc = some meth.sig)) = true) : (Jvm.Cond.code y bytes mx rt).before a s = true := by
  simp only [Bool.and_eq_true, beq_iff_eq, Bool.not_eq_true', decide_eq_true_eq] at h5
  obtain ⟨⟨⟨⟨⟨g1, g2⟩, g3⟩, g4⟩, g5⟩, g6⟩ := h5
  simp [Cond.before, Cond.holds, Cond.value, h1, h2, h3, h4, g1, g2, g3, g4, g5, g6]
def isCode : Jvm.Cond → Bool
  | .code _ _ _ _ => true
  | _ => false
theorem all_split {L : List Jvm.Cond} {P : Jvm.Cond → Bool} (h1 : L.all (fun c => isCode c || P c) = true) (h2 : ∀ c ∈ L.filter isCode, P c = true) : L.all P = true := by
  refine List.all_eq_true.mpr fun c hc => ?_
  have h := List.all_eq_true.mp h1 c hc
  rcases Bool.eq_false_or_eq_true (isCode c) with hi | hi
  · exact h2 c (List.mem_filter.mpr ⟨hc, hi⟩)
  · simpa [hi] using h
set_option maxRecDepth 65536 in
theorem w_c0 : (Jvm.Cond.code x code maxLocals ret).before args0 about1 = true := code_word (m := ⟨1, 2⟩) (meth := k1m2) (c := k1c2) (by decide +kernel) rfl rfl rfl (by decide +kernel)
set_option maxRecDepth 65536 in
theorem w_c1 : (Jvm.Cond.code ({ cls := "com/example/serialis/serialis/graph/IntMinHeapRemoveSmallestPinLaw", name := "cx", desc := "([III)V" } : Jvm.MethodName) method_2_code (4 : Nat) (Option.none : Option Jvm.ClassFile.FieldType)).before args0 about1 = true := code_word (m := ⟨1, 1⟩) (meth := k1m1) (c := k1c1) (by decide +kernel) rfl rfl rfl (by decide +kernel)
set_option maxRecDepth 65536 in
theorem w_c2 : (Jvm.Cond.code ({ cls := "com/example/serialis/serialis/graph/IntMinHeap", name := "<init>", desc := "(I)V" } : Jvm.MethodName) prog_36_method_1_code (2 : Nat) (Option.none : Option Jvm.ClassFile.FieldType)).before args0 about1 = true := code_word (m := ⟨2, 0⟩) (meth := k2m0) (c := k2c0) (by decide +kernel) rfl rfl rfl (by decide +kernel)
set_option maxRecDepth 65536 in
theorem w_c3 : (Jvm.Cond.code ({ cls := "java/lang/Object", name := "<init>", desc := "()V" } : Jvm.MethodName) object_method_1_code (1 : Nat) (Option.none : Option Jvm.ClassFile.FieldType)).before args0 about1 = true := code_word (m := ⟨0, 0⟩) (meth := k0m0) (c := k0c0) (by decide +kernel) rfl rfl rfl (by decide +kernel)
set_option maxRecDepth 65536 in
theorem w_c4 : (Jvm.Cond.code ({ cls := "com/example/serialis/serialis/graph/IntMinHeap", name := "add", desc := "(I)V" } : Jvm.MethodName) prog_36_method_3_code (4 : Nat) (Option.none : Option Jvm.ClassFile.FieldType)).before args0 about1 = true := code_word (m := ⟨2, 1⟩) (meth := k2m1) (c := k2c1) (by decide +kernel) rfl rfl rfl (by decide +kernel)
set_option maxRecDepth 65536 in
theorem w_c5 : (Jvm.Cond.code ({ cls := "com/example/serialis/serialis/graph/IntMinHeap", name := "removeSmallest", desc := "()I" } : Jvm.MethodName) prog_36_method_4_code (5 : Nat) (Option.some Jvm.ClassFile.FieldType.int)).before args0 about1 = true := code_word (m := ⟨2, 2⟩) (meth := k2m2) (c := k2c2) (by decide +kernel) rfl rfl rfl (by decide +kernel)
def codes1 : List Jvm.Cond := [Jvm.Cond.code x code maxLocals ret, Jvm.Cond.code ({ cls := "com/example/serialis/serialis/graph/IntMinHeapRemoveSmallestPinLaw", name := "cx", desc := "([III)V" } : Jvm.MethodName) method_2_code (4 : Nat) (Option.none : Option Jvm.ClassFile.FieldType), Jvm.Cond.code ({ cls := "com/example/serialis/serialis/graph/IntMinHeap", name := "<init>", desc := "(I)V" } : Jvm.MethodName) prog_36_method_1_code (2 : Nat) (Option.none : Option Jvm.ClassFile.FieldType), Jvm.Cond.code ({ cls := "java/lang/Object", name := "<init>", desc := "()V" } : Jvm.MethodName) object_method_1_code (1 : Nat) (Option.none : Option Jvm.ClassFile.FieldType), Jvm.Cond.code ({ cls := "com/example/serialis/serialis/graph/IntMinHeap", name := "add", desc := "(I)V" } : Jvm.MethodName) prog_36_method_3_code (4 : Nat) (Option.none : Option Jvm.ClassFile.FieldType), Jvm.Cond.code ({ cls := "com/example/serialis/serialis/graph/IntMinHeap", name := "removeSmallest", desc := "()I" } : Jvm.MethodName) prog_36_method_4_code (5 : Nat) (Option.some Jvm.ClassFile.FieldType.int)]
set_option maxRecDepth 65536 in
theorem codes_eq : words1.filter isCode = codes1 := rfl
theorem w_codes : ∀ c ∈ words1.filter isCode, c.before args0 about1 = true := by
  rw [codes_eq]
  intro c hc
  simp only [codes1, List.mem_cons, List.not_mem_nil, or_false] at hc
  rcases hc with rfl | rfl | rfl | rfl | rfl | rfl
  · exact w_c0
  · exact w_c1
  · exact w_c2
  · exact w_c3
  · exact w_c4
  · exact w_c5
set_option maxRecDepth 65536 in
theorem w_t1 : (words1.take 24).all (fun c => isCode c || c.before args0 about1) = true := by decide +kernel
set_option maxRecDepth 65536 in
theorem w_t2 : (words1.drop 24).all (fun c => isCode c || c.before args0 about1) = true := by decide +kernel
theorem w_tables : (allAtoms (Jvm.Cond.code x code maxLocals ret :: tables_1)).before args0 about1 = true := by
  rw [allAtoms_all]
  show words1.all (fun c => c.before args0 about1) = true
  refine all_split ?_ w_codes
  rw [← List.take_append_drop 24 words1, List.all_append, w_t1, w_t2]
  rfl
set_option maxRecDepth 65536 in
theorem w_case : (Jvm.Cond.and given_1 narrow_1).before args0 about1 = true := by decide +kernel
theorem w_applies : (headSpec (Jvm.Cond.code x code maxLocals ret :: tables_1) room_1).applies x e0.platform about1 = true :=
  (Spec.applies_iff w_frames).mpr ⟨w_running, w_runnable, w_alone, w_named, w_hears, w_ripe, w_room, w_tables⟩
theorem atStart : AtStart classFile x code maxLocals ret World_1 tables_1 room_1 Calls_1 rest_1 Pre_1 launch0 p0 e0 about1 theMethod args0 below0 :=
  ⟨lists_1, trivial, launch0.admits_env _ _ _, launch0.least_env, fairChoices_fair.cas, fairChoices_fair.clock, w_frames, w_args, w_heap, w_applies, trivial, trivial, w_case⟩
end start1
theorem witness_1 : WitnessClaimed_1 := ⟨start1.p0, start1.e0, start1.about1, start1.theMethod, start1.args0, start1.below0, start1.atStart⟩
end Jvm.Pilot.@@N@@
