import JvmDerived
import JvmDerived.Pilot.@@N@@Statement
import JvmDerived.Pilot.@@N@@Code
set_option linter.unusedVariables false
set_option linter.unusedSimpArgs false
namespace Jvm.Pilot.@@N@@
open Jvm Jvm.ClassFile Sem Op Lib Jvm.Free Jvm.Stand Jvm.LawKit Jvm.RoadKit Bundle Jvm.Pilot.@@N@@.Jvm.D
section Own
variable {p : Program} {l : Launch} {e : Env} {R : Room} {s : State} {m : MethodId} {args : Array Value} {below : List Frame} {meth : Method} {c : Code} {Z : State} {a0 : Array Value} {n0 : Nat} {Q : Option Value → Heap → Prop} {Kf : State → Outcome → Prop} {h : Heap} {k q : Nat} {own nm : String} {bytes : ByteArray} {maxL : Nat} {ret : Option FieldType} {pc pc' pc1 pc2 : Nat} {Ls Ls' : Array Slot} {rest : List Value}
/-- how a run of the body ends: it returns, nothing old is written, and Q holds of what is returned and of the heap -/
def own_K (below : List Frame) (R : Room) (s : State) (n0 : Nat) (Q : Option Value → Heap → Prop) (t : State) (o : Outcome) : Prop :=
  t.status = .running ∧ Ended t below o ∧ ∃ v L, o = .returned v ∧ (Fr n0 L ∧ Q v t.heap) ∧ FrameEnd s o t L R.cells R.slots
/-- from the frame g, with the heap h, k cells and q slots made so far: the run ends as own_K says -/
def own_Run (p : Program) (l : Launch) (e : Env) (R : Room) (s : State) (m : MethodId) (args : Array Value) (below : List Frame) (meth : Method) (c : Code) (n0 : Nat) (Kf : State → Outcome → Prop) (h : Heap) (k q : Nat) (g : JFrame) : Prop :=
  ∀ (T : State) (locs : List Loc), Stand p l e R s m args below meth c T locs k q → T.heap = h → Fr n0 locs → ∃ t o, Steps p.tables e below (T.setTop g) t ∧ Kf t o
/-- what stands fast through a body -/
def own_Ctx (p : Program) (s : State) (m : MethodId) (meth : Method) (c : Code) (Z : State) (own nm : String) (bytes : ByteArray) (maxL : Nat) (ret : Option FieldType) : Prop :=
  p.tables.exec = Jvm.exec ∧ Z.Warmed39 s.vm ∧ s.vm.findClass own = some m.cls ∧ c.code = bytes ∧ c.maxLocals = maxL ∧ meth.sig.returnType = ret ∧ meth.locks = false ∧ meth.name = nm
theorem own_Ctx.g_x (C : own_Ctx p s m meth c Z own nm bytes maxL ret) : p.tables.exec = Jvm.exec := C.1
theorem own_Ctx.g_z (C : own_Ctx p s m meth c Z own nm bytes maxL ret) : Z.Warmed39 s.vm := C.2.1
theorem own_Ctx.g_own (C : own_Ctx p s m meth c Z own nm bytes maxL ret) : s.vm.findClass own = some m.cls := C.2.2.1
theorem own_Ctx.g_by (C : own_Ctx p s m meth c Z own nm bytes maxL ret) : c.code = bytes := C.2.2.2.1
theorem own_Ctx.g_ml (C : own_Ctx p s m meth c Z own nm bytes maxL ret) : c.maxLocals = maxL := C.2.2.2.2.1
theorem own_Ctx.g_rt (C : own_Ctx p s m meth c Z own nm bytes maxL ret) : meth.sig.returnType = ret := C.2.2.2.2.2.1
theorem own_Ctx.g_lk (C : own_Ctx p s m meth c Z own nm bytes maxL ret) : meth.locks = false := C.2.2.2.2.2.2.1
theorem own_Ctx.g_nm (C : own_Ctx p s m meth c Z own nm bytes maxL ret) : meth.name = nm := C.2.2.2.2.2.2.2
/-- a method's contract: called with these arguments at the heap h, it returns as Q says -/
def own_Met (l : Launch) (Z : State) (n0 : Nat) (y : MethodName) (bytes : ByteArray) (maxL : Nat) (ret : Option FieldType) (rm : Room) (ws : List Jvm.Cond) (as' : Array Value) (h : Heap) (Q : Option Value → Heap → Prop) : Prop :=
  MetFree l y (head1 (Jvm.Cond.code y bytes maxL ret :: ws) rm) (fun a U => a = as' ∧ Z.Warmed39 U.vm ∧ U.heap = h) (fun _ _ _ _ _ => True) (fun _ U o U' => ∃ v L, o = .returned v ∧ (Fr n0 L ∧ Q v U'.heap) ∧ FrameEnd U o U' L rm.cells rm.slots)
theorem own_met {y : MethodName} {rm : Room} {ws : List Jvm.Cond} {as' : Array Value} (hn : plainName y.cls = true) (Ls : Array Slot) (hef : ∀ m : MethodId, entryFrame m as' maxL = mkF m 0 Ls [])
    (body : ∀ (p : Program) (e : Env) (s : State) (m : MethodId) (below : List Frame) (meth : Method) (c : Code), own_Ctx p s m meth c Z y.cls y.name bytes maxL ret → own_Run p l e rm s m as' below meth c n0 (own_K below rm s n0 Q) h 0 0 (mkF m 0 Ls [])) :
    own_Met l Z n0 y bytes maxL ret rm ws as' h Q := by
  refine MetFree.of_bodySF (plainFor_of_name hn) hisR ?_
  intro p e s m args below meth c s₁ Bd hml0 hP hK
  obtain ⟨rfl, hZ, hh⟩ := hP
  have C : own_Ctx p s m meth c Z y.cls y.name bytes maxL ret := ⟨Bd.exec, hZ, findClass_of_methodNamed Bd.named, Bd.bytes, hml0, Bd.returns, BodyLoose.notSynchronized Bd, (name_of_methodNamed Bd.named Bd.method).1⟩
  obtain ⟨t, o, h1, h2, h3, h4⟩ := body p e s m below meth c C s₁ [] (Stand.of_body Bd) (by rw [← hh, Bd.state]; rfl) (Fr.nil n0)
  exact ⟨t, o, castTop (hef m) h1, h2, h3, h4⟩
theorem own_st {g g' : JFrame} (h1 : ∀ (T : State) (locs : List Loc), Stand p l e R s m args below meth c T locs k q → T.heap = h → ∀ target, Steps p.tables e below (T.setTop g') target → Steps p.tables e below (T.setTop g) target) (r : own_Run p l e R s m args below meth c n0 Kf h k q g') : own_Run p l e R s m args below meth c n0 Kf h k q g := fun T locs X eT N => by
  obtain ⟨t, o, h2, h3⟩ := r T locs X eT N
  exact ⟨t, o, h1 T locs X eT t h2, h3⟩
theorem own_more {k' q' : Nat} {g : JFrame} (hk : k ≤ k') (hq : q ≤ q') (r : own_Run p l e R s m args below meth c n0 Kf h k' q' g) : own_Run p l e R s m args below meth c n0 Kf h k q g := fun T locs X eT N => r T locs (X.more hk hq) eT N
theorem own_iloadN (C : own_Ctx p s m meth c Z own nm bytes maxL ret) {i : Fin 4} {v : Int32} (hd : decode bytes pc = .ok (.iload_n i, 1)) (hp : pc + 1 = pc') (hl : Ls[i.val]? = some (.val (.int v))) (r : own_Run p l e R s m args below meth c n0 Kf h k q (mkF m pc' Ls (.int v :: rest))) : own_Run p l e R s m args below meth c n0 Kf h k q (mkF m pc Ls (rest)) :=
  own_st (fun T locs X eT t kk => by subst hp; exact Jvm.Free.XS.iloadN X.here C.g_x rfl (hb C.g_by hd) hl kk) r
theorem own_iload (C : own_Ctx p s m meth c Z own nm bytes maxL ret) {i : Nat} {v : Int32} (hd : decode bytes pc = .ok (.iload i, 2)) (hp : pc + 2 = pc') (hl : Ls[i]? = some (.val (.int v))) (r : own_Run p l e R s m args below meth c n0 Kf h k q (mkF m pc' Ls (.int v :: rest))) : own_Run p l e R s m args below meth c n0 Kf h k q (mkF m pc Ls (rest)) :=
  own_st (fun T locs X eT t kk => by subst hp; exact Jvm.Free.XS.iload X.here C.g_x rfl (hb C.g_by hd) hl kk) r
theorem own_lloadN (C : own_Ctx p s m meth c Z own nm bytes maxL ret) {i : Fin 4} {v : Int64} (hd : decode bytes pc = .ok (.lload_n i, 1)) (hp : pc + 1 = pc') (hl : Ls[i.val]? = some (.val (.long v))) (r : own_Run p l e R s m args below meth c n0 Kf h k q (mkF m pc' Ls (.long v :: rest))) : own_Run p l e R s m args below meth c n0 Kf h k q (mkF m pc Ls (rest)) :=
  own_st (fun T locs X eT t kk => by subst hp; exact Jvm.Free.XT.lloadN X.here C.g_x rfl (hb C.g_by hd) hl kk) r
theorem own_lload (C : own_Ctx p s m meth c Z own nm bytes maxL ret) {i : Nat} {v : Int64} (hd : decode bytes pc = .ok (.lload i, 2)) (hp : pc + 2 = pc') (hl : Ls[i]? = some (.val (.long v))) (r : own_Run p l e R s m args below meth c n0 Kf h k q (mkF m pc' Ls (.long v :: rest))) : own_Run p l e R s m args below meth c n0 Kf h k q (mkF m pc Ls (rest)) :=
  own_st (fun T locs X eT t kk => by subst hp; exact Jvm.Free.XT.lload X.here C.g_x rfl (hb C.g_by hd) hl kk) r
theorem own_aloadN (C : own_Ctx p s m meth c Z own nm bytes maxL ret) {i : Fin 4} {v : Value} (hd : decode bytes pc = .ok (.aload_n i, 1)) (hp : pc + 1 = pc') (hl : Ls[i.val]? = some (.val v)) (hv : v.isRef = true) (r : own_Run p l e R s m args below meth c n0 Kf h k q (mkF m pc' Ls (v :: rest))) : own_Run p l e R s m args below meth c n0 Kf h k q (mkF m pc Ls (rest)) :=
  own_st (fun T locs X eT t kk => by subst hp; exact Jvm.Free.XS.aloadN X.here C.g_x rfl (hb C.g_by hd) hl hv kk) r
theorem own_aload (C : own_Ctx p s m meth c Z own nm bytes maxL ret) {i : Nat} {v : Value} (hd : decode bytes pc = .ok (.aload i, 2)) (hp : pc + 2 = pc') (hl : Ls[i]? = some (.val v)) (hv : v.isRef = true) (r : own_Run p l e R s m args below meth c n0 Kf h k q (mkF m pc' Ls (v :: rest))) : own_Run p l e R s m args below meth c n0 Kf h k q (mkF m pc Ls (rest)) :=
  own_st (fun T locs X eT t kk => by subst hp; exact Jvm.Free.XS.aload X.here C.g_x rfl (hb C.g_by hd) hl hv kk) r
theorem own_istoreN (C : own_Ctx p s m meth c Z own nm bytes maxL ret) {i : Fin 4} {v : Int32} (hd : decode bytes pc = .ok (.istore_n i, 1)) (hp : pc + 1 = pc') (hl : storeLocals Ls i.val (.int v) = some Ls') (r : own_Run p l e R s m args below meth c n0 Kf h k q (mkF m pc' Ls' (rest))) : own_Run p l e R s m args below meth c n0 Kf h k q (mkF m pc Ls (.int v :: rest)) :=
  own_st (fun T locs X eT t kk => by subst hp; exact Jvm.Free.XS.istoreN X.here C.g_x rfl (hb C.g_by hd) rfl hl kk) r
theorem own_istore (C : own_Ctx p s m meth c Z own nm bytes maxL ret) {i : Nat} {v : Int32} (hd : decode bytes pc = .ok (.istore i, 2)) (hp : pc + 2 = pc') (hl : storeLocals Ls i (.int v) = some Ls') (r : own_Run p l e R s m args below meth c n0 Kf h k q (mkF m pc' Ls' (rest))) : own_Run p l e R s m args below meth c n0 Kf h k q (mkF m pc Ls (.int v :: rest)) :=
  own_st (fun T locs X eT t kk => by subst hp; exact Jvm.Free.XS.istore X.here C.g_x rfl (hb C.g_by hd) rfl hl kk) r
theorem own_lstoreN (C : own_Ctx p s m meth c Z own nm bytes maxL ret) {i : Fin 4} {v : Int64} (hd : decode bytes pc = .ok (.lstore_n i, 1)) (hp : pc + 1 = pc') (hl : storeLocals Ls i.val (.long v) = some Ls') (r : own_Run p l e R s m args below meth c n0 Kf h k q (mkF m pc' Ls' (rest))) : own_Run p l e R s m args below meth c n0 Kf h k q (mkF m pc Ls (.long v :: rest)) :=
  own_st (fun T locs X eT t kk => by subst hp; exact Jvm.Free.XT.lstoreN X.here C.g_x rfl (hb C.g_by hd) rfl hl kk) r
theorem own_lstore (C : own_Ctx p s m meth c Z own nm bytes maxL ret) {i : Nat} {v : Int64} (hd : decode bytes pc = .ok (.lstore i, 2)) (hp : pc + 2 = pc') (hl : storeLocals Ls i (.long v) = some Ls') (r : own_Run p l e R s m args below meth c n0 Kf h k q (mkF m pc' Ls' (rest))) : own_Run p l e R s m args below meth c n0 Kf h k q (mkF m pc Ls (.long v :: rest)) :=
  own_st (fun T locs X eT t kk => by subst hp; exact Jvm.Free.XT.lstore X.here C.g_x rfl (hb C.g_by hd) rfl hl kk) r
theorem own_astoreN (C : own_Ctx p s m meth c Z own nm bytes maxL ret) {i : Fin 4} {v : Value} (hd : decode bytes pc = .ok (.astore_n i, 1)) (hp : pc + 1 = pc') (hv : v.isRef = true) (hl : storeLocals Ls i.val v = some Ls') (r : own_Run p l e R s m args below meth c n0 Kf h k q (mkF m pc' Ls' (rest))) : own_Run p l e R s m args below meth c n0 Kf h k q (mkF m pc Ls (v :: rest)) :=
  own_st (fun T locs X eT t kk => by subst hp; exact Jvm.Free.XS.astoreN X.here C.g_x rfl (hb C.g_by hd) rfl hv hl kk) r
theorem own_astore (C : own_Ctx p s m meth c Z own nm bytes maxL ret) {i : Nat} {v : Value} (hd : decode bytes pc = .ok (.astore i, 2)) (hp : pc + 2 = pc') (hv : v.isRef = true) (hl : storeLocals Ls i v = some Ls') (r : own_Run p l e R s m args below meth c n0 Kf h k q (mkF m pc' Ls' (rest))) : own_Run p l e R s m args below meth c n0 Kf h k q (mkF m pc Ls (v :: rest)) :=
  own_st (fun T locs X eT t kk => by subst hp; exact Jvm.Free.XS.astore X.here C.g_x rfl (hb C.g_by hd) rfl hv hl kk) r
theorem own_iinc (C : own_Ctx p s m meth c Z own nm bytes maxL ret) {i : Nat} {cst : Int} {v w : Int32} (hd : decode bytes pc = .ok (.iinc i cst, 3)) (hp : pc + 3 = pc') (hv : Int32.ofInt cst = w) (hl : Ls[i]? = some (.val (.int v))) (hl' : storeLocals Ls i (.int (v + w)) = some Ls') (r : own_Run p l e R s m args below meth c n0 Kf h k q (mkF m pc' Ls' (rest))) : own_Run p l e R s m args below meth c n0 Kf h k q (mkF m pc Ls (rest)) :=
  own_st (fun T locs X eT t kk => by subst hp; exact Jvm.Free.XT.iincV X.here C.g_x rfl w (hb C.g_by hd) hv hl hl' kk) r
theorem own_iincV (C : own_Ctx p s m meth c Z own nm bytes maxL ret) {i : Nat} {cst : Int} {v w x : Int32} (hd : decode bytes pc = .ok (.iinc i cst, 3)) (hp : pc + 3 = pc') (hv : Int32.ofInt cst = w) (hs : v + w = x) (hl : Ls[i]? = some (.val (.int v))) (hl' : storeLocals Ls i (.int x) = some Ls') (r : own_Run p l e R s m args below meth c n0 Kf h k q (mkF m pc' Ls' (rest))) : own_Run p l e R s m args below meth c n0 Kf h k q (mkF m pc Ls (rest)) :=
  own_st (fun T locs X eT t kk => by subst hp; exact Jvm.Free.XT.iincV X.here C.g_x rfl w (hb C.g_by hd) hv hl (by rw [hs]; exact hl') kk) r
theorem own_iconst (C : own_Ctx p s m meth c Z own nm bytes maxL ret) {i : Int} {v : Int32} (hd : decode bytes pc = .ok (.iconst i, 1)) (hp : pc + 1 = pc') (hv : Int32.ofInt i = v) (r : own_Run p l e R s m args below meth c n0 Kf h k q (mkF m pc' Ls (.int v :: rest))) : own_Run p l e R s m args below meth c n0 Kf h k q (mkF m pc Ls (rest)) :=
  own_st (fun T locs X eT t kk => by subst hp; exact Jvm.Free.XT.iconstV X.here C.g_x rfl v (hb C.g_by hd) hv kk) r
theorem own_bipush (C : own_Ctx p s m meth c Z own nm bytes maxL ret) {i : Int} {v : Int32} (hd : decode bytes pc = .ok (.bipush i, 2)) (hp : pc + 2 = pc') (hv : (Int8.ofInt i).toInt32 = v) (r : own_Run p l e R s m args below meth c n0 Kf h k q (mkF m pc' Ls (.int v :: rest))) : own_Run p l e R s m args below meth c n0 Kf h k q (mkF m pc Ls (rest)) :=
  own_st (fun T locs X eT t kk => by subst hp; exact Jvm.Free.XT.bipushV X.here C.g_x rfl v (hb C.g_by hd) hv kk) r
theorem own_sipush (C : own_Ctx p s m meth c Z own nm bytes maxL ret) {i : Int} {v : Int32} (hd : decode bytes pc = .ok (.sipush i, 3)) (hp : pc + 3 = pc') (hv : (Int16.ofInt i).toInt32 = v) (r : own_Run p l e R s m args below meth c n0 Kf h k q (mkF m pc' Ls (.int v :: rest))) : own_Run p l e R s m args below meth c n0 Kf h k q (mkF m pc Ls (rest)) :=
  own_st (fun T locs X eT t kk => by subst hp; exact Jvm.Free.XT.sipushV X.here C.g_x rfl v (hb C.g_by hd) hv kk) r
theorem own_lconst (C : own_Ctx p s m meth c Z own nm bytes maxL ret) {i : Fin 2} {v : Int64} (hd : decode bytes pc = .ok (.lconst i, 1)) (hp : pc + 1 = pc') (hv : Int64.ofNat i = v) (r : own_Run p l e R s m args below meth c n0 Kf h k q (mkF m pc' Ls (.long v :: rest))) : own_Run p l e R s m args below meth c n0 Kf h k q (mkF m pc Ls (rest)) :=
  own_st (fun T locs X eT t kk => by subst hp; exact Jvm.Free.XT.lconstV X.here C.g_x rfl v (hb C.g_by hd) hv kk) r
theorem own_aconst (C : own_Ctx p s m meth c Z own nm bytes maxL ret)  (hd : decode bytes pc = .ok (.aconst_null, 1)) (hp : pc + 1 = pc')  (r : own_Run p l e R s m args below meth c n0 Kf h k q (mkF m pc' Ls (.null :: rest))) : own_Run p l e R s m args below meth c n0 Kf h k q (mkF m pc Ls (rest)) :=
  own_st (fun T locs X eT t kk => by subst hp; exact Jvm.Free.XS.aconstNull X.here C.g_x rfl (hb C.g_by hd) kk) r
theorem own_ldc (C : own_Ctx p s m meth c Z own nm bytes maxL ret) {i : Nat} {v : Int32} (hd : decode bytes pc = .ok (.ldc i, 2)) (hp : pc + 2 = pc') (hc : (Jvm.Cond.constant own i v).before a0 Z = true) (r : own_Run p l e R s m args below meth c n0 Kf h k q (mkF m pc' Ls (.int v :: rest))) : own_Run p l e R s m args below meth c n0 Kf h k q (mkF m pc Ls (rest)) :=
  own_st (fun T locs X eT t kk => by subst hp; exact X.ldcI C.g_x C.g_own (mvT C.g_z hc) rfl (hb C.g_by hd) kk) r
theorem own_ldc2 (C : own_Ctx p s m meth c Z own nm bytes maxL ret) {i : Nat} {v : Int64} (hd : decode bytes pc = .ok (.ldc2_w i, 3)) (hp : pc + 3 = pc') (hc : (Jvm.Cond.constantLong own i v).before a0 Z = true) (r : own_Run p l e R s m args below meth c n0 Kf h k q (mkF m pc' Ls (.long v :: rest))) : own_Run p l e R s m args below meth c n0 Kf h k q (mkF m pc Ls (rest)) :=
  own_st (fun T locs X eT t kk => by subst hp; exact X.ldc2J C.g_x C.g_own (mvT C.g_z hc) rfl (hb C.g_by hd) kk) r
theorem own_dup (C : own_Ctx p s m meth c Z own nm bytes maxL ret) {v : Value} (hd : decode bytes pc = .ok (.dup, 1)) (hp : pc + 1 = pc') (hc : v.category = 1) (r : own_Run p l e R s m args below meth c n0 Kf h k q (mkF m pc' Ls (v :: v :: rest))) : own_Run p l e R s m args below meth c n0 Kf h k q (mkF m pc Ls (v :: rest)) :=
  own_st (fun T locs X eT t kk => by subst hp; exact Jvm.Free.XS.dup X.here C.g_x rfl (hb C.g_by hd) rfl hc kk) r
theorem own_pop (C : own_Ctx p s m meth c Z own nm bytes maxL ret) {v : Value} (hd : decode bytes pc = .ok (.pop, 1)) (hp : pc + 1 = pc') (hc : v.category = 1) (r : own_Run p l e R s m args below meth c n0 Kf h k q (mkF m pc' Ls (rest))) : own_Run p l e R s m args below meth c n0 Kf h k q (mkF m pc Ls (v :: rest)) :=
  own_st (fun T locs X eT t kk => by subst hp; exact Jvm.Free.XT.pop X.here C.g_x rfl (hb C.g_by hd) rfl hc kk) r
theorem own_dupX1 (C : own_Ctx p s m meth c Z own nm bytes maxL ret) {v w : Value} (hd : decode bytes pc = .ok (.dup_x1, 1)) (hp : pc + 1 = pc') (hc : v.category = 1) (hc' : w.category = 1) (r : own_Run p l e R s m args below meth c n0 Kf h k q (mkF m pc' Ls (v :: w :: v :: rest))) : own_Run p l e R s m args below meth c n0 Kf h k q (mkF m pc Ls (v :: w :: rest)) :=
  own_st (fun T locs X eT t kk => by subst hp; exact Jvm.Free.XT.dupX1 X.here C.g_x rfl (hb C.g_by hd) rfl hc hc' kk) r
theorem own_dup2 (C : own_Ctx p s m meth c Z own nm bytes maxL ret) {v w : Value} (hd : decode bytes pc = .ok (.dup2, 1)) (hp : pc + 1 = pc') (hc : v.category = 1) (hc' : w.category = 1) (r : own_Run p l e R s m args below meth c n0 Kf h k q (mkF m pc' Ls (v :: w :: v :: w :: rest))) : own_Run p l e R s m args below meth c n0 Kf h k q (mkF m pc Ls (v :: w :: rest)) :=
  own_st (fun T locs X eT t kk => by subst hp; exact Jvm.Free.XT.dup2 X.here C.g_x rfl (hb C.g_by hd) rfl hc hc' kk) r
theorem own_iadd (C : own_Ctx p s m meth c Z own nm bytes maxL ret) {x y : Int32} (hd : decode bytes pc = .ok (.iadd, 1)) (hp : pc + 1 = pc')  (r : own_Run p l e R s m args below meth c n0 Kf h k q (mkF m pc' Ls (.int (x + y) :: rest))) : own_Run p l e R s m args below meth c n0 Kf h k q (mkF m pc Ls (.int y :: .int x :: rest)) :=
  own_st (fun T locs X eT t kk => by subst hp; exact Jvm.Free.XS.iadd X.here C.g_x rfl (hb C.g_by hd) rfl kk) r
theorem own_isub (C : own_Ctx p s m meth c Z own nm bytes maxL ret) {x y : Int32} (hd : decode bytes pc = .ok (.isub, 1)) (hp : pc + 1 = pc')  (r : own_Run p l e R s m args below meth c n0 Kf h k q (mkF m pc' Ls (.int (x - y) :: rest))) : own_Run p l e R s m args below meth c n0 Kf h k q (mkF m pc Ls (.int y :: .int x :: rest)) :=
  own_st (fun T locs X eT t kk => by subst hp; exact Jvm.Free.XS.isub X.here C.g_x rfl (hb C.g_by hd) rfl kk) r
theorem own_iand (C : own_Ctx p s m meth c Z own nm bytes maxL ret) {x y : Int32} (hd : decode bytes pc = .ok (.iand, 1)) (hp : pc + 1 = pc')  (r : own_Run p l e R s m args below meth c n0 Kf h k q (mkF m pc' Ls (.int (x &&& y) :: rest))) : own_Run p l e R s m args below meth c n0 Kf h k q (mkF m pc Ls (.int y :: .int x :: rest)) :=
  own_st (fun T locs X eT t kk => by subst hp; exact Jvm.Free.XS.iand X.here C.g_x rfl (hb C.g_by hd) rfl kk) r
theorem own_imul (C : own_Ctx p s m meth c Z own nm bytes maxL ret) {x y : Int32} (hd : decode bytes pc = .ok (.imul, 1)) (hp : pc + 1 = pc')  (r : own_Run p l e R s m args below meth c n0 Kf h k q (mkF m pc' Ls (.int (x * y) :: rest))) : own_Run p l e R s m args below meth c n0 Kf h k q (mkF m pc Ls (.int y :: .int x :: rest)) :=
  own_st (fun T locs X eT t kk => by subst hp; exact Jvm.Free.XS.imul X.here C.g_x rfl (hb C.g_by hd) rfl kk) r
theorem own_ior (C : own_Ctx p s m meth c Z own nm bytes maxL ret) {x y : Int32} (hd : decode bytes pc = .ok (.ior, 1)) (hp : pc + 1 = pc')  (r : own_Run p l e R s m args below meth c n0 Kf h k q (mkF m pc' Ls (.int (x ||| y) :: rest))) : own_Run p l e R s m args below meth c n0 Kf h k q (mkF m pc Ls (.int y :: .int x :: rest)) :=
  own_st (fun T locs X eT t kk => by subst hp; exact Jvm.Free.XT.ior X.here C.g_x rfl (hb C.g_by hd) rfl kk) r
theorem own_ixor (C : own_Ctx p s m meth c Z own nm bytes maxL ret) {x y : Int32} (hd : decode bytes pc = .ok (.ixor, 1)) (hp : pc + 1 = pc')  (r : own_Run p l e R s m args below meth c n0 Kf h k q (mkF m pc' Ls (.int (x ^^^ y) :: rest))) : own_Run p l e R s m args below meth c n0 Kf h k q (mkF m pc Ls (.int y :: .int x :: rest)) :=
  own_st (fun T locs X eT t kk => by subst hp; exact Jvm.Free.XT.ixor X.here C.g_x rfl (hb C.g_by hd) rfl kk) r
theorem own_ishl (C : own_Ctx p s m meth c Z own nm bytes maxL ret) {x y : Int32} (hd : decode bytes pc = .ok (.ishl, 1)) (hp : pc + 1 = pc')  (r : own_Run p l e R s m args below meth c n0 Kf h k q (mkF m pc' Ls (.int (x <<< (y &&& 31)) :: rest))) : own_Run p l e R s m args below meth c n0 Kf h k q (mkF m pc Ls (.int y :: .int x :: rest)) :=
  own_st (fun T locs X eT t kk => by subst hp; exact Jvm.Free.XT.ishl X.here C.g_x rfl (hb C.g_by hd) rfl kk) r
theorem own_ishr (C : own_Ctx p s m meth c Z own nm bytes maxL ret) {x y : Int32} (hd : decode bytes pc = .ok (.ishr, 1)) (hp : pc + 1 = pc')  (r : own_Run p l e R s m args below meth c n0 Kf h k q (mkF m pc' Ls (.int (x >>> (y &&& 31)) :: rest))) : own_Run p l e R s m args below meth c n0 Kf h k q (mkF m pc Ls (.int y :: .int x :: rest)) :=
  own_st (fun T locs X eT t kk => by subst hp; exact Jvm.Free.XT.ishr X.here C.g_x rfl (hb C.g_by hd) rfl kk) r
theorem own_iushr (C : own_Ctx p s m meth c Z own nm bytes maxL ret) {x y : Int32} (hd : decode bytes pc = .ok (.iushr, 1)) (hp : pc + 1 = pc')  (r : own_Run p l e R s m args below meth c n0 Kf h k q (mkF m pc' Ls (.int (Jvm.Free.XT.ushr x y) :: rest))) : own_Run p l e R s m args below meth c n0 Kf h k q (mkF m pc Ls (.int y :: .int x :: rest)) :=
  own_st (fun T locs X eT t kk => by subst hp; exact Jvm.Free.XT.iushr X.here C.g_x rfl (hb C.g_by hd) rfl kk) r
theorem own_irem (C : own_Ctx p s m meth c Z own nm bytes maxL ret) {x y : Int32} (hd : decode bytes pc = .ok (.irem, 1)) (hp : pc + 1 = pc') (hy : y ≠ 0) (r : own_Run p l e R s m args below meth c n0 Kf h k q (mkF m pc' Ls (.int (x % y) :: rest))) : own_Run p l e R s m args below meth c n0 Kf h k q (mkF m pc Ls (.int y :: .int x :: rest)) :=
  own_st (fun T locs X eT t kk => by subst hp; exact iremM X C.g_x rfl (hb C.g_by hd) rfl hy kk) r
theorem own_idivV (C : own_Ctx p s m meth c Z own nm bytes maxL ret) {x y v : Int32} (hd : decode bytes pc = .ok (.idiv, 1)) (hp : pc + 1 = pc') (hy : y ≠ 0) (hv : x / y = v) (r : own_Run p l e R s m args below meth c n0 Kf h k q (mkF m pc' Ls (.int v :: rest))) : own_Run p l e R s m args below meth c n0 Kf h k q (mkF m pc Ls (.int y :: .int x :: rest)) :=
  own_st (fun T locs X eT t kk => by subst hp; exact Jvm.Free.XS.idiv X.here C.g_x rfl (hb C.g_by hd) rfl hy (by rw [hv]; exact kk)) r
theorem own_ineg (C : own_Ctx p s m meth c Z own nm bytes maxL ret) {x : Int32} (hd : decode bytes pc = .ok (.ineg, 1)) (hp : pc + 1 = pc')  (r : own_Run p l e R s m args below meth c n0 Kf h k q (mkF m pc' Ls (.int (-x) :: rest))) : own_Run p l e R s m args below meth c n0 Kf h k q (mkF m pc Ls (.int x :: rest)) :=
  own_st (fun T locs X eT t kk => by subst hp; exact Jvm.Free.XS.ineg X.here C.g_x rfl (hb C.g_by hd) rfl kk) r
theorem own_ladd (C : own_Ctx p s m meth c Z own nm bytes maxL ret) {x y : Int64} (hd : decode bytes pc = .ok (.ladd, 1)) (hp : pc + 1 = pc')  (r : own_Run p l e R s m args below meth c n0 Kf h k q (mkF m pc' Ls (.long (x + y) :: rest))) : own_Run p l e R s m args below meth c n0 Kf h k q (mkF m pc Ls (.long y :: .long x :: rest)) :=
  own_st (fun T locs X eT t kk => by subst hp; exact Jvm.Free.XT.ladd X.here C.g_x rfl (hb C.g_by hd) rfl kk) r
theorem own_lsub (C : own_Ctx p s m meth c Z own nm bytes maxL ret) {x y : Int64} (hd : decode bytes pc = .ok (.lsub, 1)) (hp : pc + 1 = pc')  (r : own_Run p l e R s m args below meth c n0 Kf h k q (mkF m pc' Ls (.long (x - y) :: rest))) : own_Run p l e R s m args below meth c n0 Kf h k q (mkF m pc Ls (.long y :: .long x :: rest)) :=
  own_st (fun T locs X eT t kk => by subst hp; exact Jvm.Free.XT.lsub X.here C.g_x rfl (hb C.g_by hd) rfl kk) r
theorem own_land (C : own_Ctx p s m meth c Z own nm bytes maxL ret) {x y : Int64} (hd : decode bytes pc = .ok (.land, 1)) (hp : pc + 1 = pc')  (r : own_Run p l e R s m args below meth c n0 Kf h k q (mkF m pc' Ls (.long (x &&& y) :: rest))) : own_Run p l e R s m args below meth c n0 Kf h k q (mkF m pc Ls (.long y :: .long x :: rest)) :=
  own_st (fun T locs X eT t kk => by subst hp; exact Jvm.Free.XT.land X.here C.g_x rfl (hb C.g_by hd) rfl kk) r
theorem own_lor (C : own_Ctx p s m meth c Z own nm bytes maxL ret) {x y : Int64} (hd : decode bytes pc = .ok (.lor, 1)) (hp : pc + 1 = pc')  (r : own_Run p l e R s m args below meth c n0 Kf h k q (mkF m pc' Ls (.long (x ||| y) :: rest))) : own_Run p l e R s m args below meth c n0 Kf h k q (mkF m pc Ls (.long y :: .long x :: rest)) :=
  own_st (fun T locs X eT t kk => by subst hp; exact Jvm.Free.XT.lor X.here C.g_x rfl (hb C.g_by hd) rfl kk) r
theorem own_lxor (C : own_Ctx p s m meth c Z own nm bytes maxL ret) {x y : Int64} (hd : decode bytes pc = .ok (.lxor, 1)) (hp : pc + 1 = pc')  (r : own_Run p l e R s m args below meth c n0 Kf h k q (mkF m pc' Ls (.long (x ^^^ y) :: rest))) : own_Run p l e R s m args below meth c n0 Kf h k q (mkF m pc Ls (.long y :: .long x :: rest)) :=
  own_st (fun T locs X eT t kk => by subst hp; exact Jvm.Free.XT.lxor X.here C.g_x rfl (hb C.g_by hd) rfl kk) r
theorem own_lmul (C : own_Ctx p s m meth c Z own nm bytes maxL ret) {x y : Int64} (hd : decode bytes pc = .ok (.lmul, 1)) (hp : pc + 1 = pc')  (r : own_Run p l e R s m args below meth c n0 Kf h k q (mkF m pc' Ls (.long (x * y) :: rest))) : own_Run p l e R s m args below meth c n0 Kf h k q (mkF m pc Ls (.long y :: .long x :: rest)) :=
  own_st (fun T locs X eT t kk => by subst hp; exact Jvm.Free.XT.lmul X.here C.g_x rfl (hb C.g_by hd) rfl kk) r
theorem own_lcmp (C : own_Ctx p s m meth c Z own nm bytes maxL ret) {x y : Int64} (hd : decode bytes pc = .ok (.lcmp, 1)) (hp : pc + 1 = pc')  (r : own_Run p l e R s m args below meth c n0 Kf h k q (mkF m pc' Ls (.int (Jvm.Free.XT.cmpL x y) :: rest))) : own_Run p l e R s m args below meth c n0 Kf h k q (mkF m pc Ls (.long y :: .long x :: rest)) :=
  own_st (fun T locs X eT t kk => by subst hp; exact Jvm.Free.XT.lcmp X.here C.g_x rfl (hb C.g_by hd) rfl kk) r
theorem own_lshl (C : own_Ctx p s m meth c Z own nm bytes maxL ret) {x : Int64} {y : Int32} (hd : decode bytes pc = .ok (.lshl, 1)) (hp : pc + 1 = pc')  (r : own_Run p l e R s m args below meth c n0 Kf h k q (mkF m pc' Ls (.long (x <<< (y.toInt64 &&& 63)) :: rest))) : own_Run p l e R s m args below meth c n0 Kf h k q (mkF m pc Ls (.int y :: .long x :: rest)) :=
  own_st (fun T locs X eT t kk => by subst hp; exact Jvm.Free.XT.lshl X.here C.g_x rfl (hb C.g_by hd) rfl kk) r
theorem own_i2l (C : own_Ctx p s m meth c Z own nm bytes maxL ret) {x : Int32} (hd : decode bytes pc = .ok (.i2l, 1)) (hp : pc + 1 = pc')  (r : own_Run p l e R s m args below meth c n0 Kf h k q (mkF m pc' Ls (.long (x.toInt64) :: rest))) : own_Run p l e R s m args below meth c n0 Kf h k q (mkF m pc Ls (.int x :: rest)) :=
  own_st (fun T locs X eT t kk => by subst hp; exact Jvm.Free.XT.i2l X.here C.g_x rfl (hb C.g_by hd) rfl kk) r
theorem own_l2i (C : own_Ctx p s m meth c Z own nm bytes maxL ret) {x : Int64} (hd : decode bytes pc = .ok (.l2i, 1)) (hp : pc + 1 = pc')  (r : own_Run p l e R s m args below meth c n0 Kf h k q (mkF m pc' Ls (.int (x.toInt32) :: rest))) : own_Run p l e R s m args below meth c n0 Kf h k q (mkF m pc Ls (.long x :: rest)) :=
  own_st (fun T locs X eT t kk => by subst hp; exact Jvm.Free.XT.l2i X.here C.g_x rfl (hb C.g_by hd) rfl kk) r
theorem own_i2b (C : own_Ctx p s m meth c Z own nm bytes maxL ret) {x : Int32} (hd : decode bytes pc = .ok (.i2b, 1)) (hp : pc + 1 = pc')  (r : own_Run p l e R s m args below meth c n0 Kf h k q (mkF m pc' Ls (.int (x.toInt8.toInt32) :: rest))) : own_Run p l e R s m args below meth c n0 Kf h k q (mkF m pc Ls (.int x :: rest)) :=
  own_st (fun T locs X eT t kk => by subst hp; exact Jvm.Free.XT.i2b X.here C.g_x rfl (hb C.g_by hd) rfl kk) r
theorem own_i2c (C : own_Ctx p s m meth c Z own nm bytes maxL ret) {x : Int32} (hd : decode bytes pc = .ok (.i2c, 1)) (hp : pc + 1 = pc')  (r : own_Run p l e R s m args below meth c n0 Kf h k q (mkF m pc' Ls (.int (x.toUInt32.toUInt16.toUInt32.toInt32) :: rest))) : own_Run p l e R s m args below meth c n0 Kf h k q (mkF m pc Ls (.int x :: rest)) :=
  own_st (fun T locs X eT t kk => by subst hp; exact Jvm.Free.XT.i2c X.here C.g_x rfl (hb C.g_by hd) rfl kk) r
theorem own_iaddV (C : own_Ctx p s m meth c Z own nm bytes maxL ret) {x y v : Int32} (hd : decode bytes pc = .ok (.iadd, 1)) (hp : pc + 1 = pc') (hv : x + y = v) (r : own_Run p l e R s m args below meth c n0 Kf h k q (mkF m pc' Ls (.int v :: rest))) : own_Run p l e R s m args below meth c n0 Kf h k q (mkF m pc Ls (.int y :: .int x :: rest)) :=
  own_st (fun T locs X eT t kk => by subst hp; exact Jvm.Free.XS.iadd X.here C.g_x rfl (hb C.g_by hd) rfl (by rw [hv]; exact kk)) r
theorem own_isubV (C : own_Ctx p s m meth c Z own nm bytes maxL ret) {x y v : Int32} (hd : decode bytes pc = .ok (.isub, 1)) (hp : pc + 1 = pc') (hv : x - y = v) (r : own_Run p l e R s m args below meth c n0 Kf h k q (mkF m pc' Ls (.int v :: rest))) : own_Run p l e R s m args below meth c n0 Kf h k q (mkF m pc Ls (.int y :: .int x :: rest)) :=
  own_st (fun T locs X eT t kk => by subst hp; exact Jvm.Free.XS.isub X.here C.g_x rfl (hb C.g_by hd) rfl (by rw [hv]; exact kk)) r
theorem own_imulV (C : own_Ctx p s m meth c Z own nm bytes maxL ret) {x y v : Int32} (hd : decode bytes pc = .ok (.imul, 1)) (hp : pc + 1 = pc') (hv : x * y = v) (r : own_Run p l e R s m args below meth c n0 Kf h k q (mkF m pc' Ls (.int v :: rest))) : own_Run p l e R s m args below meth c n0 Kf h k q (mkF m pc Ls (.int y :: .int x :: rest)) :=
  own_st (fun T locs X eT t kk => by subst hp; exact Jvm.Free.XS.imul X.here C.g_x rfl (hb C.g_by hd) rfl (by rw [hv]; exact kk)) r
theorem own_iandV (C : own_Ctx p s m meth c Z own nm bytes maxL ret) {x y v : Int32} (hd : decode bytes pc = .ok (.iand, 1)) (hp : pc + 1 = pc') (hv : x &&& y = v) (r : own_Run p l e R s m args below meth c n0 Kf h k q (mkF m pc' Ls (.int v :: rest))) : own_Run p l e R s m args below meth c n0 Kf h k q (mkF m pc Ls (.int y :: .int x :: rest)) :=
  own_st (fun T locs X eT t kk => by subst hp; exact Jvm.Free.XS.iand X.here C.g_x rfl (hb C.g_by hd) rfl (by rw [hv]; exact kk)) r
theorem own_goto (C : own_Ctx p s m meth c Z own nm bytes maxL ret) {o : Int} {st : List Value} (hd : decode bytes pc = .ok (.goto o, 3)) (ho : (pc : Int) + o = (pc' : Int)) (r : own_Run p l e R s m args below meth c n0 Kf h k q (mkF m pc' Ls st)) : own_Run p l e R s m args below meth c n0 Kf h k q (mkF m pc Ls st) :=
  own_st (fun T locs X eT t kk => Jvm.Free.XS.goto X.here C.g_x rfl (pc0 := pc) (pc' := pc') rfl (hb C.g_by hd) (by omega) (by omega) kk) r
theorem own_ii_eq (C : own_Ctx p s m meth c Z own nm bytes maxL ret) {o : Int} {x y : Int32} (hd : decode bytes pc = .ok (.if_icmp .eq o, 3)) (ho : (pc : Int) + o = (pc1 : Int)) (hp : pc + 3 = pc2) (r1 : x = y → own_Run p l e R s m args below meth c n0 Kf h k q (mkF m pc1 Ls rest)) (r2 : ¬ x = y → own_Run p l e R s m args below meth c n0 Kf h k q (mkF m pc2 Ls rest)) : own_Run p l e R s m args below meth c n0 Kf h k q (mkF m pc Ls (.int y :: .int x :: rest)) := by
  by_cases hc : x = y
  · exact own_st (fun T locs X eT t kk => Jvm.Free.XS.icmpYes X.here C.g_x rfl (pc0 := pc) (pc' := pc1) rfl (hb C.g_by hd) rfl (Jvm.Free.XT.ii_eq_t hc) (by omega) (by omega) kk) (r1 hc)
  · subst hp; exact own_st (fun T locs X eT t kk => Jvm.Free.XS.icmpNo X.here C.g_x rfl (hb C.g_by hd) rfl (Jvm.Free.XT.ii_eq_f hc) kk) (r2 hc)
theorem own_i0_eq (C : own_Ctx p s m meth c Z own nm bytes maxL ret) {o : Int} {x : Int32} (hd : decode bytes pc = .ok (.ifCond .eq o, 3)) (ho : (pc : Int) + o = (pc1 : Int)) (hp : pc + 3 = pc2) (r1 : x = 0 → own_Run p l e R s m args below meth c n0 Kf h k q (mkF m pc1 Ls rest)) (r2 : ¬ x = 0 → own_Run p l e R s m args below meth c n0 Kf h k q (mkF m pc2 Ls rest)) : own_Run p l e R s m args below meth c n0 Kf h k q (mkF m pc Ls (.int x :: rest)) := by
  by_cases hc : x = 0
  · exact own_st (fun T locs X eT t kk => Jvm.Free.XS.ifYes X.here C.g_x rfl (pc0 := pc) (pc' := pc1) rfl (hb C.g_by hd) rfl (Jvm.Free.XT.i0_eq_t hc) (by omega) (by omega) kk) (r1 hc)
  · subst hp; exact own_st (fun T locs X eT t kk => Jvm.Free.XS.ifNo X.here C.g_x rfl (hb C.g_by hd) rfl (Jvm.Free.XT.i0_eq_f hc) kk) (r2 hc)
theorem own_ll_eq (C : own_Ctx p s m meth c Z own nm bytes maxL ret) {o : Int} {x y : Int64} (hd : decode bytes pc = .ok (.ifCond .eq o, 3)) (ho : (pc : Int) + o = (pc1 : Int)) (hp : pc + 3 = pc2) (r1 : x = y → own_Run p l e R s m args below meth c n0 Kf h k q (mkF m pc1 Ls rest)) (r2 : ¬ x = y → own_Run p l e R s m args below meth c n0 Kf h k q (mkF m pc2 Ls rest)) : own_Run p l e R s m args below meth c n0 Kf h k q (mkF m pc Ls (.int (Jvm.Free.XT.cmpL x y) :: rest)) := by
  by_cases hc : x = y
  · exact own_st (fun T locs X eT t kk => Jvm.Free.XS.ifYes X.here C.g_x rfl (pc0 := pc) (pc' := pc1) rfl (hb C.g_by hd) rfl (Jvm.Free.XT.ll_eq_t hc) (by omega) (by omega) kk) (r1 hc)
  · subst hp; exact own_st (fun T locs X eT t kk => Jvm.Free.XS.ifNo X.here C.g_x rfl (hb C.g_by hd) rfl (Jvm.Free.XT.ll_eq_f hc) kk) (r2 hc)
theorem own_ii_ne (C : own_Ctx p s m meth c Z own nm bytes maxL ret) {o : Int} {x y : Int32} (hd : decode bytes pc = .ok (.if_icmp .ne o, 3)) (ho : (pc : Int) + o = (pc1 : Int)) (hp : pc + 3 = pc2) (r1 : ¬ x = y → own_Run p l e R s m args below meth c n0 Kf h k q (mkF m pc1 Ls rest)) (r2 : x = y → own_Run p l e R s m args below meth c n0 Kf h k q (mkF m pc2 Ls rest)) : own_Run p l e R s m args below meth c n0 Kf h k q (mkF m pc Ls (.int y :: .int x :: rest)) := by
  by_cases hc : x = y
  · subst hp; exact own_st (fun T locs X eT t kk => Jvm.Free.XS.icmpNo X.here C.g_x rfl (hb C.g_by hd) rfl (Jvm.Free.XT.ii_ne_f hc) kk) (r2 hc)
  · exact own_st (fun T locs X eT t kk => Jvm.Free.XS.icmpYes X.here C.g_x rfl (pc0 := pc) (pc' := pc1) rfl (hb C.g_by hd) rfl (Jvm.Free.XT.ii_ne_t hc) (by omega) (by omega) kk) (r1 hc)
theorem own_i0_ne (C : own_Ctx p s m meth c Z own nm bytes maxL ret) {o : Int} {x : Int32} (hd : decode bytes pc = .ok (.ifCond .ne o, 3)) (ho : (pc : Int) + o = (pc1 : Int)) (hp : pc + 3 = pc2) (r1 : ¬ x = 0 → own_Run p l e R s m args below meth c n0 Kf h k q (mkF m pc1 Ls rest)) (r2 : x = 0 → own_Run p l e R s m args below meth c n0 Kf h k q (mkF m pc2 Ls rest)) : own_Run p l e R s m args below meth c n0 Kf h k q (mkF m pc Ls (.int x :: rest)) := by
  by_cases hc : x = 0
  · subst hp; exact own_st (fun T locs X eT t kk => Jvm.Free.XS.ifNo X.here C.g_x rfl (hb C.g_by hd) rfl (Jvm.Free.XT.i0_ne_f hc) kk) (r2 hc)
  · exact own_st (fun T locs X eT t kk => Jvm.Free.XS.ifYes X.here C.g_x rfl (pc0 := pc) (pc' := pc1) rfl (hb C.g_by hd) rfl (Jvm.Free.XT.i0_ne_t hc) (by omega) (by omega) kk) (r1 hc)
theorem own_ll_ne (C : own_Ctx p s m meth c Z own nm bytes maxL ret) {o : Int} {x y : Int64} (hd : decode bytes pc = .ok (.ifCond .ne o, 3)) (ho : (pc : Int) + o = (pc1 : Int)) (hp : pc + 3 = pc2) (r1 : ¬ x = y → own_Run p l e R s m args below meth c n0 Kf h k q (mkF m pc1 Ls rest)) (r2 : x = y → own_Run p l e R s m args below meth c n0 Kf h k q (mkF m pc2 Ls rest)) : own_Run p l e R s m args below meth c n0 Kf h k q (mkF m pc Ls (.int (Jvm.Free.XT.cmpL x y) :: rest)) := by
  by_cases hc : x = y
  · subst hp; exact own_st (fun T locs X eT t kk => Jvm.Free.XS.ifNo X.here C.g_x rfl (hb C.g_by hd) rfl (Jvm.Free.XT.ll_ne_f hc) kk) (r2 hc)
  · exact own_st (fun T locs X eT t kk => Jvm.Free.XS.ifYes X.here C.g_x rfl (pc0 := pc) (pc' := pc1) rfl (hb C.g_by hd) rfl (Jvm.Free.XT.ll_ne_t hc) (by omega) (by omega) kk) (r1 hc)
theorem own_ii_lt (C : own_Ctx p s m meth c Z own nm bytes maxL ret) {o : Int} {x y : Int32} (hd : decode bytes pc = .ok (.if_icmp .lt o, 3)) (ho : (pc : Int) + o = (pc1 : Int)) (hp : pc + 3 = pc2) (r1 : x < y → own_Run p l e R s m args below meth c n0 Kf h k q (mkF m pc1 Ls rest)) (r2 : ¬ x < y → own_Run p l e R s m args below meth c n0 Kf h k q (mkF m pc2 Ls rest)) : own_Run p l e R s m args below meth c n0 Kf h k q (mkF m pc Ls (.int y :: .int x :: rest)) := by
  by_cases hc : x < y
  · exact own_st (fun T locs X eT t kk => Jvm.Free.XS.icmpYes X.here C.g_x rfl (pc0 := pc) (pc' := pc1) rfl (hb C.g_by hd) rfl (Jvm.Free.XT.ii_lt_t hc) (by omega) (by omega) kk) (r1 hc)
  · subst hp; exact own_st (fun T locs X eT t kk => Jvm.Free.XS.icmpNo X.here C.g_x rfl (hb C.g_by hd) rfl (Jvm.Free.XT.ii_lt_f hc) kk) (r2 hc)
theorem own_i0_lt (C : own_Ctx p s m meth c Z own nm bytes maxL ret) {o : Int} {x : Int32} (hd : decode bytes pc = .ok (.ifCond .lt o, 3)) (ho : (pc : Int) + o = (pc1 : Int)) (hp : pc + 3 = pc2) (r1 : x < 0 → own_Run p l e R s m args below meth c n0 Kf h k q (mkF m pc1 Ls rest)) (r2 : ¬ x < 0 → own_Run p l e R s m args below meth c n0 Kf h k q (mkF m pc2 Ls rest)) : own_Run p l e R s m args below meth c n0 Kf h k q (mkF m pc Ls (.int x :: rest)) := by
  by_cases hc : x < 0
  · exact own_st (fun T locs X eT t kk => Jvm.Free.XS.ifYes X.here C.g_x rfl (pc0 := pc) (pc' := pc1) rfl (hb C.g_by hd) rfl (Jvm.Free.XT.i0_lt_t hc) (by omega) (by omega) kk) (r1 hc)
  · subst hp; exact own_st (fun T locs X eT t kk => Jvm.Free.XS.ifNo X.here C.g_x rfl (hb C.g_by hd) rfl (Jvm.Free.XT.i0_lt_f hc) kk) (r2 hc)
theorem own_ll_lt (C : own_Ctx p s m meth c Z own nm bytes maxL ret) {o : Int} {x y : Int64} (hd : decode bytes pc = .ok (.ifCond .lt o, 3)) (ho : (pc : Int) + o = (pc1 : Int)) (hp : pc + 3 = pc2) (r1 : x < y → own_Run p l e R s m args below meth c n0 Kf h k q (mkF m pc1 Ls rest)) (r2 : ¬ x < y → own_Run p l e R s m args below meth c n0 Kf h k q (mkF m pc2 Ls rest)) : own_Run p l e R s m args below meth c n0 Kf h k q (mkF m pc Ls (.int (Jvm.Free.XT.cmpL x y) :: rest)) := by
  by_cases hc : x < y
  · exact own_st (fun T locs X eT t kk => Jvm.Free.XS.ifYes X.here C.g_x rfl (pc0 := pc) (pc' := pc1) rfl (hb C.g_by hd) rfl (Jvm.Free.XT.ll_lt_t hc) (by omega) (by omega) kk) (r1 hc)
  · subst hp; exact own_st (fun T locs X eT t kk => Jvm.Free.XS.ifNo X.here C.g_x rfl (hb C.g_by hd) rfl (Jvm.Free.XT.ll_lt_f hc) kk) (r2 hc)
theorem own_ii_ge (C : own_Ctx p s m meth c Z own nm bytes maxL ret) {o : Int} {x y : Int32} (hd : decode bytes pc = .ok (.if_icmp .ge o, 3)) (ho : (pc : Int) + o = (pc1 : Int)) (hp : pc + 3 = pc2) (r1 : ¬ x < y → own_Run p l e R s m args below meth c n0 Kf h k q (mkF m pc1 Ls rest)) (r2 : x < y → own_Run p l e R s m args below meth c n0 Kf h k q (mkF m pc2 Ls rest)) : own_Run p l e R s m args below meth c n0 Kf h k q (mkF m pc Ls (.int y :: .int x :: rest)) := by
  by_cases hc : x < y
  · subst hp; exact own_st (fun T locs X eT t kk => Jvm.Free.XS.icmpNo X.here C.g_x rfl (hb C.g_by hd) rfl (Jvm.Free.XT.ii_ge_f hc) kk) (r2 hc)
  · exact own_st (fun T locs X eT t kk => Jvm.Free.XS.icmpYes X.here C.g_x rfl (pc0 := pc) (pc' := pc1) rfl (hb C.g_by hd) rfl (Jvm.Free.XT.ii_ge_t hc) (by omega) (by omega) kk) (r1 hc)
theorem own_i0_ge (C : own_Ctx p s m meth c Z own nm bytes maxL ret) {o : Int} {x : Int32} (hd : decode bytes pc = .ok (.ifCond .ge o, 3)) (ho : (pc : Int) + o = (pc1 : Int)) (hp : pc + 3 = pc2) (r1 : ¬ x < 0 → own_Run p l e R s m args below meth c n0 Kf h k q (mkF m pc1 Ls rest)) (r2 : x < 0 → own_Run p l e R s m args below meth c n0 Kf h k q (mkF m pc2 Ls rest)) : own_Run p l e R s m args below meth c n0 Kf h k q (mkF m pc Ls (.int x :: rest)) := by
  by_cases hc : x < 0
  · subst hp; exact own_st (fun T locs X eT t kk => Jvm.Free.XS.ifNo X.here C.g_x rfl (hb C.g_by hd) rfl (Jvm.Free.XT.i0_ge_f hc) kk) (r2 hc)
  · exact own_st (fun T locs X eT t kk => Jvm.Free.XS.ifYes X.here C.g_x rfl (pc0 := pc) (pc' := pc1) rfl (hb C.g_by hd) rfl (Jvm.Free.XT.i0_ge_t hc) (by omega) (by omega) kk) (r1 hc)
theorem own_ll_ge (C : own_Ctx p s m meth c Z own nm bytes maxL ret) {o : Int} {x y : Int64} (hd : decode bytes pc = .ok (.ifCond .ge o, 3)) (ho : (pc : Int) + o = (pc1 : Int)) (hp : pc + 3 = pc2) (r1 : ¬ x < y → own_Run p l e R s m args below meth c n0 Kf h k q (mkF m pc1 Ls rest)) (r2 : x < y → own_Run p l e R s m args below meth c n0 Kf h k q (mkF m pc2 Ls rest)) : own_Run p l e R s m args below meth c n0 Kf h k q (mkF m pc Ls (.int (Jvm.Free.XT.cmpL x y) :: rest)) := by
  by_cases hc : x < y
  · subst hp; exact own_st (fun T locs X eT t kk => Jvm.Free.XS.ifNo X.here C.g_x rfl (hb C.g_by hd) rfl (Jvm.Free.XT.ll_ge_f hc) kk) (r2 hc)
  · exact own_st (fun T locs X eT t kk => Jvm.Free.XS.ifYes X.here C.g_x rfl (pc0 := pc) (pc' := pc1) rfl (hb C.g_by hd) rfl (Jvm.Free.XT.ll_ge_t hc) (by omega) (by omega) kk) (r1 hc)
theorem own_ii_gt (C : own_Ctx p s m meth c Z own nm bytes maxL ret) {o : Int} {x y : Int32} (hd : decode bytes pc = .ok (.if_icmp .gt o, 3)) (ho : (pc : Int) + o = (pc1 : Int)) (hp : pc + 3 = pc2) (r1 : y < x → own_Run p l e R s m args below meth c n0 Kf h k q (mkF m pc1 Ls rest)) (r2 : ¬ y < x → own_Run p l e R s m args below meth c n0 Kf h k q (mkF m pc2 Ls rest)) : own_Run p l e R s m args below meth c n0 Kf h k q (mkF m pc Ls (.int y :: .int x :: rest)) := by
  by_cases hc : y < x
  · exact own_st (fun T locs X eT t kk => Jvm.Free.XS.icmpYes X.here C.g_x rfl (pc0 := pc) (pc' := pc1) rfl (hb C.g_by hd) rfl (Jvm.Free.XT.ii_gt_t hc) (by omega) (by omega) kk) (r1 hc)
  · subst hp; exact own_st (fun T locs X eT t kk => Jvm.Free.XS.icmpNo X.here C.g_x rfl (hb C.g_by hd) rfl (Jvm.Free.XT.ii_gt_f hc) kk) (r2 hc)
theorem own_i0_gt (C : own_Ctx p s m meth c Z own nm bytes maxL ret) {o : Int} {x : Int32} (hd : decode bytes pc = .ok (.ifCond .gt o, 3)) (ho : (pc : Int) + o = (pc1 : Int)) (hp : pc + 3 = pc2) (r1 : 0 < x → own_Run p l e R s m args below meth c n0 Kf h k q (mkF m pc1 Ls rest)) (r2 : ¬ 0 < x → own_Run p l e R s m args below meth c n0 Kf h k q (mkF m pc2 Ls rest)) : own_Run p l e R s m args below meth c n0 Kf h k q (mkF m pc Ls (.int x :: rest)) := by
  by_cases hc : 0 < x
  · exact own_st (fun T locs X eT t kk => Jvm.Free.XS.ifYes X.here C.g_x rfl (pc0 := pc) (pc' := pc1) rfl (hb C.g_by hd) rfl (Jvm.Free.XT.i0_gt_t hc) (by omega) (by omega) kk) (r1 hc)
  · subst hp; exact own_st (fun T locs X eT t kk => Jvm.Free.XS.ifNo X.here C.g_x rfl (hb C.g_by hd) rfl (Jvm.Free.XT.i0_gt_f hc) kk) (r2 hc)
theorem own_ll_gt (C : own_Ctx p s m meth c Z own nm bytes maxL ret) {o : Int} {x y : Int64} (hd : decode bytes pc = .ok (.ifCond .gt o, 3)) (ho : (pc : Int) + o = (pc1 : Int)) (hp : pc + 3 = pc2) (r1 : y < x → own_Run p l e R s m args below meth c n0 Kf h k q (mkF m pc1 Ls rest)) (r2 : ¬ y < x → own_Run p l e R s m args below meth c n0 Kf h k q (mkF m pc2 Ls rest)) : own_Run p l e R s m args below meth c n0 Kf h k q (mkF m pc Ls (.int (Jvm.Free.XT.cmpL x y) :: rest)) := by
  by_cases hc : y < x
  · exact own_st (fun T locs X eT t kk => Jvm.Free.XS.ifYes X.here C.g_x rfl (pc0 := pc) (pc' := pc1) rfl (hb C.g_by hd) rfl (Jvm.Free.XT.ll_gt_t hc) (by omega) (by omega) kk) (r1 hc)
  · subst hp; exact own_st (fun T locs X eT t kk => Jvm.Free.XS.ifNo X.here C.g_x rfl (hb C.g_by hd) rfl (Jvm.Free.XT.ll_gt_f hc) kk) (r2 hc)
theorem own_ii_le (C : own_Ctx p s m meth c Z own nm bytes maxL ret) {o : Int} {x y : Int32} (hd : decode bytes pc = .ok (.if_icmp .le o, 3)) (ho : (pc : Int) + o = (pc1 : Int)) (hp : pc + 3 = pc2) (r1 : ¬ y < x → own_Run p l e R s m args below meth c n0 Kf h k q (mkF m pc1 Ls rest)) (r2 : y < x → own_Run p l e R s m args below meth c n0 Kf h k q (mkF m pc2 Ls rest)) : own_Run p l e R s m args below meth c n0 Kf h k q (mkF m pc Ls (.int y :: .int x :: rest)) := by
  by_cases hc : y < x
  · subst hp; exact own_st (fun T locs X eT t kk => Jvm.Free.XS.icmpNo X.here C.g_x rfl (hb C.g_by hd) rfl (Jvm.Free.XT.ii_le_f hc) kk) (r2 hc)
  · exact own_st (fun T locs X eT t kk => Jvm.Free.XS.icmpYes X.here C.g_x rfl (pc0 := pc) (pc' := pc1) rfl (hb C.g_by hd) rfl (Jvm.Free.XT.ii_le_t hc) (by omega) (by omega) kk) (r1 hc)
theorem own_i0_le (C : own_Ctx p s m meth c Z own nm bytes maxL ret) {o : Int} {x : Int32} (hd : decode bytes pc = .ok (.ifCond .le o, 3)) (ho : (pc : Int) + o = (pc1 : Int)) (hp : pc + 3 = pc2) (r1 : ¬ 0 < x → own_Run p l e R s m args below meth c n0 Kf h k q (mkF m pc1 Ls rest)) (r2 : 0 < x → own_Run p l e R s m args below meth c n0 Kf h k q (mkF m pc2 Ls rest)) : own_Run p l e R s m args below meth c n0 Kf h k q (mkF m pc Ls (.int x :: rest)) := by
  by_cases hc : 0 < x
  · subst hp; exact own_st (fun T locs X eT t kk => Jvm.Free.XS.ifNo X.here C.g_x rfl (hb C.g_by hd) rfl (Jvm.Free.XT.i0_le_f hc) kk) (r2 hc)
  · exact own_st (fun T locs X eT t kk => Jvm.Free.XS.ifYes X.here C.g_x rfl (pc0 := pc) (pc' := pc1) rfl (hb C.g_by hd) rfl (Jvm.Free.XT.i0_le_t hc) (by omega) (by omega) kk) (r1 hc)
theorem own_ll_le (C : own_Ctx p s m meth c Z own nm bytes maxL ret) {o : Int} {x y : Int64} (hd : decode bytes pc = .ok (.ifCond .le o, 3)) (ho : (pc : Int) + o = (pc1 : Int)) (hp : pc + 3 = pc2) (r1 : ¬ y < x → own_Run p l e R s m args below meth c n0 Kf h k q (mkF m pc1 Ls rest)) (r2 : y < x → own_Run p l e R s m args below meth c n0 Kf h k q (mkF m pc2 Ls rest)) : own_Run p l e R s m args below meth c n0 Kf h k q (mkF m pc Ls (.int (Jvm.Free.XT.cmpL x y) :: rest)) := by
  by_cases hc : y < x
  · subst hp; exact own_st (fun T locs X eT t kk => Jvm.Free.XS.ifNo X.here C.g_x rfl (hb C.g_by hd) rfl (Jvm.Free.XT.ll_le_f hc) kk) (r2 hc)
  · exact own_st (fun T locs X eT t kk => Jvm.Free.XS.ifYes X.here C.g_x rfl (pc0 := pc) (pc' := pc1) rfl (hb C.g_by hd) rfl (Jvm.Free.XT.ll_le_t hc) (by omega) (by omega) kk) (r1 hc)
theorem own_aa_eq (C : own_Ctx p s m meth c Z own nm bytes maxL ret) {o : Int} {x y : Value} (hx1 : x.isRef = true) (hy1 : y.isRef = true) (hd : decode bytes pc = .ok (.if_acmp .eq o, 3)) (ho : (pc : Int) + o = (pc1 : Int)) (hp : pc + 3 = pc2) (r1 : x = y → own_Run p l e R s m args below meth c n0 Kf h k q (mkF m pc1 Ls rest)) (r2 : ¬ x = y → own_Run p l e R s m args below meth c n0 Kf h k q (mkF m pc2 Ls rest)) : own_Run p l e R s m args below meth c n0 Kf h k q (mkF m pc Ls (y :: x :: rest)) := by
  by_cases hc : x = y
  · exact own_st (fun T locs X eT t kk => Jvm.Free.XT.acmpYes X.here C.g_x rfl (pc0 := pc) (pc' := pc1) rfl (hb C.g_by hd) rfl hx1 hy1 (Jvm.Free.XT.aa_eq_t hc) (by omega) (by omega) kk) (r1 hc)
  · subst hp; exact own_st (fun T locs X eT t kk => Jvm.Free.XT.acmpNo X.here C.g_x rfl (hb C.g_by hd) rfl hx1 hy1 (Jvm.Free.XT.aa_eq_f hc) kk) (r2 hc)
theorem own_aa_ne (C : own_Ctx p s m meth c Z own nm bytes maxL ret) {o : Int} {x y : Value} (hx1 : x.isRef = true) (hy1 : y.isRef = true) (hd : decode bytes pc = .ok (.if_acmp .ne o, 3)) (ho : (pc : Int) + o = (pc1 : Int)) (hp : pc + 3 = pc2) (r1 : ¬ x = y → own_Run p l e R s m args below meth c n0 Kf h k q (mkF m pc1 Ls rest)) (r2 : x = y → own_Run p l e R s m args below meth c n0 Kf h k q (mkF m pc2 Ls rest)) : own_Run p l e R s m args below meth c n0 Kf h k q (mkF m pc Ls (y :: x :: rest)) := by
  by_cases hc : x = y
  · subst hp; exact own_st (fun T locs X eT t kk => Jvm.Free.XT.acmpNo X.here C.g_x rfl (hb C.g_by hd) rfl hx1 hy1 (Jvm.Free.XT.aa_ne_f hc) kk) (r2 hc)
  · exact own_st (fun T locs X eT t kk => Jvm.Free.XT.acmpYes X.here C.g_x rfl (pc0 := pc) (pc' := pc1) rfl (hb C.g_by hd) rfl hx1 hy1 (Jvm.Free.XT.aa_ne_t hc) (by omega) (by omega) kk) (r1 hc)
theorem own_nullNo (C : own_Ctx p s m meth c Z own nm bytes maxL ret) {o : Int} {a : Addr} (hd : decode bytes pc = .ok (.ifnull o, 3)) (hp : pc + 3 = pc') (r : own_Run p l e R s m args below meth c n0 Kf h k q (mkF m pc' Ls rest)) : own_Run p l e R s m args below meth c n0 Kf h k q (mkF m pc Ls (.ref a :: rest)) :=
  own_st (fun T locs X eT t kk => by subst hp; exact Jvm.Free.XS.ifnullNo X.here C.g_x rfl (hb C.g_by hd) rfl kk) r
theorem own_getF (C : own_Ctx p s m meth c Z own nm bytes maxL ret) {i : Nat} {O n d : String} {a : Addr} {v : Value} (w : (Jvm.Cond.fieldLink own i O n d).before a0 Z = true) (F : Fld Z h a O n d v) (hd : decode bytes pc = .ok (.getfield i, 3)) (hp : pc + 3 = pc') (r : own_Run p l e R s m args below meth c n0 Kf h k q (mkF m pc' Ls (v :: rest))) : own_Run p l e R s m args below meth c n0 Kf h k q (mkF m pc Ls (.ref a :: rest)) := fun T locs X eT N => by
  subst hp
  obtain ⟨T1, X1, e1, st1⟩ := getF X C.g_x C.g_z C.g_own (host := "") (Or.inl w) Via.refl eT F (g := mkF m pc Ls (.ref a :: rest)) rfl rfl (hb C.g_by hd)
  obtain ⟨t, o, h1, h2⟩ := r T1 locs X1 e1 N
  exact ⟨t, o, st1 _ h1, h2⟩
theorem own_putF (C : own_Ctx p s m meth c Z own nm bytes maxL ret) {i kk : Nat} {O n d K : String} {a : Addr} {v old : Value} {ty : FieldType} (w : (Jvm.Cond.fieldLink own i O n d).before a0 Z = true) (F : Fld Z h a O n d old) (E : Exa Z h a K) (L : (Jvm.Cond.lays K O n d).before a0 Z = true ∨ ((Jvm.Cond.laysFinal K O n d).before a0 Z = true ∧ own = O ∧ nm = "<init>")) (wi : (Jvm.Cond.instantiable K kk).before a0 Z = true) (hty : parseFieldDescriptor d = some ty) (hn : narrow ty v = v) (hf : fits ty v = true) (ga : n0 ≤ a) (hd : decode bytes pc = .ok (.putfield i, 3)) (hp : pc + 3 = pc')
    (r : ∀ h', Wr h h' a (Jvm.RoadKit.slotOf Z O n d) v → own_Run p l e R s m args below meth c n0 Kf h' k q (mkF m pc' Ls rest)) : own_Run p l e R s m args below meth c n0 Kf h k q (mkF m pc Ls (v :: .ref a :: rest)) := fun T locs X eT N => by
  subst hp
  obtain ⟨T1, h1, X1, e1, W1, st1⟩ := putF X C.g_x C.g_z C.g_own (host := "") (Or.inl w) Via.refl eT F E (L.imp id fun x => ⟨x.1, x.2.1, C.g_nm.trans x.2.2⟩) wi hty hn hf (g := mkF m pc Ls (v :: .ref a :: rest)) rfl rfl (hb C.g_by hd)
  obtain ⟨t, o, h2, h3⟩ := r h1 W1 T1 _ X1 e1 (Fr.snoc X1 N ga)
  exact ⟨t, o, st1 _ h2, h3⟩
theorem own_getS (C : own_Ctx p s m meth c Z own nm bytes maxL ret) {i : Nat} {O n d : String} {v : Value} (w : (Jvm.Cond.fieldLink own i O n d).before a0 Z = true) (F : Sta Z h O n d v) (hd : decode bytes pc = .ok (.getstatic i, 3)) (hp : pc + 3 = pc') (r : own_Run p l e R s m args below meth c n0 Kf h k q (mkF m pc' Ls (v :: rest))) : own_Run p l e R s m args below meth c n0 Kf h k q (mkF m pc Ls rest) := fun T locs X eT N => by
  subst hp
  obtain ⟨T1, X1, e1, st1⟩ := getS (host := "") X C.g_x C.g_z C.g_own w Via.refl eT F (g := mkF m pc Ls rest) rfl (hb C.g_by hd)
  obtain ⟨t, o, h1, h2⟩ := r T1 locs X1 e1 N
  exact ⟨t, o, st1 _ h1, h2⟩
theorem own_new (C : own_Ctx p s m meth c Z own nm bytes maxL ret) {i n : Nat} {K : String} (w : (Jvm.Cond.classLink own i K).before a0 Z = true) (wi : (Jvm.Cond.instantiable K n).before a0 Z = true) (wz : (Jvm.Cond.initialized K).before a0 Z = true) (Z0 : n0 ≤ h.size) (hd : decode bytes pc = .ok (.new i, 3)) (hp : pc + 3 = pc') (hc : k + 1 ≤ R.cells) (hs : q + n ≤ R.slots)
    (r : ∀ h' a, a = h.size → n0 ≤ a → n0 ≤ h'.size → Ext h h' → Exa Z h' a K → (∀ {O nm d : String} {ty : FieldType}, Laid Z a0 K O nm d → parseFieldDescriptor d = some ty → Fld Z h' a O nm d (defaultValue ty)) → own_Run p l e R s m args below meth c n0 Kf h' (k + 1) (q + n) (mkF m pc' Ls (.ref a :: rest))) : own_Run p l e R s m args below meth c n0 Kf h k q (mkF m pc Ls rest) := fun T locs X eT N => by
  subst hp
  obtain ⟨T1, h1, X1, e1, E1, A1, D1, -, st1⟩ := newO X C.g_x C.g_z C.g_own w wi wz eT (g := mkF m pc Ls rest) rfl (hb C.g_by hd) hc hs
  obtain ⟨t, o, h2, h3⟩ := r h1 h.size rfl Z0 (Nat.le_trans Z0 E1.1) E1 A1 (fun L ht => D1 L ht) T1 _ X1 e1 N
  exact ⟨t, o, st1 _ h2, h3⟩
theorem own_initO (C : own_Ctx p s m meth c Z own nm bytes maxL ret) {i : Nat} {a : Addr} {W : Nat} (w1 : (Jvm.Cond.methodLink own i Lib.objectInit).before a0 Z = true) (w2 : (Jvm.Cond.instanceMethod Lib.objectInit).before a0 Z = true) (w3 : (Jvm.Cond.code Lib.objectInit ⟨#[0xb1]⟩ 1 none).before a0 Z = true) (hd : decode bytes pc = .ok (.invokespecial i, 3)) (hp : pc + 3 = pc') (hsz : Ls.size = maxL) (hf : 1 ≤ R.frames) (hW : 0 + (rest.map fun v => v.category).sum ≤ W) (hl : W + 12 ≤ R.locals)
    (r : own_Run p l e R s m args below meth c n0 Kf h k q (mkF m pc' Ls rest)) : own_Run p l e R s m args below meth c n0 Kf h k q (mkF m pc Ls (.ref a :: rest)) := fun T locs X eT N => by
  subst hp
  obtain ⟨T1, X1, e1, st1⟩ := initO X C.g_x C.g_z C.g_own w1 w2 w3 eT (g := mkF m pc Ls (.ref a :: rest)) rfl (by rw [C.g_ml]; exact hsz) rfl (hb C.g_by hd) hf (W := W) (by show 2 * 0 + _ ≤ _; exact hW) hl
  obtain ⟨t, o, h1, h2⟩ := r T1 locs X1 e1 N
  exact ⟨t, o, st1 _ h1, h2⟩
theorem own_callN (C : own_Ctx p s m meth c Z own nm bytes maxL ret) {i : Nat} {y : MethodName} {cb : ByteArray} {cm : Nat} {rm : Room} {a : Addr} {argsL : List Value} {Q' : Option Value → Heap → Prop} (W : Nat) (hy1 : y.name = "<init>") (w1 : (Jvm.Cond.methodLink own i y).before a0 Z = true) (w2 : (Jvm.Cond.instanceMethod y).before a0 Z = true) (w3 : (Jvm.Cond.code y cb cm none).before a0 Z = true) (w4 : (Jvm.Cond.initialized y.cls).before a0 Z = true) (hy : y.cls ≠ "java/lang/invoke/MethodHandle" ∧ y.cls ≠ "java/lang/invoke/VarHandle")
    (hM : own_Met l Z n0 y cb cm none rm [] (.ref a :: argsL).toArray h Q') (hf : rm.frames + 1 ≤ R.frames) (hl : W + (cm + 11) + rm.locals ≤ R.locals) (hlen : ∀ sig, parseMethodDescriptor y.desc = some sig → argsL.length = sig.parameters.length) {st : List Value} (hst : st = argsL.reverse ++ .ref a :: rest) (hW : 0 + (rest.map fun v => v.category).sum ≤ W) (hd : decode bytes pc = .ok (.invokespecial i, 3)) (hp : pc + 3 = pc') (hsz : Ls.size = maxL) (hc : k + rm.cells ≤ R.cells) (hs : q + rm.slots ≤ R.slots)
    (r : ∀ v h', Q' v h' → own_Run p l e R s m args below meth c n0 Kf h' (k + rm.cells) (q + rm.slots) (mkF m pc' Ls (v.toList ++ rest))) : own_Run p l e R s m args below meth c n0 Kf h k q (mkF m pc Ls st) := fun T locs X eT N => by
  subst hp
  obtain ⟨v, _, ⟨T1, L1, k1, n1⟩, -, X1, ⟨Lc1, hQ1, l1, y1, z1⟩, st1⟩ := X.specialBack C.g_x (y := y) hy1 C.g_own (mvT C.g_z w1) (mvT C.g_z w2) (mvT C.g_z w3) hy (backOf (W := W) (Q := fun v h L => Fr n0 L ∧ Q' v h) hM C.g_z w3 w4 hf hl) (g := mkF m pc Ls st) rfl (by rw [C.g_ml]; exact hsz) (Steps.refl _) (a := a) (argsL := argsL) (rest := rest) hlen hst (by show 2 * 0 + _ ≤ _; exact hW) (hb C.g_by hd) (fun _ _ => ⟨rfl, eT, hc, hs⟩)
  dsimp only [Pt.U, Pt.locs, Pt.cells, Pt.slots] at X1 l1 y1 z1 st1 hQ1
  subst l1 y1 z1
  obtain ⟨t, o, h2, h3⟩ := r v T1.heap hQ1.2 T1 _ X1 rfl (Fr.app N hQ1.1)
  exact ⟨t, o, st1.trans h2, h3⟩
theorem own_callV (C : own_Ctx p s m meth c Z own nm bytes maxL ret) {i : Nat} {y : MethodName} {cb : ByteArray} {cm : Nat} {cret : Option FieldType} {rm : Room} {a : Addr} {argsL : List Value} {Q' : Option Value → Heap → Prop} (W : Nat) (E : Exa Z h a y.cls) (w1 : (Jvm.Cond.methodLink own i y).before a0 Z = true) (w2 : (Jvm.Cond.declares y).before a0 Z = true) (w3 : (Jvm.Cond.selects y.cls y y).before a0 Z = true) (w4 : (Jvm.Cond.instanceMethod y).before a0 Z = true) (w5 : (Jvm.Cond.code y cb cm cret).before a0 Z = true) (w6 : (Jvm.Cond.initialized y.cls).before a0 Z = true) (hy : y.cls ≠ "java/lang/invoke/MethodHandle" ∧ y.cls ≠ "java/lang/invoke/VarHandle")
    (hM : own_Met l Z n0 y cb cm cret rm [] (.ref a :: argsL).toArray h Q') (hf : rm.frames + 1 ≤ R.frames) (hl : W + (cm + 11) + rm.locals ≤ R.locals) (hlen : ∀ sig, parseMethodDescriptor y.desc = some sig → argsL.length = sig.parameters.length) {st : List Value} (hst : st = argsL.reverse ++ .ref a :: rest) (hW : 0 + (rest.map fun v => v.category).sum ≤ W) (hd : decode bytes pc = .ok (.invokevirtual i, 3)) (hp : pc + 3 = pc') (hsz : Ls.size = maxL) (hc : k + rm.cells ≤ R.cells) (hs : q + rm.slots ≤ R.slots)
    (r : ∀ v h', Q' v h' → own_Run p l e R s m args below meth c n0 Kf h' (k + rm.cells) (q + rm.slots) (mkF m pc' Ls (v.toList ++ rest))) : own_Run p l e R s m args below meth c n0 Kf h k q (mkF m pc Ls st) := fun T locs X eT N => by
  subst hp
  obtain ⟨cq, kq, qa, qb, qc⟩ := isOf C.g_z eT E
  obtain ⟨v, _, ⟨T1, L1, k1, n1⟩, -, X1, ⟨Lc1, hQ1, l1, y1, z1⟩, st1⟩ := X.virtualBack C.g_x (y := y) (z := y) C.g_own (mvT C.g_z w1) (mvT C.g_z w2) (notFace_of_selects (args := #[]) (mvT C.g_z w3)) (mvT C.g_z w3) (mvT C.g_z w4) hy (backOf (W := W) (Q := fun v h L => Fr n0 L ∧ Q' v h) hM C.g_z w5 w6 hf hl) qa qc (g := mkF m pc Ls st) rfl (by rw [C.g_ml]; exact hsz) (Steps.refl _) (argsL := argsL) (rest := rest) hlen hst (by show 2 * 0 + _ ≤ _; exact hW) (hb C.g_by hd) (fun _ _ => ⟨rfl, eT, hc, hs⟩)
  dsimp only [Pt.U, Pt.locs, Pt.cells, Pt.slots] at X1 l1 y1 z1 st1 hQ1
  subst l1 y1 z1
  obtain ⟨t, o, h2, h3⟩ := r v T1.heap hQ1.2 T1 _ X1 rfl (Fr.app N hQ1.1)
  exact ⟨t, o, st1.trans h2, h3⟩
theorem own_callS (C : own_Ctx p s m meth c Z own nm bytes maxL ret) {i : Nat} {y : MethodName} {cb : ByteArray} {cm : Nat} {cret : Option FieldType} {rm : Room} {argsL : List Value} {Q' : Option Value → Heap → Prop} (W : Nat) (w1 : (Jvm.Cond.methodLink own i y).before a0 Z = true) (w2 : (Jvm.Cond.static y).before a0 Z = true) (w3 : (Jvm.Cond.initialized y.cls).before a0 Z = true) (w4 : (Jvm.Cond.code y cb cm cret).before a0 Z = true) (hy : y.cls ≠ "java/lang/invoke/MethodHandle" ∧ y.cls ≠ "java/lang/invoke/VarHandle")
    (hM : own_Met l Z n0 y cb cm cret rm [] argsL.toArray h Q') (hf : rm.frames + 1 ≤ R.frames) (hl : W + (cm + 11) + rm.locals ≤ R.locals) (hlen : ∀ sig, parseMethodDescriptor y.desc = some sig → argsL.length = sig.parameters.length) {st : List Value} (hst : st = argsL.reverse ++ rest) (hW : 0 + (rest.map fun v => v.category).sum ≤ W) (hd : decode bytes pc = .ok (.invokestatic i, 3)) (hp : pc + 3 = pc') (hsz : Ls.size = maxL) (hc : k + rm.cells ≤ R.cells) (hs : q + rm.slots ≤ R.slots)
    (r : ∀ v h', Q' v h' → own_Run p l e R s m args below meth c n0 Kf h' (k + rm.cells) (q + rm.slots) (mkF m pc' Ls (v.toList ++ rest))) : own_Run p l e R s m args below meth c n0 Kf h k q (mkF m pc Ls st) := fun T locs X eT N => by
  subst hp
  obtain ⟨v, _, ⟨T1, L1, k1, n1⟩, -, X1, ⟨Lc1, hQ1, l1, y1, z1⟩, st1⟩ := Jvm.LawKit.callS X C.g_x (y := y) C.g_own (mvT C.g_z w1) (mvT C.g_z w2) (mvT C.g_z w3) (mvT C.g_z w4) hy (backOf (W := W) (Q := fun v h L => Fr n0 L ∧ Q' v h) hM C.g_z w4 w3 hf hl) (g := mkF m pc Ls st) rfl (by rw [C.g_ml]; exact hsz) (argsL := argsL) (rest := rest) hlen hst (by show 2 * 0 + _ ≤ _; exact hW) (hb C.g_by hd) (fun _ _ => ⟨rfl, eT, hc, hs⟩)
  dsimp only [Pt.U, Pt.locs, Pt.cells, Pt.slots] at X1 l1 y1 z1 st1 hQ1
  subst l1 y1 z1
  obtain ⟨t, o, h2, h3⟩ := r v T1.heap hQ1.2 T1 _ X1 rfl (Fr.app N hQ1.1)
  exact ⟨t, o, st1 _ h2, h3⟩
theorem own_callP (C : own_Ctx p s m meth c Z own nm bytes maxL ret) {i nf : Nat} {y : MethodName} {cb : ByteArray} {cm : Nat} {cret : Option FieldType} {rm : Room} {a : Addr} {argsL : List Value} {K : String} {Q' : Option Value → Heap → Prop} (W : Nat) (E : Exa Z h a K) (w1 : (Jvm.Cond.methodLink own i y).before a0 Z = true) (w2 : (Jvm.Cond.instanceMethod y).before a0 Z = true) (w3 : (Jvm.Cond.privateMethod y).before a0 Z = true) (w4 : (Jvm.Cond.instantiable y.cls nf).before a0 Z = true) (w5 : (Jvm.Cond.code y cb cm cret).before a0 Z = true) (w6 : (Jvm.Cond.initialized y.cls).before a0 Z = true) (hy : y.cls ≠ "java/lang/invoke/MethodHandle" ∧ y.cls ≠ "java/lang/invoke/VarHandle")
    (hM : own_Met l Z n0 y cb cm cret rm [] (.ref a :: argsL).toArray h Q') (hf : rm.frames + 1 ≤ R.frames) (hl : W + (cm + 11) + rm.locals ≤ R.locals) (hlen : ∀ sig, parseMethodDescriptor y.desc = some sig → argsL.length = sig.parameters.length) {st : List Value} (hst : st = argsL.reverse ++ .ref a :: rest) (hW : 0 + (rest.map fun v => v.category).sum ≤ W) (hd : decode bytes pc = .ok (.invokevirtual i, 3)) (hp : pc + 3 = pc') (hsz : Ls.size = maxL) (hc : k + rm.cells ≤ R.cells) (hs : q + rm.slots ≤ R.slots)
    (r : ∀ v h', Q' v h' → own_Run p l e R s m args below meth c n0 Kf h' (k + rm.cells) (q + rm.slots) (mkF m pc' Ls (v.toList ++ rest))) : own_Run p l e R s m args below meth c n0 Kf h k q (mkF m pc Ls st) := fun T locs X eT N => by
  subst hp
  have hK := backOf (l := l) (R := R) (p := p) (e := e) (s := s) (below := below) (args := args) (len := 3) (W := W) (Q := fun v h L => Fr n0 L ∧ Q' v h) hM C.g_z w5 w6 hf hl
  obtain ⟨mk, mM, hnamed, hmM, hsta, hab⟩ := Cond.instanceMethod_spec (mvT (args := args) C.g_z w2)
  obtain ⟨mM', cM, hmM', -, -, -, -, -, -, hsig⟩ := Cond.code_spec hnamed (mvT (args := args) C.g_z w5)
  cases hmM.symm.trans hmM'
  obtain ⟨cI, kI, i1, i2, -, i4, -⟩ := Cond.instantiable_spec (mvT (args := args) C.g_z w4)
  cases i1.symm.trans (findClass_of_methodNamed hnamed)
  have hni : kI.isInterface = false := (Bool.or_eq_false_iff.mp i4).1
  obtain ⟨cell, hc1, hc2⟩ := E.cell
  have hsel := selectMethod_private (p := e.platform) (c := cell.cls) hmM (Cond.privateMethod_at (mvP C.g_z w3 (args := #[])) mk mM hnamed hmM)
  obtain ⟨vm1, X1, st1⟩ := X.invokevirtual C.g_x C.g_own (mvT C.g_z w1) hnamed hmM hsta i2 hni hy (a := a) (cell := cell) (by rw [eT]; exact hc1) hc2 hsel hmM hab i2 hni (g := mkF m pc Ls st) rfl (argsL := argsL) (rest := rest) (hlen _ hsig) hst (hb C.g_by hd)
  obtain ⟨v, ⟨T1, L1, k1, n1⟩, X2, ⟨Lc1, hQ1, l1, y1, z1⟩, st2⟩ := hK m meth c ⟨T.setVm vm1, locs, k, q⟩ (mkF m pc Ls rest) (.invokevirtual i) mk (.ref a :: argsL).toArray X1 rfl (by rw [C.g_ml]; exact hsz) (hb C.g_by hd) (by show 2 * 0 + _ ≤ _; exact hW) (X1.named hnamed) ⟨rfl, eT, hc, hs⟩
  dsimp only [Pt.U, Pt.locs, Pt.cells, Pt.slots] at X2 l1 y1 z1 st2 hQ1
  subst l1 y1 z1
  obtain ⟨t, o, h2, h3⟩ := r v T1.heap hQ1.2 T1 _ X2 rfl (Fr.app N hQ1.1)
  exact ⟨t, o, st1 _ fun acts => by rw [doInvoke_state]; exact st2.trans h2, h3⟩
theorem own_ret (C : own_Ctx p s m meth c Z own nm bytes maxL ret) {v : Value} {t : FieldType} {i : Instr} (hret : ret = some t) (hn : narrow t v = v)
    (hi : (i = .ireturn ∧ (t = .int ∨ t = .boolean ∨ t = .byte ∨ t = .char ∨ t = .short) ∧ ∃ z, v = .int z) ∨ (i = .lreturn ∧ t = .long ∧ ∃ z, v = .long z) ∨ (i = .dreturn ∧ t = .double ∧ ∃ z, v = .double z) ∨ (i = .freturn ∧ t = .float ∧ ∃ z, v = .float z) ∨ (i = .areturn ∧ t.isReference = true ∧ v.isRef = true))
    (hd : decode bytes pc = .ok (i, 1)) (hc : k ≤ R.cells) (hs : q ≤ R.slots) (hQ : Q (some v) h) : own_Run p l e R s m args below meth c n0 (own_K below R s n0 Q) h k q (mkF m pc Ls (v :: rest)) := fun T locs X eT N => by
  have hlocks := C.g_lk
  obtain ⟨fs, hr, hrun, hended, hW, hsame⟩ := X.leave (v := some v) (fun hh => by rw [C.g_rt, hret] at hh; cases hh) hlocks
  refine ⟨_, _, retOut X C.g_x (C.g_rt.trans hret) hn hi (hb C.g_by hd) hr, hrun, hended, _, _, rfl, ⟨N, ?_⟩, ⟨_, rfl⟩, hW, hsame.mono hc hs⟩
  show Q (some v) T.heap
  rw [eT]; exact hQ
theorem own_retV (C : own_Ctx p s m meth c Z own nm bytes maxL ret) (hret : ret = none) (hd : decode bytes pc = .ok (.return_, 1)) (hc : k ≤ R.cells) (hs : q ≤ R.slots) (hQ : Q none h) : own_Run p l e R s m args below meth c n0 (own_K below R s n0 Q) h k q (mkF m pc Ls []) := fun T locs X eT N => by
  have hlocks := C.g_lk
  obtain ⟨fs, hr, hrun, hended, hW, hsame⟩ := X.leave (v := none) (fun _ => rfl) hlocks
  refine ⟨_, _, X.returnOut C.g_x (C.g_rt.trans hret) (hb C.g_by hd) hr, hrun, hended, _, _, rfl, ⟨N, ?_⟩, ⟨_, rfl⟩, hW, hsame.mono hc hs⟩
  show Q none T.heap
  rw [eT]; exact hQ
theorem own_refne {a b : Addr} (hn : a ≠ b) : ¬ (Value.ref a = Value.ref b) := fun e => hn (Value.ref.inj e)
theorem own_nb {v : Int32} (hv : v = 0 ∨ v = 1) : narrow .boolean (.int v) = .int v := by rcases hv with rfl | rfl <;> rfl
theorem own_fb {v : Int32} (hv : v = 0 ∨ v = 1) : fits .boolean (.int v) = true := by rcases hv with rfl | rfl <;> rfl
theorem own_join {α : Type} {g : JFrame} (P : α → Prop) (F : α → JFrame) (j : ∀ v, P v → own_Run p l e R s m args below meth c n0 Kf h k q (F v)) (r : (∀ v, P v → own_Run p l e R s m args below meth c n0 Kf h k q (F v)) → own_Run p l e R s m args below meth c n0 Kf h k q g) : own_Run p l e R s m args below meth c n0 Kf h k q g := r j
theorem own_join2 {α β : Type} {g : JFrame} (P : α → β → Prop) (F : α → β → JFrame) (j : ∀ v w, P v w → own_Run p l e R s m args below meth c n0 Kf h k q (F v w)) (r : (∀ v w, P v w → own_Run p l e R s m args below meth c n0 Kf h k q (F v w)) → own_Run p l e R s m args below meth c n0 Kf h k q g) : own_Run p l e R s m args below meth c n0 Kf h k q g := r j
theorem own_join3 {α β γ : Type} {g : JFrame} (P : α → β → γ → Prop) (F : α → β → γ → JFrame) (j : ∀ v w x, P v w x → own_Run p l e R s m args below meth c n0 Kf h k q (F v w x)) (r : (∀ v w x, P v w x → own_Run p l e R s m args below meth c n0 Kf h k q (F v w x)) → own_Run p l e R s m args below meth c n0 Kf h k q g) : own_Run p l e R s m args below meth c n0 Kf h k q g := r j
def own_upd {α : Type} (f : Nat → α) (i : Nat) (x : α) : Nat → α := fun j => if j = i then x else f j
theorem own_upd_eq {α : Type} (f : Nat → α) (i : Nat) (x : α) : own_upd f i x i = x := if_pos rfl
theorem own_upd_ne {α : Type} (f : Nat → α) {i j : Nat} (x : α) (hne : j ≠ i) : own_upd f i x j = f j := if_neg hne
/-- an array: her length, and what each place holds -/
def own_A (Z : State) (h : Heap) (a : Addr) (ty : FieldType) (n : Nat) (f : Nat → Value) : Prop := n < 2 ^ 31 ∧ ∃ cl : Cell, Arr Z h a cl ty ∧ cl.slots.size = n ∧ ∀ j, j < n → cl.slots[j]? = some (f j)
abbrev own_AI (Z : State) (h : Heap) (a : Addr) (n : Nat) (f : Nat → Int32) : Prop := own_A Z h a .int n (fun j => .int (f j))
abbrev own_AB (Z : State) (h : Heap) (a : Addr) (n : Nat) (f : Nat → Int32) : Prop := own_A Z h a .byte n (fun j => .int (f j))
abbrev own_AZ (Z : State) (h : Heap) (a : Addr) (n : Nat) (f : Nat → Int32) : Prop := own_A Z h a .boolean n (fun j => .int (f j))
abbrev own_AJ (Z : State) (h : Heap) (a : Addr) (n : Nat) (f : Nat → Int64) : Prop := own_A Z h a .long n (fun j => .long (f j))
theorem own_A.lt {h : Heap} {a : Addr} {ty : FieldType} {n : Nat} {f : Nat → Value} (V : own_A Z h a ty n f) : a < h.size := by obtain ⟨_, cl, A, _⟩ := V; exact A.lt
theorem own_A.ext {h h' : Heap} {a : Addr} {ty : FieldType} {n : Nat} {f : Nat → Value} (V : own_A Z h a ty n f) (E : Ext h h') : own_A Z h' a ty n f := by obtain ⟨hn, cl, A, r⟩ := V; exact ⟨hn, cl, A.ext E, r⟩
theorem own_A.other {h h' : Heap} {a b : Addr} {sl : Nat} {w : Value} {ty : FieldType} {n : Nat} {f : Nat → Value} (V : own_A Z h b ty n f) (W : Wr h h' a sl w) (hne : b ≠ a) : own_A Z h' b ty n f := by obtain ⟨hn, cl, A, r⟩ := V; exact ⟨hn, cl, A.other W hne, r⟩
theorem own_A.keep {h h' : Heap} {a : Addr} {ws : List Addr} {ty : FieldType} {n : Nat} {f : Nat → Value} (V : own_A Z h a ty n f) (K : Keep h h' ws) (hne : a ∉ ws) : own_A Z h' a ty n f := by obtain ⟨hn, cl, A, r⟩ := V; exact ⟨hn, cl, ⟨K.2.1 a cl A.1 hne, A.2⟩, r⟩
theorem own_A.congr {h : Heap} {a : Addr} {ty : FieldType} {n : Nat} {f g : Nat → Value} (V : own_A Z h a ty n f) (e : ∀ j, j < n → f j = g j) : own_A Z h a ty n g := by obtain ⟨hn, cl, A, S, H⟩ := V; exact ⟨hn, cl, A, S, fun j hj => by rw [← e j hj]; exact H j hj⟩
theorem own_A.set {h h' : Heap} {a : Addr} {i : Nat} {w : Value} {ty : FieldType} {n : Nat} {f : Nat → Value} (V : own_A Z h a ty n f) (W : Wr h h' a i w) (hi : i < n) : own_A Z h' a ty n (own_upd f i w) := by
  obtain ⟨hn, cl, A, S, H⟩ := V
  refine ⟨hn, _, A.same W, by rw [sz_set]; exact S, fun j hj => ?_⟩
  by_cases e : j = i
  · subst e
    rw [own_upd_eq]; simp [Cell.setSlot, S, hj]
  · rw [own_upd_ne _ _ e]
    show (cl.slots.setIfInBounds i w)[j]? = _
    rw [Array.getElem?_setIfInBounds_ne (Ne.symm e)]; exact H j hj
theorem own_nat {j : Int32} {i : Nat} (hj : j.toInt = (i : Int)) : ¬ j < 0 ∧ j.toNatClampNeg = i := by
  have z : (0 : Int32).toInt = 0 := rfl
  refine ⟨?_, ?_⟩
  · rw [Int32.lt_iff_toInt_lt]; omega
  · simp only [Int32.toNatClampNeg]; omega
theorem own_inb {j : Int32} {i : Nat} {cl : Cell} {n : Nat} (hj : j.toInt = (i : Int)) (S : cl.slots.size = n) (hi : i < n) : ¬ (j < 0 ∨ cl.slots.size ≤ j.toNatClampNeg) := by
  obtain ⟨h1, h2⟩ := own_nat hj
  rw [S, h2]; exact fun hh => hh.elim h1 (Nat.not_le.mpr hi)
theorem own_newA (C : own_Ctx p s m meth c Z own nm bytes maxL ret) {aty : ArrayType} (w : (Jvm.Cond.arrayClass (newarray.typeOf aty)).before a0 Z = true) (Z0 : n0 ≤ h.size) (hd : decode bytes pc = .ok (.newarray aty, 2)) (hp : pc + 2 = pc') {n : Int32} {nn cap : Nat} (hn : n.toInt = (nn : Int)) (hcap : nn ≤ cap) (hbig : cap * 8 ≤ 536870912) (hc : k + 1 ≤ R.cells) (hl : q + cap ≤ R.slots)
    (r : ∀ h' a, a = h.size → n0 ≤ a → n0 ≤ h'.size → Ext h h' → own_A Z h' a (newarray.typeOf aty) nn (fun _ => defaultValue (newarray.typeOf aty)) → own_Run p l e R s m args below meth c n0 Kf h' (k + 1) (q + cap) (mkF m pc' Ls (.ref a :: rest))) : own_Run p l e R s m args below meth c n0 Kf h k q (mkF m pc Ls (.int n :: rest)) := fun T locs X eT N => by
  subst hp
  obtain ⟨p1, p2⟩ := own_nat hn
  obtain ⟨T1, h1, cA, X1, e1, E1, A1, st1⟩ := newP X C.g_x C.g_z w eT (g := mkF m pc Ls (.int n :: rest)) rfl (hb C.g_by hd) rfl p1 (cap := cap) (by rw [p2]; exact hcap) hbig hc hl
  have V : own_A Z h1 h.size (newarray.typeOf aty) nn (fun _ => defaultValue (newarray.typeOf aty)) := by
    refine ⟨by have := Int32.toInt_lt n; omega, _, A1, by rw [sz_new, p2], fun j hj => ?_⟩
    simp [newA, p2, hj]
  obtain ⟨t, o, h2, h3⟩ := r h1 h.size rfl Z0 (Nat.le_trans Z0 E1.1) E1 V T1 _ X1 e1 N
  exact ⟨t, o, st1 _ h2, h3⟩
theorem own_newAI (C : own_Ctx p s m meth c Z own nm bytes maxL ret) (w : (Jvm.Cond.arrayClass .int).before a0 Z = true) (Z0 : n0 ≤ h.size) (hd : decode bytes pc = .ok (.newarray .int, 2)) (hp : pc + 2 = pc') {n : Int32} {nn cap : Nat} (hn : n.toInt = (nn : Int)) (hcap : nn ≤ cap) (hbig : cap * 8 ≤ 536870912) (hc : k + 1 ≤ R.cells) (hl : q + cap ≤ R.slots)
    (r : ∀ h' a, a = h.size → n0 ≤ a → n0 ≤ h'.size → Ext h h' → own_AI Z h' a nn (fun _ => (0 : Int32)) → own_Run p l e R s m args below meth c n0 Kf h' (k + 1) (q + cap) (mkF m pc' Ls (.ref a :: rest))) : own_Run p l e R s m args below meth c n0 Kf h k q (mkF m pc Ls (.int n :: rest)) := own_newA C (aty := .int) w Z0 hd hp hn hcap hbig hc hl r
theorem own_stI (C : own_Ctx p s m meth c Z own nm bytes maxL ret) {a : Addr} {n : Nat} {f : Nat → Int32} (V : own_AI Z h a n f) {j : Int32} {i : Nat} {x : Int32} (hj : j.toInt = (i : Int)) (hi : i < n) (ga : n0 ≤ a) (hd : decode bytes pc = .ok (.iastore, 1)) (hp : pc + 1 = pc')
    (r : ∀ h', Wr h h' a i (.int x) → own_AI Z h' a n (own_upd f i x) → own_Run p l e R s m args below meth c n0 Kf h' k q (mkF m pc' Ls rest)) : own_Run p l e R s m args below meth c n0 Kf h k q (mkF m pc Ls (.int x :: .int j :: .ref a :: rest)) := fun T locs X eT N => by
  subst hp
  obtain ⟨p1, p2⟩ := own_nat hj
  obtain ⟨hn, cl, A, S, H⟩ := id V
  obtain ⟨T1, h1, X1, e1, W1, st1⟩ := stI X C.g_x C.g_z eT A (own_inb hj S hi) (g := mkF m pc Ls (.int x :: .int j :: .ref a :: rest)) rfl rfl (hb C.g_by hd)
  have W2 : Wr h h1 a i (.int x) := by rw [← p2]; exact W1
  obtain ⟨t, o, h2, h3⟩ := r h1 W2 ((own_A.set V W2 hi).congr fun j hj => by by_cases e : j = i <;> simp [own_upd, e]) T1 _ X1 e1 (Fr.snoc X1 N ga)
  exact ⟨t, o, st1 _ h2, h3⟩
theorem own_lenI (C : own_Ctx p s m meth c Z own nm bytes maxL ret) {a : Addr} {n : Nat} {f : Nat → Int32} (V : own_AI Z h a n f) (hd : decode bytes pc = .ok (.arraylength, 1)) (hp : pc + 1 = pc') (r : own_Run p l e R s m args below meth c n0 Kf h k q (mkF m pc' Ls (.int (Nat.toInt32 n) :: rest))) : own_Run p l e R s m args below meth c n0 Kf h k q (mkF m pc Ls (.ref a :: rest)) := by
  obtain ⟨hn, cl, A, S, H⟩ := V
  subst hp
  rw [← S] at r
  exact own_st (fun T locs X eT t kk => X.arraylength C.g_x (by rw [eT]; exact A.1) (State.isArrayOf_alike C.g_z.alike A.2.1) (g := mkF m pc Ls (.ref a :: rest)) rfl rfl (hb C.g_by hd) t kk) r
theorem own_ldI (C : own_Ctx p s m meth c Z own nm bytes maxL ret) {a : Addr} {n : Nat} {f : Nat → Int32} (V : own_AI Z h a n f) {j : Int32} {i : Nat} (hj : j.toInt = (i : Int)) (hi : i < n) (hd : decode bytes pc = .ok (.iaload, 1)) (hp : pc + 1 = pc') (r : own_Run p l e R s m args below meth c n0 Kf h k q (mkF m pc' Ls (.int (f i) :: rest))) : own_Run p l e R s m args below meth c n0 Kf h k q (mkF m pc Ls (.int j :: .ref a :: rest)) := by
  obtain ⟨p1, p2⟩ := own_nat hj
  obtain ⟨hn, cl, A, S, H⟩ := V
  subst hp
  exact own_st (fun T locs X eT t kk => X.iaload C.g_x (by rw [eT]; exact A.1) (State.isArrayOf_alike C.g_z.alike A.2.1) A.2.2 (own_inb hj S hi) (by rw [p2]; exact H i hi) (g := mkF m pc Ls (.int j :: .ref a :: rest)) rfl rfl (hb C.g_by hd) t kk) r
theorem own_ldIV (C : own_Ctx p s m meth c Z own nm bytes maxL ret) {a : Addr} {n : Nat} {f : Nat → Int32} (V : own_AI Z h a n f) {j : Int32} {i : Nat} {v : Int32} (hj : j.toInt = (i : Int)) (hi : i < n) (hv : f i = v) (hd : decode bytes pc = .ok (.iaload, 1)) (hp : pc + 1 = pc') (r : own_Run p l e R s m args below meth c n0 Kf h k q (mkF m pc' Ls (.int v :: rest))) : own_Run p l e R s m args below meth c n0 Kf h k q (mkF m pc Ls (.int j :: .ref a :: rest)) := by
  subst hv; exact own_ldI C V hj hi hd hp r
theorem own_newAB (C : own_Ctx p s m meth c Z own nm bytes maxL ret) (w : (Jvm.Cond.arrayClass .byte).before a0 Z = true) (Z0 : n0 ≤ h.size) (hd : decode bytes pc = .ok (.newarray .byte, 2)) (hp : pc + 2 = pc') {n : Int32} {nn cap : Nat} (hn : n.toInt = (nn : Int)) (hcap : nn ≤ cap) (hbig : cap * 8 ≤ 536870912) (hc : k + 1 ≤ R.cells) (hl : q + cap ≤ R.slots)
    (r : ∀ h' a, a = h.size → n0 ≤ a → n0 ≤ h'.size → Ext h h' → own_AB Z h' a nn (fun _ => (0 : Int32)) → own_Run p l e R s m args below meth c n0 Kf h' (k + 1) (q + cap) (mkF m pc' Ls (.ref a :: rest))) : own_Run p l e R s m args below meth c n0 Kf h k q (mkF m pc Ls (.int n :: rest)) := own_newA C (aty := .byte) w Z0 hd hp hn hcap hbig hc hl r
theorem own_stB (C : own_Ctx p s m meth c Z own nm bytes maxL ret) {a : Addr} {n : Nat} {f : Nat → Int32} (V : own_AB Z h a n f) {j : Int32} {i : Nat} {x : Int32} (hj : j.toInt = (i : Int)) (hi : i < n) (ga : n0 ≤ a) (hd : decode bytes pc = .ok (.bastore, 1)) (hp : pc + 1 = pc')
    (r : ∀ h', Wr h h' a i (.int (x.toInt8.toInt32)) → own_AB Z h' a n (own_upd f i (x.toInt8.toInt32)) → own_Run p l e R s m args below meth c n0 Kf h' k q (mkF m pc' Ls rest)) : own_Run p l e R s m args below meth c n0 Kf h k q (mkF m pc Ls (.int x :: .int j :: .ref a :: rest)) := fun T locs X eT N => by
  subst hp
  obtain ⟨p1, p2⟩ := own_nat hj
  obtain ⟨hn, cl, A, S, H⟩ := id V
  obtain ⟨T1, h1, X1, e1, W1, st1⟩ := stB X C.g_x C.g_z eT A (own_inb hj S hi) (g := mkF m pc Ls (.int x :: .int j :: .ref a :: rest)) rfl rfl (hb C.g_by hd)
  have W2 : Wr h h1 a i (.int (x.toInt8.toInt32)) := by rw [← p2]; exact W1
  obtain ⟨t, o, h2, h3⟩ := r h1 W2 ((own_A.set V W2 hi).congr fun j hj => by by_cases e : j = i <;> simp [own_upd, e]) T1 _ X1 e1 (Fr.snoc X1 N ga)
  exact ⟨t, o, st1 _ h2, h3⟩
theorem own_lenB (C : own_Ctx p s m meth c Z own nm bytes maxL ret) {a : Addr} {n : Nat} {f : Nat → Int32} (V : own_AB Z h a n f) (hd : decode bytes pc = .ok (.arraylength, 1)) (hp : pc + 1 = pc') (r : own_Run p l e R s m args below meth c n0 Kf h k q (mkF m pc' Ls (.int (Nat.toInt32 n) :: rest))) : own_Run p l e R s m args below meth c n0 Kf h k q (mkF m pc Ls (.ref a :: rest)) := by
  obtain ⟨hn, cl, A, S, H⟩ := V
  subst hp
  rw [← S] at r
  exact own_st (fun T locs X eT t kk => X.arraylength C.g_x (by rw [eT]; exact A.1) (State.isArrayOf_alike C.g_z.alike A.2.1) (g := mkF m pc Ls (.ref a :: rest)) rfl rfl (hb C.g_by hd) t kk) r
theorem own_ldB (C : own_Ctx p s m meth c Z own nm bytes maxL ret) {a : Addr} {n : Nat} {f : Nat → Int32} (V : own_AB Z h a n f) {j : Int32} {i : Nat} (hj : j.toInt = (i : Int)) (hi : i < n) (hd : decode bytes pc = .ok (.baload, 1)) (hp : pc + 1 = pc') (r : own_Run p l e R s m args below meth c n0 Kf h k q (mkF m pc' Ls (.int (f i) :: rest))) : own_Run p l e R s m args below meth c n0 Kf h k q (mkF m pc Ls (.int j :: .ref a :: rest)) := by
  obtain ⟨p1, p2⟩ := own_nat hj
  obtain ⟨hn, cl, A, S, H⟩ := V
  subst hp
  exact own_st (fun T locs X eT t kk => X.baloadBytes C.g_x (by rw [eT]; exact A.1) (State.isArrayOf_alike C.g_z.alike A.2.1) A.2.2 (own_inb hj S hi) (by rw [p2]; exact H i hi) (g := mkF m pc Ls (.int j :: .ref a :: rest)) rfl rfl (hb C.g_by hd) t kk) r
theorem own_ldBV (C : own_Ctx p s m meth c Z own nm bytes maxL ret) {a : Addr} {n : Nat} {f : Nat → Int32} (V : own_AB Z h a n f) {j : Int32} {i : Nat} {v : Int32} (hj : j.toInt = (i : Int)) (hi : i < n) (hv : f i = v) (hd : decode bytes pc = .ok (.baload, 1)) (hp : pc + 1 = pc') (r : own_Run p l e R s m args below meth c n0 Kf h k q (mkF m pc' Ls (.int v :: rest))) : own_Run p l e R s m args below meth c n0 Kf h k q (mkF m pc Ls (.int j :: .ref a :: rest)) := by
  subst hv; exact own_ldB C V hj hi hd hp r
theorem own_newAZ (C : own_Ctx p s m meth c Z own nm bytes maxL ret) (w : (Jvm.Cond.arrayClass .boolean).before a0 Z = true) (Z0 : n0 ≤ h.size) (hd : decode bytes pc = .ok (.newarray .boolean, 2)) (hp : pc + 2 = pc') {n : Int32} {nn cap : Nat} (hn : n.toInt = (nn : Int)) (hcap : nn ≤ cap) (hbig : cap * 8 ≤ 536870912) (hc : k + 1 ≤ R.cells) (hl : q + cap ≤ R.slots)
    (r : ∀ h' a, a = h.size → n0 ≤ a → n0 ≤ h'.size → Ext h h' → own_AZ Z h' a nn (fun _ => (0 : Int32)) → own_Run p l e R s m args below meth c n0 Kf h' (k + 1) (q + cap) (mkF m pc' Ls (.ref a :: rest))) : own_Run p l e R s m args below meth c n0 Kf h k q (mkF m pc Ls (.int n :: rest)) := own_newA C (aty := .boolean) w Z0 hd hp hn hcap hbig hc hl r
theorem own_stZ (C : own_Ctx p s m meth c Z own nm bytes maxL ret) {a : Addr} {n : Nat} {f : Nat → Int32} (V : own_AZ Z h a n f) {j : Int32} {i : Nat} {x : Int32} (hj : j.toInt = (i : Int)) (hi : i < n) (ga : n0 ≤ a) (hd : decode bytes pc = .ok (.bastore, 1)) (hp : pc + 1 = pc')
    (r : ∀ h', Wr h h' a i (.int (x &&& 1)) → own_AZ Z h' a n (own_upd f i (x &&& 1)) → own_Run p l e R s m args below meth c n0 Kf h' k q (mkF m pc' Ls rest)) : own_Run p l e R s m args below meth c n0 Kf h k q (mkF m pc Ls (.int x :: .int j :: .ref a :: rest)) := fun T locs X eT N => by
  subst hp
  obtain ⟨p1, p2⟩ := own_nat hj
  obtain ⟨hn, cl, A, S, H⟩ := id V
  obtain ⟨T1, h1, X1, e1, W1, st1⟩ := stZ X C.g_x C.g_z eT A (own_inb hj S hi) (g := mkF m pc Ls (.int x :: .int j :: .ref a :: rest)) rfl rfl (hb C.g_by hd)
  have W2 : Wr h h1 a i (.int (x &&& 1)) := by rw [← p2]; exact W1
  obtain ⟨t, o, h2, h3⟩ := r h1 W2 ((own_A.set V W2 hi).congr fun j hj => by by_cases e : j = i <;> simp [own_upd, e]) T1 _ X1 e1 (Fr.snoc X1 N ga)
  exact ⟨t, o, st1 _ h2, h3⟩
theorem own_lenZ (C : own_Ctx p s m meth c Z own nm bytes maxL ret) {a : Addr} {n : Nat} {f : Nat → Int32} (V : own_AZ Z h a n f) (hd : decode bytes pc = .ok (.arraylength, 1)) (hp : pc + 1 = pc') (r : own_Run p l e R s m args below meth c n0 Kf h k q (mkF m pc' Ls (.int (Nat.toInt32 n) :: rest))) : own_Run p l e R s m args below meth c n0 Kf h k q (mkF m pc Ls (.ref a :: rest)) := by
  obtain ⟨hn, cl, A, S, H⟩ := V
  subst hp
  rw [← S] at r
  exact own_st (fun T locs X eT t kk => X.arraylength C.g_x (by rw [eT]; exact A.1) (State.isArrayOf_alike C.g_z.alike A.2.1) (g := mkF m pc Ls (.ref a :: rest)) rfl rfl (hb C.g_by hd) t kk) r
theorem own_newAJ (C : own_Ctx p s m meth c Z own nm bytes maxL ret) (w : (Jvm.Cond.arrayClass .long).before a0 Z = true) (Z0 : n0 ≤ h.size) (hd : decode bytes pc = .ok (.newarray .long, 2)) (hp : pc + 2 = pc') {n : Int32} {nn cap : Nat} (hn : n.toInt = (nn : Int)) (hcap : nn ≤ cap) (hbig : cap * 8 ≤ 536870912) (hc : k + 1 ≤ R.cells) (hl : q + cap ≤ R.slots)
    (r : ∀ h' a, a = h.size → n0 ≤ a → n0 ≤ h'.size → Ext h h' → own_AJ Z h' a nn (fun _ => (0 : Int64)) → own_Run p l e R s m args below meth c n0 Kf h' (k + 1) (q + cap) (mkF m pc' Ls (.ref a :: rest))) : own_Run p l e R s m args below meth c n0 Kf h k q (mkF m pc Ls (.int n :: rest)) := own_newA C (aty := .long) w Z0 hd hp hn hcap hbig hc hl r
theorem own_stJ (C : own_Ctx p s m meth c Z own nm bytes maxL ret) {a : Addr} {n : Nat} {f : Nat → Int64} (V : own_AJ Z h a n f) {j : Int32} {i : Nat} {x : Int64} (hj : j.toInt = (i : Int)) (hi : i < n) (ga : n0 ≤ a) (hd : decode bytes pc = .ok (.lastore, 1)) (hp : pc + 1 = pc')
    (r : ∀ h', Wr h h' a i (.long x) → own_AJ Z h' a n (own_upd f i x) → own_Run p l e R s m args below meth c n0 Kf h' k q (mkF m pc' Ls rest)) : own_Run p l e R s m args below meth c n0 Kf h k q (mkF m pc Ls (.long x :: .int j :: .ref a :: rest)) := fun T locs X eT N => by
  subst hp
  obtain ⟨p1, p2⟩ := own_nat hj
  obtain ⟨hn, cl, A, S, H⟩ := id V
  obtain ⟨T1, h1, X1, e1, W1, st1⟩ := stJ X C.g_x C.g_z eT A (own_inb hj S hi) (g := mkF m pc Ls (.long x :: .int j :: .ref a :: rest)) rfl rfl (hb C.g_by hd)
  have W2 : Wr h h1 a i (.long x) := by rw [← p2]; exact W1
  obtain ⟨t, o, h2, h3⟩ := r h1 W2 ((own_A.set V W2 hi).congr fun j hj => by by_cases e : j = i <;> simp [own_upd, e]) T1 _ X1 e1 (Fr.snoc X1 N ga)
  exact ⟨t, o, st1 _ h2, h3⟩
theorem own_lenJ (C : own_Ctx p s m meth c Z own nm bytes maxL ret) {a : Addr} {n : Nat} {f : Nat → Int64} (V : own_AJ Z h a n f) (hd : decode bytes pc = .ok (.arraylength, 1)) (hp : pc + 1 = pc') (r : own_Run p l e R s m args below meth c n0 Kf h k q (mkF m pc' Ls (.int (Nat.toInt32 n) :: rest))) : own_Run p l e R s m args below meth c n0 Kf h k q (mkF m pc Ls (.ref a :: rest)) := by
  obtain ⟨hn, cl, A, S, H⟩ := V
  subst hp
  rw [← S] at r
  exact own_st (fun T locs X eT t kk => X.arraylength C.g_x (by rw [eT]; exact A.1) (State.isArrayOf_alike C.g_z.alike A.2.1) (g := mkF m pc Ls (.ref a :: rest)) rfl rfl (hb C.g_by hd) t kk) r
end Own

theorem own_succ (i : Nat) : Nat.toInt32 i + (1 : Int32) = Nat.toInt32 (i + 1) := by
  show Int32.ofNat i + Int32.ofNat 1 = Int32.ofNat (i + 1)
  rw [Int32.ofNat_add]
theorem own_ti {i : Nat} (hi : i < 2 ^ 31) : (Nat.toInt32 i).toInt = (i : Int) := len_toInt hi
theorem own_tlt {i n : Nat} (hi : i < 2 ^ 31) (hn : n < 2 ^ 31) : Nat.toInt32 i < Nat.toInt32 n ↔ i < n := by
  rw [Int32.lt_iff_toInt_lt, own_ti hi, own_ti hn]; omega
theorem own_nz {n : Int32} {N : Nat} (hn : n.toInt = (N : Int)) (h0 : 0 < N) : n ≠ 0 := by
  intro e; subst e
  have z : (0 : Int32).toInt = 0 := rfl
  omega
theorem own_pos (p : Int32) : ∃ P : Nat, (p &&& (2147483647 : Int32)).toInt = (P : Int) ∧ P < 2147483648 := by
  have h1 := (Jvm.RoadKit.c_andS p (2147483647 : Int32)).2.2 (by decide)
  have h2 := Int32.toInt_lt (p &&& (2147483647 : Int32))
  exact ⟨(p &&& (2147483647 : Int32)).toInt.toNat, by omega, by omega⟩
theorem own_mod {x n : Int32} {X N : Nat} (hx : x.toInt = (X : Int)) (hn : n.toInt = (N : Int)) (h0 : 0 < N) : (x % n).toInt = ((X % N : Nat) : Int) := by
  have h := Int32.toInt_lt n
  rw [Int32.toInt_mod, hx, hn, Int.tmod_eq_emod_of_nonneg (by omega)]
  rfl
theorem own_rem (p : Int32) {n : Int32} {N : Nat} (hn : n.toInt = (N : Int)) (h0 : 0 < N) : ∃ A : Nat, A < N ∧ ((p &&& (2147483647 : Int32)) % n).toInt = (A : Int) := by
  obtain ⟨P, hP, _⟩ := own_pos p
  exact ⟨P % N, Nat.mod_lt _ h0, own_mod hP hn h0⟩
theorem own_add {x y : Int32} {X Y : Nat} (hx : x.toInt = (X : Int)) (hy : y.toInt = (Y : Int)) (hb : X + Y < 2147483648) : (x + y).toInt = ((X + Y : Nat) : Int) := by
  rw [Jvm.Free.XT.add32 ⟨by rw [hx, hy]; omega, by rw [hx, hy]; omega⟩, hx, hy]; omega
theorem own_sub1 {x : Int32} {X : Nat} (hx : x.toInt = (X : Int)) (h0 : 0 < X) : (x - (1 : Int32)).toInt = ((X - 1 : Nat) : Int) := by
  have h := Int32.toInt_lt x
  have o : (1 : Int32).toInt = 1 := rfl
  rw [Jvm.Free.XT.sub32 ⟨by rw [hx, o]; omega, by rw [hx, o]; omega⟩, hx, o]; omega
theorem own_inj {x y : Int32} {X Y : Nat} (hx : x.toInt = (X : Int)) (hy : y.toInt = (Y : Int)) : x = y ↔ X = Y := by
  rw [← Int32.toInt_inj, hx, hy]; omega
def own_one (a v : Int32) : Nat := if a = v then 1 else 0
def own_cnt : Nat → (Nat → Int32) → Int32 → Nat
  | 0, _, _ => 0
  | s + 1, f, v => own_cnt s f v + own_one (f s) v
/-- the first s places of f are a heap: each holds at least what its parent holds -/
def own_H (s : Nat) (f : Nat → Int32) : Prop := ∀ i, i < s → f ((i - 1) / 2) ≤ f i
def own_lc : List Int32 → Int32 → Nat
  | [], _ => 0
  | a :: l, v => own_one a v + own_lc l v
def own_so : List Int32 → Prop
  | [] => True
  | a :: l => (∀ b ∈ l, a ≤ b) ∧ own_so l
theorem own_one_self (a : Int32) : own_one a a = 1 := if_pos rfl
theorem own_lc_mem (v : Int32) : ∀ l : List Int32, 0 < own_lc l v → v ∈ l
  | [], h => absurd h (Nat.lt_irrefl 0)
  | a :: l, h => by
    by_cases e : a = v
    · subst e; exact List.mem_cons_self
    · have h' : 0 < own_one a v + own_lc l v := h
      have z : own_one a v = 0 := if_neg e
      exact List.mem_cons_of_mem _ (own_lc_mem v l (by omega))
theorem own_head_le {b v : Int32} {l : List Int32} (hs : own_so (b :: l)) (hm : v ∈ b :: l) : b ≤ v := by
  rcases List.mem_cons.mp hm with rfl | hm
  · exact Int32.le_refl _
  · exact hs.1 v hm
theorem own_uniq : ∀ l l' : List Int32, own_so l → own_so l' → (∀ v, own_lc l v = own_lc l' v) → l = l'
  | [], [], _, _, _ => rfl
  | [], b :: t, _, _, h => by
    have e : 0 = own_one b b + own_lc t b := h b
    rw [own_one_self] at e; omega
  | a :: t, [], _, _, h => by
    have e : own_one a a + own_lc t a = 0 := h a
    rw [own_one_self] at e; omega
  | a :: t, b :: t', h1, h2, h => by
    have ea : own_one a a + own_lc t a = own_lc (b :: t') a := h a
    have eb : own_lc (a :: t) b = own_one b b + own_lc t' b := h b
    rw [own_one_self] at ea eb
    have l1 : b ≤ a := own_head_le h2 (own_lc_mem a _ (by omega))
    have l2 : a ≤ b := own_head_le h1 (own_lc_mem b _ (by omega))
    have e : a = b := Int32.le_antisymm l2 l1
    subst e
    have ht : ∀ v, own_lc t v = own_lc t' v := fun v => by
      have := h v
      simp only [own_lc] at this; omega
    rw [own_uniq t t' h1.2 h2.2 ht]
theorem own_le {a b : Int32} : a ≤ b ↔ a.toInt ≤ b.toInt := Int32.le_iff_toInt_le
theorem own_lt {a b : Int32} : a < b ↔ a.toInt < b.toInt := Int32.lt_iff_toInt_lt
theorem own_sw {u w a b : Int32} (h : (u = a ∧ w = b) ∨ (u = b ∧ w = a)) (v : Int32) : own_one u v + own_one w v = own_one a v + own_one b v := by
  rcases h with ⟨rfl, rfl⟩ | ⟨rfl, rfl⟩ <;> omega
theorem own_same {f : Nat → Int32} {i j : Nat} {a b : Int32} (h1 : f i = a) (h2 : f j = b) (k : Nat) : f k = own_upd (own_upd f i a) j b k := by
  by_cases e1 : k = j
  · subst e1; rw [own_upd_eq]; exact h2
  · rw [own_upd_ne _ _ e1]
    by_cases e2 : k = i
    · subst e2; rw [own_upd_eq]; exact h1
    · rw [own_upd_ne _ _ e2]
theorem own_net {v0 v1 v2 v3 u0 w0 u1 w1 u2 w2 u3 w3 u4 w4 : Int32} (l0 : u0 ≤ w0) (l1 : u1 ≤ w1) (l2 : u2 ≤ w2) (l3 : u3 ≤ w3) (l4 : u4 ≤ w4) (o0 : (u0 = v0 ∧ w0 = v1) ∨ (u0 = v1 ∧ w0 = v0)) (o1 : (u1 = v2 ∧ w1 = v3) ∨ (u1 = v3 ∧ w1 = v2)) (o2 : (u2 = u0 ∧ w2 = u1) ∨ (u2 = u1 ∧ w2 = u0)) (o3 : (u3 = w0 ∧ w3 = w1) ∨ (u3 = w1 ∧ w3 = w0)) (o4 : (u4 = u3 ∧ w4 = w2) ∨ (u4 = w2 ∧ w4 = u3)) : u2 ≤ u4 ∧ u4 ≤ w4 ∧ w4 ≤ w3 := by
  rw [own_le] at l0
  rw [own_le] at l1
  rw [own_le] at l2
  rw [own_le] at l3
  rw [own_le] at l4
  have p0 : (u0.toInt = v0.toInt ∧ w0.toInt = v1.toInt) ∨ (u0.toInt = v1.toInt ∧ w0.toInt = v0.toInt) := by rcases o0 with ⟨e1, e2⟩ | ⟨e1, e2⟩ <;> simp [e1, e2]
  have p1 : (u1.toInt = v2.toInt ∧ w1.toInt = v3.toInt) ∨ (u1.toInt = v3.toInt ∧ w1.toInt = v2.toInt) := by rcases o1 with ⟨e1, e2⟩ | ⟨e1, e2⟩ <;> simp [e1, e2]
  have p2 : (u2.toInt = u0.toInt ∧ w2.toInt = u1.toInt) ∨ (u2.toInt = u1.toInt ∧ w2.toInt = u0.toInt) := by rcases o2 with ⟨e1, e2⟩ | ⟨e1, e2⟩ <;> simp [e1, e2]
  have p3 : (u3.toInt = w0.toInt ∧ w3.toInt = w1.toInt) ∨ (u3.toInt = w1.toInt ∧ w3.toInt = w0.toInt) := by rcases o3 with ⟨e1, e2⟩ | ⟨e1, e2⟩ <;> simp [e1, e2]
  have p4 : (u4.toInt = u3.toInt ∧ w4.toInt = w2.toInt) ∨ (u4.toInt = w2.toInt ∧ w4.toInt = u3.toInt) := by rcases o4 with ⟨e1, e2⟩ | ⟨e1, e2⟩ <;> simp [e1, e2]
  clear o0 o1 o2 o3 o4
  simp only [own_le]
  have m0 : u0.toInt ≤ v0.toInt ∧ u0.toInt ≤ v1.toInt ∧ v0.toInt ≤ w0.toInt ∧ v1.toInt ≤ w0.toInt := by clear p1 p2 p3 p4; omega
  have m1 : u1.toInt ≤ v2.toInt ∧ u1.toInt ≤ v3.toInt ∧ v2.toInt ≤ w1.toInt ∧ v3.toInt ≤ w1.toInt := by clear p0 p2 p3 p4; omega
  have m2 : u2.toInt ≤ u0.toInt ∧ u2.toInt ≤ u1.toInt ∧ u0.toInt ≤ w2.toInt ∧ u1.toInt ≤ w2.toInt := by clear p0 p1 p3 p4; omega
  have m3 : u3.toInt ≤ w0.toInt ∧ u3.toInt ≤ w1.toInt ∧ w0.toInt ≤ w3.toInt ∧ w1.toInt ≤ w3.toInt := by clear p0 p1 p2 p4; omega
  have m4 : u4.toInt ≤ u3.toInt ∧ u4.toInt ≤ w2.toInt ∧ u3.toInt ≤ w4.toInt ∧ w2.toInt ≤ w4.toInt := by clear p0 p1 p2 p3; omega
  have q1 : u2.toInt ≤ u3.toInt := by clear p0 p1 p2 p4; omega
  have r1 : u2.toInt ≤ u4.toInt := by clear p0 p1 p2 p3; omega
  have q2 : w2.toInt ≤ w3.toInt := by clear p0 p1 p3 p4; omega
  have r3 : w4.toInt ≤ w3.toInt := by clear p0 p1 p2 p3; omega
  exact ⟨r1, l4, r3⟩
theorem own_chain4 {x0 x1 x2 x3 : Int32} (h : x0 ≤ x1 ∧ x1 ≤ x2 ∧ x2 ≤ x3) : own_so [x0, x1, x2, x3] := by
  simp only [own_le] at h
  obtain ⟨h0, h1, h2⟩ := h
  simp only [own_so, List.mem_cons, List.not_mem_nil, or_false, forall_eq_or_imp, forall_eq, own_le, and_true, true_and, false_imp_iff, implies_true]
  refine ⟨?_, ?_, ?_⟩ <;> (try (refine ⟨?_, ?_⟩)) <;> omega

theorem own_d1_0 : decode method_2_code 0 = .ok (.aload_n 0, 1) := by decide +kernel
theorem own_d1_1 : decode method_2_code 1 = .ok (.iload_n 1, 1) := by decide +kernel
theorem own_d1_2 : decode method_2_code 2 = .ok (.iaload, 1) := by decide +kernel
theorem own_d1_3 : decode method_2_code 3 = .ok (.aload_n 0, 1) := by decide +kernel
theorem own_d1_4 : decode method_2_code 4 = .ok (.iload_n 2, 1) := by decide +kernel
theorem own_d1_5 : decode method_2_code 5 = .ok (.iaload, 1) := by decide +kernel
theorem own_d1_6 : decode method_2_code 6 = .ok (.if_icmp .le 17, 3) := by decide +kernel
theorem own_d1_9 : decode method_2_code 9 = .ok (.aload_n 0, 1) := by decide +kernel
theorem own_d1_10 : decode method_2_code 10 = .ok (.iload_n 1, 1) := by decide +kernel
theorem own_d1_11 : decode method_2_code 11 = .ok (.iaload, 1) := by decide +kernel
theorem own_d1_12 : decode method_2_code 12 = .ok (.istore_n 3, 1) := by decide +kernel
theorem own_d1_13 : decode method_2_code 13 = .ok (.aload_n 0, 1) := by decide +kernel
theorem own_d1_14 : decode method_2_code 14 = .ok (.iload_n 1, 1) := by decide +kernel
theorem own_d1_15 : decode method_2_code 15 = .ok (.aload_n 0, 1) := by decide +kernel
theorem own_d1_16 : decode method_2_code 16 = .ok (.iload_n 2, 1) := by decide +kernel
theorem own_d1_17 : decode method_2_code 17 = .ok (.iaload, 1) := by decide +kernel
theorem own_d1_18 : decode method_2_code 18 = .ok (.iastore, 1) := by decide +kernel
theorem own_d1_19 : decode method_2_code 19 = .ok (.aload_n 0, 1) := by decide +kernel
theorem own_d1_20 : decode method_2_code 20 = .ok (.iload_n 2, 1) := by decide +kernel
theorem own_d1_21 : decode method_2_code 21 = .ok (.iload_n 3, 1) := by decide +kernel
theorem own_d1_22 : decode method_2_code 22 = .ok (.iastore, 1) := by decide +kernel
theorem own_d1_23 : decode method_2_code 23 = .ok (.return_, 1) := by decide +kernel
theorem own_d2_0 : decode prog_36_method_1_code 0 = .ok (.aload_n 0, 1) := by decide +kernel
theorem own_d2_1 : decode prog_36_method_1_code 1 = .ok (.invokespecial 1, 3) := by decide +kernel
theorem own_d2_4 : decode prog_36_method_1_code 4 = .ok (.aload_n 0, 1) := by decide +kernel
theorem own_d2_5 : decode prog_36_method_1_code 5 = .ok (.iload_n 1, 1) := by decide +kernel
theorem own_d2_6 : decode prog_36_method_1_code 6 = .ok (.newarray .int, 2) := by decide +kernel
theorem own_d2_8 : decode prog_36_method_1_code 8 = .ok (.putfield 7, 3) := by decide +kernel
theorem own_d2_11 : decode prog_36_method_1_code 11 = .ok (.return_, 1) := by decide +kernel
theorem own_d4_0 : decode prog_36_method_3_code 0 = .ok (.aload_n 0, 1) := by decide +kernel
theorem own_d4_1 : decode prog_36_method_3_code 1 = .ok (.dup, 1) := by decide +kernel
theorem own_d4_2 : decode prog_36_method_3_code 2 = .ok (.getfield 13, 3) := by decide +kernel
theorem own_d4_5 : decode prog_36_method_3_code 5 = .ok (.dup_x1, 1) := by decide +kernel
theorem own_d4_6 : decode prog_36_method_3_code 6 = .ok (.iconst 1, 1) := by decide +kernel
theorem own_d4_7 : decode prog_36_method_3_code 7 = .ok (.iadd, 1) := by decide +kernel
theorem own_d4_8 : decode prog_36_method_3_code 8 = .ok (.putfield 13, 3) := by decide +kernel
theorem own_d4_11 : decode prog_36_method_3_code 11 = .ok (.istore_n 2, 1) := by decide +kernel
theorem own_d4_12 : decode prog_36_method_3_code 12 = .ok (.iload_n 2, 1) := by decide +kernel
theorem own_d4_13 : decode prog_36_method_3_code 13 = .ok (.ifCond .le 39, 3) := by decide +kernel
theorem own_d4_16 : decode prog_36_method_3_code 16 = .ok (.iload_n 2, 1) := by decide +kernel
theorem own_d4_17 : decode prog_36_method_3_code 17 = .ok (.iconst 1, 1) := by decide +kernel
theorem own_d4_18 : decode prog_36_method_3_code 18 = .ok (.isub, 1) := by decide +kernel
theorem own_d4_19 : decode prog_36_method_3_code 19 = .ok (.iconst 2, 1) := by decide +kernel
theorem own_d4_20 : decode prog_36_method_3_code 20 = .ok (.idiv, 1) := by decide +kernel
theorem own_d4_21 : decode prog_36_method_3_code 21 = .ok (.istore_n 3, 1) := by decide +kernel
theorem own_d4_22 : decode prog_36_method_3_code 22 = .ok (.aload_n 0, 1) := by decide +kernel
theorem own_d4_23 : decode prog_36_method_3_code 23 = .ok (.getfield 7, 3) := by decide +kernel
theorem own_d4_26 : decode prog_36_method_3_code 26 = .ok (.iload_n 3, 1) := by decide +kernel
theorem own_d4_27 : decode prog_36_method_3_code 27 = .ok (.iaload, 1) := by decide +kernel
theorem own_d4_28 : decode prog_36_method_3_code 28 = .ok (.iload_n 1, 1) := by decide +kernel
theorem own_d4_29 : decode prog_36_method_3_code 29 = .ok (.if_icmp .gt 6, 3) := by decide +kernel
theorem own_d4_32 : decode prog_36_method_3_code 32 = .ok (.goto 20, 3) := by decide +kernel
theorem own_d4_35 : decode prog_36_method_3_code 35 = .ok (.aload_n 0, 1) := by decide +kernel
theorem own_d4_36 : decode prog_36_method_3_code 36 = .ok (.getfield 7, 3) := by decide +kernel
theorem own_d4_39 : decode prog_36_method_3_code 39 = .ok (.iload_n 2, 1) := by decide +kernel
theorem own_d4_40 : decode prog_36_method_3_code 40 = .ok (.aload_n 0, 1) := by decide +kernel
theorem own_d4_41 : decode prog_36_method_3_code 41 = .ok (.getfield 7, 3) := by decide +kernel
theorem own_d4_44 : decode prog_36_method_3_code 44 = .ok (.iload_n 3, 1) := by decide +kernel
theorem own_d4_45 : decode prog_36_method_3_code 45 = .ok (.iaload, 1) := by decide +kernel
theorem own_d4_46 : decode prog_36_method_3_code 46 = .ok (.iastore, 1) := by decide +kernel
theorem own_d4_47 : decode prog_36_method_3_code 47 = .ok (.iload_n 3, 1) := by decide +kernel
theorem own_d4_48 : decode prog_36_method_3_code 48 = .ok (.istore_n 2, 1) := by decide +kernel
theorem own_d4_49 : decode prog_36_method_3_code 49 = .ok (.goto (-37), 3) := by decide +kernel
theorem own_d4_52 : decode prog_36_method_3_code 52 = .ok (.aload_n 0, 1) := by decide +kernel
theorem own_d4_53 : decode prog_36_method_3_code 53 = .ok (.getfield 7, 3) := by decide +kernel
theorem own_d4_56 : decode prog_36_method_3_code 56 = .ok (.iload_n 2, 1) := by decide +kernel
theorem own_d4_57 : decode prog_36_method_3_code 57 = .ok (.iload_n 1, 1) := by decide +kernel
theorem own_d4_58 : decode prog_36_method_3_code 58 = .ok (.iastore, 1) := by decide +kernel
theorem own_d4_59 : decode prog_36_method_3_code 59 = .ok (.return_, 1) := by decide +kernel
theorem own_d5_0 : decode prog_36_method_2_code 0 = .ok (.aload_n 0, 1) := by decide +kernel
theorem own_d5_1 : decode prog_36_method_2_code 1 = .ok (.getfield 13, 3) := by decide +kernel
theorem own_d5_4 : decode prog_36_method_2_code 4 = .ok (.ifCond .ne 7, 3) := by decide +kernel
theorem own_d5_7 : decode prog_36_method_2_code 7 = .ok (.iconst 1, 1) := by decide +kernel
theorem own_d5_8 : decode prog_36_method_2_code 8 = .ok (.goto 4, 3) := by decide +kernel
theorem own_d5_11 : decode prog_36_method_2_code 11 = .ok (.iconst 0, 1) := by decide +kernel
theorem own_d5_12 : decode prog_36_method_2_code 12 = .ok (.ireturn, 1) := by decide +kernel
theorem own_d6_0 : decode prog_36_method_4_code 0 = .ok (.aload_n 0, 1) := by decide +kernel
theorem own_d6_1 : decode prog_36_method_4_code 1 = .ok (.getfield 7, 3) := by decide +kernel
theorem own_d6_4 : decode prog_36_method_4_code 4 = .ok (.iconst 0, 1) := by decide +kernel
theorem own_d6_5 : decode prog_36_method_4_code 5 = .ok (.iaload, 1) := by decide +kernel
theorem own_d6_6 : decode prog_36_method_4_code 6 = .ok (.istore_n 1, 1) := by decide +kernel
theorem own_d6_7 : decode prog_36_method_4_code 7 = .ok (.aload_n 0, 1) := by decide +kernel
theorem own_d6_8 : decode prog_36_method_4_code 8 = .ok (.getfield 7, 3) := by decide +kernel
theorem own_d6_11 : decode prog_36_method_4_code 11 = .ok (.aload_n 0, 1) := by decide +kernel
theorem own_d6_12 : decode prog_36_method_4_code 12 = .ok (.dup, 1) := by decide +kernel
theorem own_d6_13 : decode prog_36_method_4_code 13 = .ok (.getfield 13, 3) := by decide +kernel
theorem own_d6_16 : decode prog_36_method_4_code 16 = .ok (.iconst 1, 1) := by decide +kernel
theorem own_d6_17 : decode prog_36_method_4_code 17 = .ok (.isub, 1) := by decide +kernel
theorem own_d6_18 : decode prog_36_method_4_code 18 = .ok (.dup_x1, 1) := by decide +kernel
theorem own_d6_19 : decode prog_36_method_4_code 19 = .ok (.putfield 13, 3) := by decide +kernel
theorem own_d6_22 : decode prog_36_method_4_code 22 = .ok (.iaload, 1) := by decide +kernel
theorem own_d6_23 : decode prog_36_method_4_code 23 = .ok (.istore_n 2, 1) := by decide +kernel
theorem own_d6_24 : decode prog_36_method_4_code 24 = .ok (.iconst 0, 1) := by decide +kernel
theorem own_d6_25 : decode prog_36_method_4_code 25 = .ok (.istore_n 3, 1) := by decide +kernel
theorem own_d6_26 : decode prog_36_method_4_code 26 = .ok (.iconst 2, 1) := by decide +kernel
theorem own_d6_27 : decode prog_36_method_4_code 27 = .ok (.iload_n 3, 1) := by decide +kernel
theorem own_d6_28 : decode prog_36_method_4_code 28 = .ok (.imul, 1) := by decide +kernel
theorem own_d6_29 : decode prog_36_method_4_code 29 = .ok (.iconst 1, 1) := by decide +kernel
theorem own_d6_30 : decode prog_36_method_4_code 30 = .ok (.iadd, 1) := by decide +kernel
theorem own_d6_31 : decode prog_36_method_4_code 31 = .ok (.istore 4, 2) := by decide +kernel
theorem own_d6_33 : decode prog_36_method_4_code 33 = .ok (.iload 4, 2) := by decide +kernel
theorem own_d6_35 : decode prog_36_method_4_code 35 = .ok (.aload_n 0, 1) := by decide +kernel
theorem own_d6_36 : decode prog_36_method_4_code 36 = .ok (.getfield 13, 3) := by decide +kernel
theorem own_d6_39 : decode prog_36_method_4_code 39 = .ok (.if_icmp .lt 6, 3) := by decide +kernel
theorem own_d6_42 : decode prog_36_method_4_code 42 = .ok (.goto 69, 3) := by decide +kernel
theorem own_d6_45 : decode prog_36_method_4_code 45 = .ok (.iload 4, 2) := by decide +kernel
theorem own_d6_47 : decode prog_36_method_4_code 47 = .ok (.iconst 1, 1) := by decide +kernel
theorem own_d6_48 : decode prog_36_method_4_code 48 = .ok (.iadd, 1) := by decide +kernel
theorem own_d6_49 : decode prog_36_method_4_code 49 = .ok (.aload_n 0, 1) := by decide +kernel
theorem own_d6_50 : decode prog_36_method_4_code 50 = .ok (.getfield 13, 3) := by decide +kernel
theorem own_d6_53 : decode prog_36_method_4_code 53 = .ok (.if_icmp .ge 25, 3) := by decide +kernel
theorem own_d6_56 : decode prog_36_method_4_code 56 = .ok (.aload_n 0, 1) := by decide +kernel
theorem own_d6_57 : decode prog_36_method_4_code 57 = .ok (.getfield 7, 3) := by decide +kernel
theorem own_d6_60 : decode prog_36_method_4_code 60 = .ok (.iload 4, 2) := by decide +kernel
theorem own_d6_62 : decode prog_36_method_4_code 62 = .ok (.iconst 1, 1) := by decide +kernel
theorem own_d6_63 : decode prog_36_method_4_code 63 = .ok (.iadd, 1) := by decide +kernel
theorem own_d6_64 : decode prog_36_method_4_code 64 = .ok (.iaload, 1) := by decide +kernel
theorem own_d6_65 : decode prog_36_method_4_code 65 = .ok (.aload_n 0, 1) := by decide +kernel
theorem own_d6_66 : decode prog_36_method_4_code 66 = .ok (.getfield 7, 3) := by decide +kernel
theorem own_d6_69 : decode prog_36_method_4_code 69 = .ok (.iload 4, 2) := by decide +kernel
theorem own_d6_71 : decode prog_36_method_4_code 71 = .ok (.iaload, 1) := by decide +kernel
theorem own_d6_72 : decode prog_36_method_4_code 72 = .ok (.if_icmp .ge 6, 3) := by decide +kernel
theorem own_d6_75 : decode prog_36_method_4_code 75 = .ok (.iinc 4 1, 3) := by decide +kernel
theorem own_d6_78 : decode prog_36_method_4_code 78 = .ok (.iload_n 2, 1) := by decide +kernel
theorem own_d6_79 : decode prog_36_method_4_code 79 = .ok (.aload_n 0, 1) := by decide +kernel
theorem own_d6_80 : decode prog_36_method_4_code 80 = .ok (.getfield 7, 3) := by decide +kernel
theorem own_d6_83 : decode prog_36_method_4_code 83 = .ok (.iload 4, 2) := by decide +kernel
theorem own_d6_85 : decode prog_36_method_4_code 85 = .ok (.iaload, 1) := by decide +kernel
theorem own_d6_86 : decode prog_36_method_4_code 86 = .ok (.if_icmp .gt 6, 3) := by decide +kernel
theorem own_d6_89 : decode prog_36_method_4_code 89 = .ok (.goto 22, 3) := by decide +kernel
theorem own_d6_92 : decode prog_36_method_4_code 92 = .ok (.aload_n 0, 1) := by decide +kernel
theorem own_d6_93 : decode prog_36_method_4_code 93 = .ok (.getfield 7, 3) := by decide +kernel
theorem own_d6_96 : decode prog_36_method_4_code 96 = .ok (.iload_n 3, 1) := by decide +kernel
theorem own_d6_97 : decode prog_36_method_4_code 97 = .ok (.aload_n 0, 1) := by decide +kernel
theorem own_d6_98 : decode prog_36_method_4_code 98 = .ok (.getfield 7, 3) := by decide +kernel
theorem own_d6_101 : decode prog_36_method_4_code 101 = .ok (.iload 4, 2) := by decide +kernel
theorem own_d6_103 : decode prog_36_method_4_code 103 = .ok (.iaload, 1) := by decide +kernel
theorem own_d6_104 : decode prog_36_method_4_code 104 = .ok (.iastore, 1) := by decide +kernel
theorem own_d6_105 : decode prog_36_method_4_code 105 = .ok (.iload 4, 2) := by decide +kernel
theorem own_d6_107 : decode prog_36_method_4_code 107 = .ok (.istore_n 3, 1) := by decide +kernel
theorem own_d6_108 : decode prog_36_method_4_code 108 = .ok (.goto (-82), 3) := by decide +kernel
theorem own_d6_111 : decode prog_36_method_4_code 111 = .ok (.aload_n 0, 1) := by decide +kernel
theorem own_d6_112 : decode prog_36_method_4_code 112 = .ok (.getfield 7, 3) := by decide +kernel
theorem own_d6_115 : decode prog_36_method_4_code 115 = .ok (.iload_n 3, 1) := by decide +kernel
theorem own_d6_116 : decode prog_36_method_4_code 116 = .ok (.iload_n 2, 1) := by decide +kernel
theorem own_d6_117 : decode prog_36_method_4_code 117 = .ok (.iastore, 1) := by decide +kernel
theorem own_d6_118 : decode prog_36_method_4_code 118 = .ok (.iload_n 1, 1) := by decide +kernel
theorem own_d6_119 : decode prog_36_method_4_code 119 = .ok (.ireturn, 1) := by decide +kernel
theorem own_pn0 : plainName "com/example/serialis/serialis/graph/IntMinHeap" = true := by first | (simp [plainName, overriddenIn]; done) | decide +kernel
theorem own_pn1 : plainName "com/example/serialis/serialis/graph/IntMinHeapAddPinLaw" = true := by first | (simp [plainName, overriddenIn]; done) | decide +kernel
theorem own_pd0 : parseMethodDescriptor "([III)V" = some ⟨[(.array .int), .int, .int], none⟩ := by decide +kernel
theorem own_pd1 : parseMethodDescriptor "(I)V" = some ⟨[.int], none⟩ := by decide +kernel
theorem own_pd2 : parseMethodDescriptor "()Z" = some ⟨[], some .boolean⟩ := by decide +kernel
theorem own_pd3 : parseMethodDescriptor "()I" = some ⟨[], some .int⟩ := by decide +kernel
set_option maxRecDepth 65536 in
set_option maxHeartbeats 40000000 in
theorem own_m2 {l : Launch} {Z : State} {a0 : Array Value} (hw : ∀ d ∈ tables_1, d.before a0 Z = true) {n0 : Nat} {ws : List Jvm.Cond} {h : Heap} (a : Addr) (Z0 : n0 ≤ h.size) (f0 : Exa Z h a "com/example/serialis/serialis/graph/IntMinHeap") (f1 : n0 ≤ a) (f2 : Fld Z h a "com/example/serialis/serialis/graph/IntMinHeap" "heap" "[I" .null) (f3 : Fld Z h a "com/example/serialis/serialis/graph/IntMinHeap" "size" "I" (.int (0 : Int32))) :
    own_Met l Z n0 (⟨"com/example/serialis/serialis/graph/IntMinHeap", "<init>", "(I)V"⟩ : MethodName) prog_36_method_1_code 2 none ({ frames := 1, cells := 1, slots := 4, locals := 12 } : Room) ws #[(.ref a), (.int (4 : Int32))] h (fun v h' => ∃ ar : Addr, (v = none) ∧ (Keep h h' [a]) ∧ (n0 ≤ ar ∧ h.size ≤ ar) ∧ (Exa Z h' a "com/example/serialis/serialis/graph/IntMinHeap") ∧ (Fld Z h' a "com/example/serialis/serialis/graph/IntMinHeap" "heap" "[I" (.ref ar)) ∧ (Fld Z h' a "com/example/serialis/serialis/graph/IntMinHeap" "size" "I" (.int (0 : Int32))) ∧ (own_AI Z h' ar 4 (fun _ => (0 : Int32))) ∧ (a ≠ ar)) := by
  refine own_met own_pn0 #[.val (.ref a), .val (.int (4 : Int32))] (fun m => by first | (simp [entryFrame, mkF, argsToLocals, Value.category]; done) | rfl) ?_
  intro p_ e_ s_ m_ b_ mt_ c_ C
  replace C : own_Ctx p_ s_ m_ mt_ c_ Z "com/example/serialis/serialis/graph/IntMinHeap" "<init>" prog_36_method_1_code 2 none := C
  have K0 : Keep h h [a] := Keep.refl _ _
  refine own_aloadN C (pc' := 1) own_d2_0 rfl rfl rfl ?_
  refine own_initO C (pc' := 4) (W := 0) (hw _ (List.mem_of_getElem? (i := 11) rfl)) (hw _ (List.mem_of_getElem? (i := 12) rfl)) (hw _ (List.mem_of_getElem? (i := 13) rfl)) own_d2_1 rfl rfl (by decide) (Nat.le_of_eq rfl) (by decide) ?_
  refine own_aloadN C (pc' := 5) own_d2_4 rfl rfl rfl ?_
  refine own_iloadN C (pc' := 6) own_d2_5 rfl rfl ?_
  refine own_newAI C (pc' := 8) (hw _ (List.mem_of_getElem? (i := 0) rfl)) Z0 own_d2_6 rfl (nn := 4) (cap := 4) (by decide) (by decide) (by decide) (by decide) (by decide) (fun h1 a2 ea3 ga4 Z5 E6 V7 => ?_)
  have ne8 : a ≠ a2 := by rw [ea3]; exact Nat.ne_of_lt (Exa.lt f0)
  have F9 : Exa Z h1 a "com/example/serialis/serialis/graph/IntMinHeap" := Exa.ext E6 f0
  have F10 : Fld Z h1 a "com/example/serialis/serialis/graph/IntMinHeap" "heap" "[I" .null := Fld.ext E6 f2
  have F11 : Fld Z h1 a "com/example/serialis/serialis/graph/IntMinHeap" "size" "I" (.int (0 : Int32)) := Fld.ext E6 f3
  have gk13 : h.size ≤ a2 := by rw [ea3]; exact K0.1
  have K12 := Keep.ext K0 E6
  refine own_putF C (pc' := 11) (hw _ (List.mem_of_getElem? (i := 14) rfl)) F10 F9 (Or.inr ⟨(hw _ (List.mem_of_getElem? (i := 15) rfl)), rfl, rfl⟩) (hw _ (List.mem_of_getElem? (i := 6) rfl)) (ty := (.array .int)) (by decide) rfl rfl f1 own_d2_8 rfl (fun h14 W15 => ?_)
  have Z16 : n0 ≤ h14.size := Nat.le_trans Z5 (Nat.le_of_eq (Wr.size W15).symm)
  have K17 := Keep.wr K12 W15 (Or.inl (List.mem_of_getElem? (i := 0) rfl))
  have F18 : Exa Z h14 a "com/example/serialis/serialis/graph/IntMinHeap" := Exa.wr W15 F9
  have F19 : Fld Z h14 a "com/example/serialis/serialis/graph/IntMinHeap" "heap" "[I" (.ref a2) := Fld.same W15 F10
  have F20 : Fld Z h14 a "com/example/serialis/serialis/graph/IntMinHeap" "size" "I" (.int (0 : Int32)) := Fld.other W15 F11 (Or.inr (slot_ne (Or.inl (hw _ (List.mem_of_getElem? (i := 22) rfl))) (Or.inr (hw _ (List.mem_of_getElem? (i := 15) rfl))) (by decide) (t := .int) (t' := (.array .int)) (by decide) (by decide)))
  have F21 : own_AI Z h14 a2 4 (fun _ => (0 : Int32)) := own_A.other V7 W15 (Ne.symm ne8)
  exact own_retV C rfl own_d2_11 (by decide) (by decide) (⟨a2, rfl, K17, ⟨ga4, gk13⟩, F18, F19, F20, F21, ne8⟩)
set_option maxRecDepth 65536 in
set_option maxHeartbeats 40000000 in
theorem own_add0 {l : Launch} {Z : State} {a0 : Array Value} (hw : ∀ d ∈ tables_1, d.before a0 Z = true) {n0 : Nat} {ws : List Jvm.Cond} {h : Heap} (a : Addr) (ar : Addr) (f : Nat → Int32) (x : Int32) (Z0 : n0 ≤ h.size) (f0 : Exa Z h a "com/example/serialis/serialis/graph/IntMinHeap") (f1 : n0 ≤ a) (f2 : n0 ≤ ar) (f3 : a ≠ ar) (f4 : Fld Z h a "com/example/serialis/serialis/graph/IntMinHeap" "heap" "[I" (.ref ar)) (f5 : Fld Z h a "com/example/serialis/serialis/graph/IntMinHeap" "size" "I" (.int (0 : Int32))) (f6 : own_AI Z h ar 4 f) (hH : own_H 0 f) :
    own_Met l Z n0 (⟨"com/example/serialis/serialis/graph/IntMinHeap", "add", "(I)V"⟩ : MethodName) prog_36_method_3_code 4 none ({ frames := 0, cells := 0, slots := 0, locals := 0 } : Room) ws #[(.ref a), (.int x)] h (fun v h' => ∃ g : Nat → Int32, (v = none) ∧ (Keep h h' [a, ar]) ∧ (Exa Z h' a "com/example/serialis/serialis/graph/IntMinHeap") ∧ (Fld Z h' a "com/example/serialis/serialis/graph/IntMinHeap" "heap" "[I" (.ref ar)) ∧ (Fld Z h' a "com/example/serialis/serialis/graph/IntMinHeap" "size" "I" (.int (1 : Int32))) ∧ (own_AI Z h' ar 4 g) ∧ (own_H 1 g) ∧ (∀ v, own_cnt 1 g v = own_cnt 0 f v + own_one x v)) := by
  refine own_met own_pn0 #[.val (.ref a), .val (.int x), .unset, .unset] (fun m => by first | (simp [entryFrame, mkF, argsToLocals, Value.category]; done) | rfl) ?_
  intro p_ e_ s_ m_ b_ mt_ c_ C
  replace C : own_Ctx p_ s_ m_ mt_ c_ Z "com/example/serialis/serialis/graph/IntMinHeap" "add" prog_36_method_3_code 4 none := C
  have K0 : Keep h h [a, ar] := Keep.refl _ _
  refine own_aloadN C (pc' := 1) own_d4_0 rfl rfl rfl ?_
  refine own_dup C (pc' := 2) own_d4_1 rfl rfl ?_
  refine own_getF C (pc' := 5) (hw _ (List.mem_of_getElem? (i := 21) rfl)) f5 own_d4_2 rfl ?_
  refine own_dupX1 C (pc' := 6) own_d4_5 rfl rfl rfl ?_
  refine own_iconst C (pc' := 7) (v := (1 : Int32)) own_d4_6 rfl (by decide) ?_
  refine own_iaddV C (pc' := 8) (v := (1 : Int32)) own_d4_7 rfl (by decide) ?_
  refine own_putF C (pc' := 11) (hw _ (List.mem_of_getElem? (i := 21) rfl)) f5 f0 (Or.inl (hw _ (List.mem_of_getElem? (i := 22) rfl))) (hw _ (List.mem_of_getElem? (i := 6) rfl)) (ty := .int) (by decide) rfl rfl f1 own_d4_8 rfl (fun h22 W23 => ?_)
  have Z24 : n0 ≤ h22.size := Nat.le_trans Z0 (Nat.le_of_eq (Wr.size W23).symm)
  have K25 := Keep.wr K0 W23 (Or.inl (List.mem_of_getElem? (i := 0) rfl))
  have F26 : Exa Z h22 a "com/example/serialis/serialis/graph/IntMinHeap" := Exa.wr W23 f0
  have F27 : Fld Z h22 a "com/example/serialis/serialis/graph/IntMinHeap" "heap" "[I" (.ref ar) := Fld.other W23 f4 (Or.inr (slot_ne (Or.inr (hw _ (List.mem_of_getElem? (i := 15) rfl))) (Or.inl (hw _ (List.mem_of_getElem? (i := 22) rfl))) (by decide) (t := (.array .int)) (t' := .int) (by decide) (by decide)))
  have F28 : Fld Z h22 a "com/example/serialis/serialis/graph/IntMinHeap" "size" "I" (.int (1 : Int32)) := Fld.same W23 f5
  have F29 : own_AI Z h22 ar 4 f := own_A.other f6 W23 (Ne.symm f3)
  refine own_istoreN C (pc' := 12) (Ls' := #[.val (.ref a), .val (.int x), .val (.int (0 : Int32)), .unset]) own_d4_11 rfl rfl ?_
  refine own_iloadN C (pc' := 13) own_d4_12 rfl rfl ?_
  refine own_i0_le C (pc1 := 52) (pc2 := 16) own_d4_13 rfl rfl (fun c30 => ?_) (fun c30 => absurd c30 (by decide))
  refine own_aloadN C (pc' := 53) own_d4_52 rfl rfl rfl ?_
  refine own_getF C (pc' := 56) (hw _ (List.mem_of_getElem? (i := 14) rfl)) F27 own_d4_53 rfl ?_
  refine own_iloadN C (pc' := 57) own_d4_56 rfl rfl ?_
  refine own_iloadN C (pc' := 58) own_d4_57 rfl rfl ?_
  refine own_stI C (pc' := 59) F29 (i := 0) (by decide) (by decide) f2 own_d4_58 rfl (fun h31 W32 V33 => ?_)
  have Z34 : n0 ≤ h31.size := Nat.le_trans Z24 (Nat.le_of_eq (Wr.size W32).symm)
  have K35 := Keep.wr K25 W32 (Or.inl (List.mem_of_getElem? (i := 1) rfl))
  have F36 : Exa Z h31 a "com/example/serialis/serialis/graph/IntMinHeap" := Exa.wr W32 F26
  have F37 : Fld Z h31 a "com/example/serialis/serialis/graph/IntMinHeap" "heap" "[I" (.ref ar) := Fld.other W32 F27 (Or.inl f3)
  have F38 : Fld Z h31 a "com/example/serialis/serialis/graph/IntMinHeap" "size" "I" (.int (1 : Int32)) := Fld.other W32 F28 (Or.inl f3)
  have F39 : own_AI Z h31 ar 4 (own_upd f 0 x) := V33
  have HH40 : own_H 1 (own_upd f 0 x) := by
    refine fun i hi => ?_
    have t : i = 0 := by omega
    rcases t with rfl
    · show x ≤ x
      rw [own_le]; omega
  exact own_retV C rfl own_d4_59 (by decide) (by decide) (⟨(own_upd f 0 x), rfl, K35, F36, F37, F38, F39, HH40, (fun v => by show (0 + own_one x v) = 0 + own_one x v; omega)⟩)
set_option maxRecDepth 65536 in
set_option maxHeartbeats 40000000 in
theorem own_add1 {l : Launch} {Z : State} {a0 : Array Value} (hw : ∀ d ∈ tables_1, d.before a0 Z = true) {n0 : Nat} {ws : List Jvm.Cond} {h : Heap} (a : Addr) (ar : Addr) (f : Nat → Int32) (x : Int32) (Z0 : n0 ≤ h.size) (f0 : Exa Z h a "com/example/serialis/serialis/graph/IntMinHeap") (f1 : n0 ≤ a) (f2 : n0 ≤ ar) (f3 : a ≠ ar) (f4 : Fld Z h a "com/example/serialis/serialis/graph/IntMinHeap" "heap" "[I" (.ref ar)) (f5 : Fld Z h a "com/example/serialis/serialis/graph/IntMinHeap" "size" "I" (.int (1 : Int32))) (f6 : own_AI Z h ar 4 f) (hH : own_H 1 f) :
    own_Met l Z n0 (⟨"com/example/serialis/serialis/graph/IntMinHeap", "add", "(I)V"⟩ : MethodName) prog_36_method_3_code 4 none ({ frames := 0, cells := 0, slots := 0, locals := 0 } : Room) ws #[(.ref a), (.int x)] h (fun v h' => ∃ g : Nat → Int32, (v = none) ∧ (Keep h h' [a, ar]) ∧ (Exa Z h' a "com/example/serialis/serialis/graph/IntMinHeap") ∧ (Fld Z h' a "com/example/serialis/serialis/graph/IntMinHeap" "heap" "[I" (.ref ar)) ∧ (Fld Z h' a "com/example/serialis/serialis/graph/IntMinHeap" "size" "I" (.int (2 : Int32))) ∧ (own_AI Z h' ar 4 g) ∧ (own_H 2 g) ∧ (∀ v, own_cnt 2 g v = own_cnt 1 f v + own_one x v)) := by
  refine own_met own_pn0 #[.val (.ref a), .val (.int x), .unset, .unset] (fun m => by first | (simp [entryFrame, mkF, argsToLocals, Value.category]; done) | rfl) ?_
  intro p_ e_ s_ m_ b_ mt_ c_ C
  replace C : own_Ctx p_ s_ m_ mt_ c_ Z "com/example/serialis/serialis/graph/IntMinHeap" "add" prog_36_method_3_code 4 none := C
  have K0 : Keep h h [a, ar] := Keep.refl _ _
  refine own_aloadN C (pc' := 1) own_d4_0 rfl rfl rfl ?_
  refine own_dup C (pc' := 2) own_d4_1 rfl rfl ?_
  refine own_getF C (pc' := 5) (hw _ (List.mem_of_getElem? (i := 21) rfl)) f5 own_d4_2 rfl ?_
  refine own_dupX1 C (pc' := 6) own_d4_5 rfl rfl rfl ?_
  refine own_iconst C (pc' := 7) (v := (1 : Int32)) own_d4_6 rfl (by decide) ?_
  refine own_iaddV C (pc' := 8) (v := (2 : Int32)) own_d4_7 rfl (by decide) ?_
  refine own_putF C (pc' := 11) (hw _ (List.mem_of_getElem? (i := 21) rfl)) f5 f0 (Or.inl (hw _ (List.mem_of_getElem? (i := 22) rfl))) (hw _ (List.mem_of_getElem? (i := 6) rfl)) (ty := .int) (by decide) rfl rfl f1 own_d4_8 rfl (fun h41 W42 => ?_)
  have Z43 : n0 ≤ h41.size := Nat.le_trans Z0 (Nat.le_of_eq (Wr.size W42).symm)
  have K44 := Keep.wr K0 W42 (Or.inl (List.mem_of_getElem? (i := 0) rfl))
  have F45 : Exa Z h41 a "com/example/serialis/serialis/graph/IntMinHeap" := Exa.wr W42 f0
  have F46 : Fld Z h41 a "com/example/serialis/serialis/graph/IntMinHeap" "heap" "[I" (.ref ar) := Fld.other W42 f4 (Or.inr (slot_ne (Or.inr (hw _ (List.mem_of_getElem? (i := 15) rfl))) (Or.inl (hw _ (List.mem_of_getElem? (i := 22) rfl))) (by decide) (t := (.array .int)) (t' := .int) (by decide) (by decide)))
  have F47 : Fld Z h41 a "com/example/serialis/serialis/graph/IntMinHeap" "size" "I" (.int (2 : Int32)) := Fld.same W42 f5
  have F48 : own_AI Z h41 ar 4 f := own_A.other f6 W42 (Ne.symm f3)
  refine own_istoreN C (pc' := 12) (Ls' := #[.val (.ref a), .val (.int x), .val (.int (1 : Int32)), .unset]) own_d4_11 rfl rfl ?_
  refine own_iloadN C (pc' := 13) own_d4_12 rfl rfl ?_
  refine own_i0_le C (pc1 := 52) (pc2 := 16) own_d4_13 rfl rfl (fun c49 => absurd c49 (by decide)) (fun c49 => ?_)
  refine own_iloadN C (pc' := 17) own_d4_16 rfl rfl ?_
  refine own_iconst C (pc' := 18) (v := (1 : Int32)) own_d4_17 rfl (by decide) ?_
  refine own_isubV C (pc' := 19) (v := (0 : Int32)) own_d4_18 rfl (by decide) ?_
  refine own_iconst C (pc' := 20) (v := (2 : Int32)) own_d4_19 rfl (by decide) ?_
  refine own_idivV C (pc' := 21) (v := (0 : Int32)) own_d4_20 rfl (by decide) (by decide) ?_
  refine own_istoreN C (pc' := 22) (Ls' := #[.val (.ref a), .val (.int x), .val (.int (1 : Int32)), .val (.int (0 : Int32))]) own_d4_21 rfl rfl ?_
  refine own_aloadN C (pc' := 23) own_d4_22 rfl rfl rfl ?_
  refine own_getF C (pc' := 26) (hw _ (List.mem_of_getElem? (i := 14) rfl)) F46 own_d4_23 rfl ?_
  refine own_iloadN C (pc' := 27) own_d4_26 rfl rfl ?_
  refine own_ldIV C (pc' := 28) F48 (i := 0) (v := (f 0)) (by decide) (by decide) rfl own_d4_27 rfl ?_
  refine own_iloadN C (pc' := 29) own_d4_28 rfl rfl ?_
  refine own_ii_gt C (pc1 := 35) (pc2 := 32) own_d4_29 rfl rfl (fun c50 => ?_) (fun c50 => ?_)
  · skip
    refine own_aloadN C (pc' := 36) own_d4_35 rfl rfl rfl ?_
    refine own_getF C (pc' := 39) (hw _ (List.mem_of_getElem? (i := 14) rfl)) F46 own_d4_36 rfl ?_
    refine own_iloadN C (pc' := 40) own_d4_39 rfl rfl ?_
    refine own_aloadN C (pc' := 41) own_d4_40 rfl rfl rfl ?_
    refine own_getF C (pc' := 44) (hw _ (List.mem_of_getElem? (i := 14) rfl)) F46 own_d4_41 rfl ?_
    refine own_iloadN C (pc' := 45) own_d4_44 rfl rfl ?_
    refine own_ldIV C (pc' := 46) F48 (i := 0) (v := (f 0)) (by decide) (by decide) rfl own_d4_45 rfl ?_
    refine own_stI C (pc' := 47) F48 (i := 1) (by decide) (by decide) f2 own_d4_46 rfl (fun h51 W52 V53 => ?_)
    have Z54 : n0 ≤ h51.size := Nat.le_trans Z43 (Nat.le_of_eq (Wr.size W52).symm)
    have K55 := Keep.wr K44 W52 (Or.inl (List.mem_of_getElem? (i := 1) rfl))
    have F56 : Exa Z h51 a "com/example/serialis/serialis/graph/IntMinHeap" := Exa.wr W52 F45
    have F57 : Fld Z h51 a "com/example/serialis/serialis/graph/IntMinHeap" "heap" "[I" (.ref ar) := Fld.other W52 F46 (Or.inl f3)
    have F58 : Fld Z h51 a "com/example/serialis/serialis/graph/IntMinHeap" "size" "I" (.int (2 : Int32)) := Fld.other W52 F47 (Or.inl f3)
    have F59 : own_AI Z h51 ar 4 (own_upd f 1 (f 0)) := V53
    refine own_iloadN C (pc' := 48) own_d4_47 rfl rfl ?_
    refine own_istoreN C (pc' := 49) (Ls' := #[.val (.ref a), .val (.int x), .val (.int (0 : Int32)), .val (.int (0 : Int32))]) own_d4_48 rfl rfl ?_
    refine own_goto C (pc' := 12) own_d4_49 rfl ?_
    refine own_iloadN C (pc' := 13) own_d4_12 rfl rfl ?_
    refine own_i0_le C (pc1 := 52) (pc2 := 16) own_d4_13 rfl rfl (fun c60 => ?_) (fun c60 => absurd c60 (by decide))
    refine own_aloadN C (pc' := 53) own_d4_52 rfl rfl rfl ?_
    refine own_getF C (pc' := 56) (hw _ (List.mem_of_getElem? (i := 14) rfl)) F57 own_d4_53 rfl ?_
    refine own_iloadN C (pc' := 57) own_d4_56 rfl rfl ?_
    refine own_iloadN C (pc' := 58) own_d4_57 rfl rfl ?_
    refine own_stI C (pc' := 59) F59 (i := 0) (by decide) (by decide) f2 own_d4_58 rfl (fun h61 W62 V63 => ?_)
    have Z64 : n0 ≤ h61.size := Nat.le_trans Z54 (Nat.le_of_eq (Wr.size W62).symm)
    have K65 := Keep.wr K55 W62 (Or.inl (List.mem_of_getElem? (i := 1) rfl))
    have F66 : Exa Z h61 a "com/example/serialis/serialis/graph/IntMinHeap" := Exa.wr W62 F56
    have F67 : Fld Z h61 a "com/example/serialis/serialis/graph/IntMinHeap" "heap" "[I" (.ref ar) := Fld.other W62 F57 (Or.inl f3)
    have F68 : Fld Z h61 a "com/example/serialis/serialis/graph/IntMinHeap" "size" "I" (.int (2 : Int32)) := Fld.other W62 F58 (Or.inl f3)
    have F69 : own_AI Z h61 ar 4 (own_upd (own_upd f 1 (f 0)) 0 x) := V63
    have HH70 : own_H 2 (own_upd (own_upd f 1 (f 0)) 0 x) := by
      refine fun i hi => ?_
      rw [own_lt] at c50
      have t : i = 0 ∨ i = 1 := by omega
      rcases t with rfl | rfl
      · show x ≤ x
        rw [own_le]; omega
      · show x ≤ (f 0)
        rw [own_le]; omega
    exact own_retV C rfl own_d4_59 (by decide) (by decide) (⟨(own_upd (own_upd f 1 (f 0)) 0 x), rfl, K65, F66, F67, F68, F69, HH70, (fun v => by show ((0 + own_one x v) + own_one (f 0) v) = (0 + own_one (f 0) v) + own_one x v; omega)⟩)
  · skip
    refine own_goto C (pc' := 52) own_d4_32 rfl ?_
    refine own_aloadN C (pc' := 53) own_d4_52 rfl rfl rfl ?_
    refine own_getF C (pc' := 56) (hw _ (List.mem_of_getElem? (i := 14) rfl)) F46 own_d4_53 rfl ?_
    refine own_iloadN C (pc' := 57) own_d4_56 rfl rfl ?_
    refine own_iloadN C (pc' := 58) own_d4_57 rfl rfl ?_
    refine own_stI C (pc' := 59) F48 (i := 1) (by decide) (by decide) f2 own_d4_58 rfl (fun h71 W72 V73 => ?_)
    have Z74 : n0 ≤ h71.size := Nat.le_trans Z43 (Nat.le_of_eq (Wr.size W72).symm)
    have K75 := Keep.wr K44 W72 (Or.inl (List.mem_of_getElem? (i := 1) rfl))
    have F76 : Exa Z h71 a "com/example/serialis/serialis/graph/IntMinHeap" := Exa.wr W72 F45
    have F77 : Fld Z h71 a "com/example/serialis/serialis/graph/IntMinHeap" "heap" "[I" (.ref ar) := Fld.other W72 F46 (Or.inl f3)
    have F78 : Fld Z h71 a "com/example/serialis/serialis/graph/IntMinHeap" "size" "I" (.int (2 : Int32)) := Fld.other W72 F47 (Or.inl f3)
    have F79 : own_AI Z h71 ar 4 (own_upd f 1 x) := V73
    have HH80 : own_H 2 (own_upd f 1 x) := by
      refine fun i hi => ?_
      rw [own_lt] at c50
      have t : i = 0 ∨ i = 1 := by omega
      rcases t with rfl | rfl
      · show (f 0) ≤ (f 0)
        rw [own_le]; omega
      · show (f 0) ≤ x
        rw [own_le]; omega
    exact own_retV C rfl own_d4_59 (by decide) (by decide) (⟨(own_upd f 1 x), rfl, K75, F76, F77, F78, F79, HH80, (fun v => by show ((0 + own_one (f 0) v) + own_one x v) = (0 + own_one (f 0) v) + own_one x v; omega)⟩)
set_option maxRecDepth 65536 in
set_option maxHeartbeats 40000000 in
theorem own_add2 {l : Launch} {Z : State} {a0 : Array Value} (hw : ∀ d ∈ tables_1, d.before a0 Z = true) {n0 : Nat} {ws : List Jvm.Cond} {h : Heap} (a : Addr) (ar : Addr) (f : Nat → Int32) (x : Int32) (Z0 : n0 ≤ h.size) (f0 : Exa Z h a "com/example/serialis/serialis/graph/IntMinHeap") (f1 : n0 ≤ a) (f2 : n0 ≤ ar) (f3 : a ≠ ar) (f4 : Fld Z h a "com/example/serialis/serialis/graph/IntMinHeap" "heap" "[I" (.ref ar)) (f5 : Fld Z h a "com/example/serialis/serialis/graph/IntMinHeap" "size" "I" (.int (2 : Int32))) (f6 : own_AI Z h ar 4 f) (hH : own_H 2 f) :
    own_Met l Z n0 (⟨"com/example/serialis/serialis/graph/IntMinHeap", "add", "(I)V"⟩ : MethodName) prog_36_method_3_code 4 none ({ frames := 0, cells := 0, slots := 0, locals := 0 } : Room) ws #[(.ref a), (.int x)] h (fun v h' => ∃ g : Nat → Int32, (v = none) ∧ (Keep h h' [a, ar]) ∧ (Exa Z h' a "com/example/serialis/serialis/graph/IntMinHeap") ∧ (Fld Z h' a "com/example/serialis/serialis/graph/IntMinHeap" "heap" "[I" (.ref ar)) ∧ (Fld Z h' a "com/example/serialis/serialis/graph/IntMinHeap" "size" "I" (.int (3 : Int32))) ∧ (own_AI Z h' ar 4 g) ∧ (own_H 3 g) ∧ (∀ v, own_cnt 3 g v = own_cnt 2 f v + own_one x v)) := by
  refine own_met own_pn0 #[.val (.ref a), .val (.int x), .unset, .unset] (fun m => by first | (simp [entryFrame, mkF, argsToLocals, Value.category]; done) | rfl) ?_
  intro p_ e_ s_ m_ b_ mt_ c_ C
  replace C : own_Ctx p_ s_ m_ mt_ c_ Z "com/example/serialis/serialis/graph/IntMinHeap" "add" prog_36_method_3_code 4 none := C
  have K0 : Keep h h [a, ar] := Keep.refl _ _
  refine own_aloadN C (pc' := 1) own_d4_0 rfl rfl rfl ?_
  refine own_dup C (pc' := 2) own_d4_1 rfl rfl ?_
  refine own_getF C (pc' := 5) (hw _ (List.mem_of_getElem? (i := 21) rfl)) f5 own_d4_2 rfl ?_
  refine own_dupX1 C (pc' := 6) own_d4_5 rfl rfl rfl ?_
  refine own_iconst C (pc' := 7) (v := (1 : Int32)) own_d4_6 rfl (by decide) ?_
  refine own_iaddV C (pc' := 8) (v := (3 : Int32)) own_d4_7 rfl (by decide) ?_
  refine own_putF C (pc' := 11) (hw _ (List.mem_of_getElem? (i := 21) rfl)) f5 f0 (Or.inl (hw _ (List.mem_of_getElem? (i := 22) rfl))) (hw _ (List.mem_of_getElem? (i := 6) rfl)) (ty := .int) (by decide) rfl rfl f1 own_d4_8 rfl (fun h81 W82 => ?_)
  have Z83 : n0 ≤ h81.size := Nat.le_trans Z0 (Nat.le_of_eq (Wr.size W82).symm)
  have K84 := Keep.wr K0 W82 (Or.inl (List.mem_of_getElem? (i := 0) rfl))
  have F85 : Exa Z h81 a "com/example/serialis/serialis/graph/IntMinHeap" := Exa.wr W82 f0
  have F86 : Fld Z h81 a "com/example/serialis/serialis/graph/IntMinHeap" "heap" "[I" (.ref ar) := Fld.other W82 f4 (Or.inr (slot_ne (Or.inr (hw _ (List.mem_of_getElem? (i := 15) rfl))) (Or.inl (hw _ (List.mem_of_getElem? (i := 22) rfl))) (by decide) (t := (.array .int)) (t' := .int) (by decide) (by decide)))
  have F87 : Fld Z h81 a "com/example/serialis/serialis/graph/IntMinHeap" "size" "I" (.int (3 : Int32)) := Fld.same W82 f5
  have F88 : own_AI Z h81 ar 4 f := own_A.other f6 W82 (Ne.symm f3)
  refine own_istoreN C (pc' := 12) (Ls' := #[.val (.ref a), .val (.int x), .val (.int (2 : Int32)), .unset]) own_d4_11 rfl rfl ?_
  refine own_iloadN C (pc' := 13) own_d4_12 rfl rfl ?_
  refine own_i0_le C (pc1 := 52) (pc2 := 16) own_d4_13 rfl rfl (fun c89 => absurd c89 (by decide)) (fun c89 => ?_)
  refine own_iloadN C (pc' := 17) own_d4_16 rfl rfl ?_
  refine own_iconst C (pc' := 18) (v := (1 : Int32)) own_d4_17 rfl (by decide) ?_
  refine own_isubV C (pc' := 19) (v := (1 : Int32)) own_d4_18 rfl (by decide) ?_
  refine own_iconst C (pc' := 20) (v := (2 : Int32)) own_d4_19 rfl (by decide) ?_
  refine own_idivV C (pc' := 21) (v := (0 : Int32)) own_d4_20 rfl (by decide) (by decide) ?_
  refine own_istoreN C (pc' := 22) (Ls' := #[.val (.ref a), .val (.int x), .val (.int (2 : Int32)), .val (.int (0 : Int32))]) own_d4_21 rfl rfl ?_
  refine own_aloadN C (pc' := 23) own_d4_22 rfl rfl rfl ?_
  refine own_getF C (pc' := 26) (hw _ (List.mem_of_getElem? (i := 14) rfl)) F86 own_d4_23 rfl ?_
  refine own_iloadN C (pc' := 27) own_d4_26 rfl rfl ?_
  refine own_ldIV C (pc' := 28) F88 (i := 0) (v := (f 0)) (by decide) (by decide) rfl own_d4_27 rfl ?_
  refine own_iloadN C (pc' := 29) own_d4_28 rfl rfl ?_
  refine own_ii_gt C (pc1 := 35) (pc2 := 32) own_d4_29 rfl rfl (fun c90 => ?_) (fun c90 => ?_)
  · skip
    refine own_aloadN C (pc' := 36) own_d4_35 rfl rfl rfl ?_
    refine own_getF C (pc' := 39) (hw _ (List.mem_of_getElem? (i := 14) rfl)) F86 own_d4_36 rfl ?_
    refine own_iloadN C (pc' := 40) own_d4_39 rfl rfl ?_
    refine own_aloadN C (pc' := 41) own_d4_40 rfl rfl rfl ?_
    refine own_getF C (pc' := 44) (hw _ (List.mem_of_getElem? (i := 14) rfl)) F86 own_d4_41 rfl ?_
    refine own_iloadN C (pc' := 45) own_d4_44 rfl rfl ?_
    refine own_ldIV C (pc' := 46) F88 (i := 0) (v := (f 0)) (by decide) (by decide) rfl own_d4_45 rfl ?_
    refine own_stI C (pc' := 47) F88 (i := 2) (by decide) (by decide) f2 own_d4_46 rfl (fun h91 W92 V93 => ?_)
    have Z94 : n0 ≤ h91.size := Nat.le_trans Z83 (Nat.le_of_eq (Wr.size W92).symm)
    have K95 := Keep.wr K84 W92 (Or.inl (List.mem_of_getElem? (i := 1) rfl))
    have F96 : Exa Z h91 a "com/example/serialis/serialis/graph/IntMinHeap" := Exa.wr W92 F85
    have F97 : Fld Z h91 a "com/example/serialis/serialis/graph/IntMinHeap" "heap" "[I" (.ref ar) := Fld.other W92 F86 (Or.inl f3)
    have F98 : Fld Z h91 a "com/example/serialis/serialis/graph/IntMinHeap" "size" "I" (.int (3 : Int32)) := Fld.other W92 F87 (Or.inl f3)
    have F99 : own_AI Z h91 ar 4 (own_upd f 2 (f 0)) := V93
    refine own_iloadN C (pc' := 48) own_d4_47 rfl rfl ?_
    refine own_istoreN C (pc' := 49) (Ls' := #[.val (.ref a), .val (.int x), .val (.int (0 : Int32)), .val (.int (0 : Int32))]) own_d4_48 rfl rfl ?_
    refine own_goto C (pc' := 12) own_d4_49 rfl ?_
    refine own_iloadN C (pc' := 13) own_d4_12 rfl rfl ?_
    refine own_i0_le C (pc1 := 52) (pc2 := 16) own_d4_13 rfl rfl (fun c100 => ?_) (fun c100 => absurd c100 (by decide))
    refine own_aloadN C (pc' := 53) own_d4_52 rfl rfl rfl ?_
    refine own_getF C (pc' := 56) (hw _ (List.mem_of_getElem? (i := 14) rfl)) F97 own_d4_53 rfl ?_
    refine own_iloadN C (pc' := 57) own_d4_56 rfl rfl ?_
    refine own_iloadN C (pc' := 58) own_d4_57 rfl rfl ?_
    refine own_stI C (pc' := 59) F99 (i := 0) (by decide) (by decide) f2 own_d4_58 rfl (fun h101 W102 V103 => ?_)
    have Z104 : n0 ≤ h101.size := Nat.le_trans Z94 (Nat.le_of_eq (Wr.size W102).symm)
    have K105 := Keep.wr K95 W102 (Or.inl (List.mem_of_getElem? (i := 1) rfl))
    have F106 : Exa Z h101 a "com/example/serialis/serialis/graph/IntMinHeap" := Exa.wr W102 F96
    have F107 : Fld Z h101 a "com/example/serialis/serialis/graph/IntMinHeap" "heap" "[I" (.ref ar) := Fld.other W102 F97 (Or.inl f3)
    have F108 : Fld Z h101 a "com/example/serialis/serialis/graph/IntMinHeap" "size" "I" (.int (3 : Int32)) := Fld.other W102 F98 (Or.inl f3)
    have F109 : own_AI Z h101 ar 4 (own_upd (own_upd f 2 (f 0)) 0 x) := V103
    have HH110 : own_H 3 (own_upd (own_upd f 2 (f 0)) 0 x) := by
      refine fun i hi => ?_
      have H1 : f 0 ≤ f 1 := hH 1 (by decide)
      rw [own_le] at H1
      rw [own_lt] at c90
      have t : i = 0 ∨ i = 1 ∨ i = 2 := by omega
      rcases t with rfl | rfl | rfl
      · show x ≤ x
        rw [own_le]; omega
      · show x ≤ (f 1)
        rw [own_le]; omega
      · show x ≤ (f 0)
        rw [own_le]; omega
    exact own_retV C rfl own_d4_59 (by decide) (by decide) (⟨(own_upd (own_upd f 2 (f 0)) 0 x), rfl, K105, F106, F107, F108, F109, HH110, (fun v => by show (((0 + own_one x v) + own_one (f 1) v) + own_one (f 0) v) = ((0 + own_one (f 0) v) + own_one (f 1) v) + own_one x v; omega)⟩)
  · skip
    refine own_goto C (pc' := 52) own_d4_32 rfl ?_
    refine own_aloadN C (pc' := 53) own_d4_52 rfl rfl rfl ?_
    refine own_getF C (pc' := 56) (hw _ (List.mem_of_getElem? (i := 14) rfl)) F86 own_d4_53 rfl ?_
    refine own_iloadN C (pc' := 57) own_d4_56 rfl rfl ?_
    refine own_iloadN C (pc' := 58) own_d4_57 rfl rfl ?_
    refine own_stI C (pc' := 59) F88 (i := 2) (by decide) (by decide) f2 own_d4_58 rfl (fun h111 W112 V113 => ?_)
    have Z114 : n0 ≤ h111.size := Nat.le_trans Z83 (Nat.le_of_eq (Wr.size W112).symm)
    have K115 := Keep.wr K84 W112 (Or.inl (List.mem_of_getElem? (i := 1) rfl))
    have F116 : Exa Z h111 a "com/example/serialis/serialis/graph/IntMinHeap" := Exa.wr W112 F85
    have F117 : Fld Z h111 a "com/example/serialis/serialis/graph/IntMinHeap" "heap" "[I" (.ref ar) := Fld.other W112 F86 (Or.inl f3)
    have F118 : Fld Z h111 a "com/example/serialis/serialis/graph/IntMinHeap" "size" "I" (.int (3 : Int32)) := Fld.other W112 F87 (Or.inl f3)
    have F119 : own_AI Z h111 ar 4 (own_upd f 2 x) := V113
    have HH120 : own_H 3 (own_upd f 2 x) := by
      refine fun i hi => ?_
      have H1 : f 0 ≤ f 1 := hH 1 (by decide)
      rw [own_le] at H1
      rw [own_lt] at c90
      have t : i = 0 ∨ i = 1 ∨ i = 2 := by omega
      rcases t with rfl | rfl | rfl
      · show (f 0) ≤ (f 0)
        rw [own_le]; omega
      · show (f 0) ≤ (f 1)
        rw [own_le]; omega
      · show (f 0) ≤ x
        rw [own_le]; omega
    exact own_retV C rfl own_d4_59 (by decide) (by decide) (⟨(own_upd f 2 x), rfl, K115, F116, F117, F118, F119, HH120, (fun v => by show (((0 + own_one (f 0) v) + own_one (f 1) v) + own_one x v) = ((0 + own_one (f 0) v) + own_one (f 1) v) + own_one x v; omega)⟩)
set_option maxRecDepth 65536 in
set_option maxHeartbeats 40000000 in
theorem own_add3 {l : Launch} {Z : State} {a0 : Array Value} (hw : ∀ d ∈ tables_1, d.before a0 Z = true) {n0 : Nat} {ws : List Jvm.Cond} {h : Heap} (a : Addr) (ar : Addr) (f : Nat → Int32) (x : Int32) (Z0 : n0 ≤ h.size) (f0 : Exa Z h a "com/example/serialis/serialis/graph/IntMinHeap") (f1 : n0 ≤ a) (f2 : n0 ≤ ar) (f3 : a ≠ ar) (f4 : Fld Z h a "com/example/serialis/serialis/graph/IntMinHeap" "heap" "[I" (.ref ar)) (f5 : Fld Z h a "com/example/serialis/serialis/graph/IntMinHeap" "size" "I" (.int (3 : Int32))) (f6 : own_AI Z h ar 4 f) (hH : own_H 3 f) :
    own_Met l Z n0 (⟨"com/example/serialis/serialis/graph/IntMinHeap", "add", "(I)V"⟩ : MethodName) prog_36_method_3_code 4 none ({ frames := 0, cells := 0, slots := 0, locals := 0 } : Room) ws #[(.ref a), (.int x)] h (fun v h' => ∃ g : Nat → Int32, (v = none) ∧ (Keep h h' [a, ar]) ∧ (Exa Z h' a "com/example/serialis/serialis/graph/IntMinHeap") ∧ (Fld Z h' a "com/example/serialis/serialis/graph/IntMinHeap" "heap" "[I" (.ref ar)) ∧ (Fld Z h' a "com/example/serialis/serialis/graph/IntMinHeap" "size" "I" (.int (4 : Int32))) ∧ (own_AI Z h' ar 4 g) ∧ (own_H 4 g) ∧ (∀ v, own_cnt 4 g v = own_cnt 3 f v + own_one x v)) := by
  refine own_met own_pn0 #[.val (.ref a), .val (.int x), .unset, .unset] (fun m => by first | (simp [entryFrame, mkF, argsToLocals, Value.category]; done) | rfl) ?_
  intro p_ e_ s_ m_ b_ mt_ c_ C
  replace C : own_Ctx p_ s_ m_ mt_ c_ Z "com/example/serialis/serialis/graph/IntMinHeap" "add" prog_36_method_3_code 4 none := C
  have K0 : Keep h h [a, ar] := Keep.refl _ _
  refine own_aloadN C (pc' := 1) own_d4_0 rfl rfl rfl ?_
  refine own_dup C (pc' := 2) own_d4_1 rfl rfl ?_
  refine own_getF C (pc' := 5) (hw _ (List.mem_of_getElem? (i := 21) rfl)) f5 own_d4_2 rfl ?_
  refine own_dupX1 C (pc' := 6) own_d4_5 rfl rfl rfl ?_
  refine own_iconst C (pc' := 7) (v := (1 : Int32)) own_d4_6 rfl (by decide) ?_
  refine own_iaddV C (pc' := 8) (v := (4 : Int32)) own_d4_7 rfl (by decide) ?_
  refine own_putF C (pc' := 11) (hw _ (List.mem_of_getElem? (i := 21) rfl)) f5 f0 (Or.inl (hw _ (List.mem_of_getElem? (i := 22) rfl))) (hw _ (List.mem_of_getElem? (i := 6) rfl)) (ty := .int) (by decide) rfl rfl f1 own_d4_8 rfl (fun h121 W122 => ?_)
  have Z123 : n0 ≤ h121.size := Nat.le_trans Z0 (Nat.le_of_eq (Wr.size W122).symm)
  have K124 := Keep.wr K0 W122 (Or.inl (List.mem_of_getElem? (i := 0) rfl))
  have F125 : Exa Z h121 a "com/example/serialis/serialis/graph/IntMinHeap" := Exa.wr W122 f0
  have F126 : Fld Z h121 a "com/example/serialis/serialis/graph/IntMinHeap" "heap" "[I" (.ref ar) := Fld.other W122 f4 (Or.inr (slot_ne (Or.inr (hw _ (List.mem_of_getElem? (i := 15) rfl))) (Or.inl (hw _ (List.mem_of_getElem? (i := 22) rfl))) (by decide) (t := (.array .int)) (t' := .int) (by decide) (by decide)))
  have F127 : Fld Z h121 a "com/example/serialis/serialis/graph/IntMinHeap" "size" "I" (.int (4 : Int32)) := Fld.same W122 f5
  have F128 : own_AI Z h121 ar 4 f := own_A.other f6 W122 (Ne.symm f3)
  refine own_istoreN C (pc' := 12) (Ls' := #[.val (.ref a), .val (.int x), .val (.int (3 : Int32)), .unset]) own_d4_11 rfl rfl ?_
  refine own_iloadN C (pc' := 13) own_d4_12 rfl rfl ?_
  refine own_i0_le C (pc1 := 52) (pc2 := 16) own_d4_13 rfl rfl (fun c129 => absurd c129 (by decide)) (fun c129 => ?_)
  refine own_iloadN C (pc' := 17) own_d4_16 rfl rfl ?_
  refine own_iconst C (pc' := 18) (v := (1 : Int32)) own_d4_17 rfl (by decide) ?_
  refine own_isubV C (pc' := 19) (v := (2 : Int32)) own_d4_18 rfl (by decide) ?_
  refine own_iconst C (pc' := 20) (v := (2 : Int32)) own_d4_19 rfl (by decide) ?_
  refine own_idivV C (pc' := 21) (v := (1 : Int32)) own_d4_20 rfl (by decide) (by decide) ?_
  refine own_istoreN C (pc' := 22) (Ls' := #[.val (.ref a), .val (.int x), .val (.int (3 : Int32)), .val (.int (1 : Int32))]) own_d4_21 rfl rfl ?_
  refine own_aloadN C (pc' := 23) own_d4_22 rfl rfl rfl ?_
  refine own_getF C (pc' := 26) (hw _ (List.mem_of_getElem? (i := 14) rfl)) F126 own_d4_23 rfl ?_
  refine own_iloadN C (pc' := 27) own_d4_26 rfl rfl ?_
  refine own_ldIV C (pc' := 28) F128 (i := 1) (v := (f 1)) (by decide) (by decide) rfl own_d4_27 rfl ?_
  refine own_iloadN C (pc' := 29) own_d4_28 rfl rfl ?_
  refine own_ii_gt C (pc1 := 35) (pc2 := 32) own_d4_29 rfl rfl (fun c130 => ?_) (fun c130 => ?_)
  · skip
    refine own_aloadN C (pc' := 36) own_d4_35 rfl rfl rfl ?_
    refine own_getF C (pc' := 39) (hw _ (List.mem_of_getElem? (i := 14) rfl)) F126 own_d4_36 rfl ?_
    refine own_iloadN C (pc' := 40) own_d4_39 rfl rfl ?_
    refine own_aloadN C (pc' := 41) own_d4_40 rfl rfl rfl ?_
    refine own_getF C (pc' := 44) (hw _ (List.mem_of_getElem? (i := 14) rfl)) F126 own_d4_41 rfl ?_
    refine own_iloadN C (pc' := 45) own_d4_44 rfl rfl ?_
    refine own_ldIV C (pc' := 46) F128 (i := 1) (v := (f 1)) (by decide) (by decide) rfl own_d4_45 rfl ?_
    refine own_stI C (pc' := 47) F128 (i := 3) (by decide) (by decide) f2 own_d4_46 rfl (fun h131 W132 V133 => ?_)
    have Z134 : n0 ≤ h131.size := Nat.le_trans Z123 (Nat.le_of_eq (Wr.size W132).symm)
    have K135 := Keep.wr K124 W132 (Or.inl (List.mem_of_getElem? (i := 1) rfl))
    have F136 : Exa Z h131 a "com/example/serialis/serialis/graph/IntMinHeap" := Exa.wr W132 F125
    have F137 : Fld Z h131 a "com/example/serialis/serialis/graph/IntMinHeap" "heap" "[I" (.ref ar) := Fld.other W132 F126 (Or.inl f3)
    have F138 : Fld Z h131 a "com/example/serialis/serialis/graph/IntMinHeap" "size" "I" (.int (4 : Int32)) := Fld.other W132 F127 (Or.inl f3)
    have F139 : own_AI Z h131 ar 4 (own_upd f 3 (f 1)) := V133
    refine own_iloadN C (pc' := 48) own_d4_47 rfl rfl ?_
    refine own_istoreN C (pc' := 49) (Ls' := #[.val (.ref a), .val (.int x), .val (.int (1 : Int32)), .val (.int (1 : Int32))]) own_d4_48 rfl rfl ?_
    refine own_goto C (pc' := 12) own_d4_49 rfl ?_
    refine own_iloadN C (pc' := 13) own_d4_12 rfl rfl ?_
    refine own_i0_le C (pc1 := 52) (pc2 := 16) own_d4_13 rfl rfl (fun c140 => absurd c140 (by decide)) (fun c140 => ?_)
    refine own_iloadN C (pc' := 17) own_d4_16 rfl rfl ?_
    refine own_iconst C (pc' := 18) (v := (1 : Int32)) own_d4_17 rfl (by decide) ?_
    refine own_isubV C (pc' := 19) (v := (0 : Int32)) own_d4_18 rfl (by decide) ?_
    refine own_iconst C (pc' := 20) (v := (2 : Int32)) own_d4_19 rfl (by decide) ?_
    refine own_idivV C (pc' := 21) (v := (0 : Int32)) own_d4_20 rfl (by decide) (by decide) ?_
    refine own_istoreN C (pc' := 22) (Ls' := #[.val (.ref a), .val (.int x), .val (.int (1 : Int32)), .val (.int (0 : Int32))]) own_d4_21 rfl rfl ?_
    refine own_aloadN C (pc' := 23) own_d4_22 rfl rfl rfl ?_
    refine own_getF C (pc' := 26) (hw _ (List.mem_of_getElem? (i := 14) rfl)) F137 own_d4_23 rfl ?_
    refine own_iloadN C (pc' := 27) own_d4_26 rfl rfl ?_
    refine own_ldIV C (pc' := 28) F139 (i := 0) (v := (f 0)) (by decide) (by decide) rfl own_d4_27 rfl ?_
    refine own_iloadN C (pc' := 29) own_d4_28 rfl rfl ?_
    refine own_ii_gt C (pc1 := 35) (pc2 := 32) own_d4_29 rfl rfl (fun c141 => ?_) (fun c141 => ?_)
    · skip
      refine own_aloadN C (pc' := 36) own_d4_35 rfl rfl rfl ?_
      refine own_getF C (pc' := 39) (hw _ (List.mem_of_getElem? (i := 14) rfl)) F137 own_d4_36 rfl ?_
      refine own_iloadN C (pc' := 40) own_d4_39 rfl rfl ?_
      refine own_aloadN C (pc' := 41) own_d4_40 rfl rfl rfl ?_
      refine own_getF C (pc' := 44) (hw _ (List.mem_of_getElem? (i := 14) rfl)) F137 own_d4_41 rfl ?_
      refine own_iloadN C (pc' := 45) own_d4_44 rfl rfl ?_
      refine own_ldIV C (pc' := 46) F139 (i := 0) (v := (f 0)) (by decide) (by decide) rfl own_d4_45 rfl ?_
      refine own_stI C (pc' := 47) F139 (i := 1) (by decide) (by decide) f2 own_d4_46 rfl (fun h142 W143 V144 => ?_)
      have Z145 : n0 ≤ h142.size := Nat.le_trans Z134 (Nat.le_of_eq (Wr.size W143).symm)
      have K146 := Keep.wr K135 W143 (Or.inl (List.mem_of_getElem? (i := 1) rfl))
      have F147 : Exa Z h142 a "com/example/serialis/serialis/graph/IntMinHeap" := Exa.wr W143 F136
      have F148 : Fld Z h142 a "com/example/serialis/serialis/graph/IntMinHeap" "heap" "[I" (.ref ar) := Fld.other W143 F137 (Or.inl f3)
      have F149 : Fld Z h142 a "com/example/serialis/serialis/graph/IntMinHeap" "size" "I" (.int (4 : Int32)) := Fld.other W143 F138 (Or.inl f3)
      have F150 : own_AI Z h142 ar 4 (own_upd (own_upd f 3 (f 1)) 1 (f 0)) := V144
      refine own_iloadN C (pc' := 48) own_d4_47 rfl rfl ?_
      refine own_istoreN C (pc' := 49) (Ls' := #[.val (.ref a), .val (.int x), .val (.int (0 : Int32)), .val (.int (0 : Int32))]) own_d4_48 rfl rfl ?_
      refine own_goto C (pc' := 12) own_d4_49 rfl ?_
      refine own_iloadN C (pc' := 13) own_d4_12 rfl rfl ?_
      refine own_i0_le C (pc1 := 52) (pc2 := 16) own_d4_13 rfl rfl (fun c151 => ?_) (fun c151 => absurd c151 (by decide))
      refine own_aloadN C (pc' := 53) own_d4_52 rfl rfl rfl ?_
      refine own_getF C (pc' := 56) (hw _ (List.mem_of_getElem? (i := 14) rfl)) F148 own_d4_53 rfl ?_
      refine own_iloadN C (pc' := 57) own_d4_56 rfl rfl ?_
      refine own_iloadN C (pc' := 58) own_d4_57 rfl rfl ?_
      refine own_stI C (pc' := 59) F150 (i := 0) (by decide) (by decide) f2 own_d4_58 rfl (fun h152 W153 V154 => ?_)
      have Z155 : n0 ≤ h152.size := Nat.le_trans Z145 (Nat.le_of_eq (Wr.size W153).symm)
      have K156 := Keep.wr K146 W153 (Or.inl (List.mem_of_getElem? (i := 1) rfl))
      have F157 : Exa Z h152 a "com/example/serialis/serialis/graph/IntMinHeap" := Exa.wr W153 F147
      have F158 : Fld Z h152 a "com/example/serialis/serialis/graph/IntMinHeap" "heap" "[I" (.ref ar) := Fld.other W153 F148 (Or.inl f3)
      have F159 : Fld Z h152 a "com/example/serialis/serialis/graph/IntMinHeap" "size" "I" (.int (4 : Int32)) := Fld.other W153 F149 (Or.inl f3)
      have F160 : own_AI Z h152 ar 4 (own_upd (own_upd (own_upd f 3 (f 1)) 1 (f 0)) 0 x) := V154
      have HH161 : own_H 4 (own_upd (own_upd (own_upd f 3 (f 1)) 1 (f 0)) 0 x) := by
        refine fun i hi => ?_
        have H1 : f 0 ≤ f 1 := hH 1 (by decide)
        have H2 : f 0 ≤ f 2 := hH 2 (by decide)
        rw [own_le] at H1
        rw [own_le] at H2
        rw [own_lt] at c130
        rw [own_lt] at c141
        have t : i = 0 ∨ i = 1 ∨ i = 2 ∨ i = 3 := by omega
        rcases t with rfl | rfl | rfl | rfl
        · show x ≤ x
          rw [own_le]; omega
        · show x ≤ (f 0)
          rw [own_le]; omega
        · show x ≤ (f 2)
          rw [own_le]; omega
        · show (f 0) ≤ (f 1)
          rw [own_le]; omega
      exact own_retV C rfl own_d4_59 (by decide) (by decide) (⟨(own_upd (own_upd (own_upd f 3 (f 1)) 1 (f 0)) 0 x), rfl, K156, F157, F158, F159, F160, HH161, (fun v => by show ((((0 + own_one x v) + own_one (f 0) v) + own_one (f 2) v) + own_one (f 1) v) = (((0 + own_one (f 0) v) + own_one (f 1) v) + own_one (f 2) v) + own_one x v; omega)⟩)
    · skip
      refine own_goto C (pc' := 52) own_d4_32 rfl ?_
      refine own_aloadN C (pc' := 53) own_d4_52 rfl rfl rfl ?_
      refine own_getF C (pc' := 56) (hw _ (List.mem_of_getElem? (i := 14) rfl)) F137 own_d4_53 rfl ?_
      refine own_iloadN C (pc' := 57) own_d4_56 rfl rfl ?_
      refine own_iloadN C (pc' := 58) own_d4_57 rfl rfl ?_
      refine own_stI C (pc' := 59) F139 (i := 1) (by decide) (by decide) f2 own_d4_58 rfl (fun h162 W163 V164 => ?_)
      have Z165 : n0 ≤ h162.size := Nat.le_trans Z134 (Nat.le_of_eq (Wr.size W163).symm)
      have K166 := Keep.wr K135 W163 (Or.inl (List.mem_of_getElem? (i := 1) rfl))
      have F167 : Exa Z h162 a "com/example/serialis/serialis/graph/IntMinHeap" := Exa.wr W163 F136
      have F168 : Fld Z h162 a "com/example/serialis/serialis/graph/IntMinHeap" "heap" "[I" (.ref ar) := Fld.other W163 F137 (Or.inl f3)
      have F169 : Fld Z h162 a "com/example/serialis/serialis/graph/IntMinHeap" "size" "I" (.int (4 : Int32)) := Fld.other W163 F138 (Or.inl f3)
      have F170 : own_AI Z h162 ar 4 (own_upd (own_upd f 3 (f 1)) 1 x) := V164
      have HH171 : own_H 4 (own_upd (own_upd f 3 (f 1)) 1 x) := by
        refine fun i hi => ?_
        have H1 : f 0 ≤ f 1 := hH 1 (by decide)
        have H2 : f 0 ≤ f 2 := hH 2 (by decide)
        rw [own_le] at H1
        rw [own_le] at H2
        rw [own_lt] at c130
        rw [own_lt] at c141
        have t : i = 0 ∨ i = 1 ∨ i = 2 ∨ i = 3 := by omega
        rcases t with rfl | rfl | rfl | rfl
        · show (f 0) ≤ (f 0)
          rw [own_le]; omega
        · show (f 0) ≤ x
          rw [own_le]; omega
        · show (f 0) ≤ (f 2)
          rw [own_le]; omega
        · show x ≤ (f 1)
          rw [own_le]; omega
      exact own_retV C rfl own_d4_59 (by decide) (by decide) (⟨(own_upd (own_upd f 3 (f 1)) 1 x), rfl, K166, F167, F168, F169, F170, HH171, (fun v => by show ((((0 + own_one (f 0) v) + own_one x v) + own_one (f 2) v) + own_one (f 1) v) = (((0 + own_one (f 0) v) + own_one (f 1) v) + own_one (f 2) v) + own_one x v; omega)⟩)
  · skip
    refine own_goto C (pc' := 52) own_d4_32 rfl ?_
    refine own_aloadN C (pc' := 53) own_d4_52 rfl rfl rfl ?_
    refine own_getF C (pc' := 56) (hw _ (List.mem_of_getElem? (i := 14) rfl)) F126 own_d4_53 rfl ?_
    refine own_iloadN C (pc' := 57) own_d4_56 rfl rfl ?_
    refine own_iloadN C (pc' := 58) own_d4_57 rfl rfl ?_
    refine own_stI C (pc' := 59) F128 (i := 3) (by decide) (by decide) f2 own_d4_58 rfl (fun h172 W173 V174 => ?_)
    have Z175 : n0 ≤ h172.size := Nat.le_trans Z123 (Nat.le_of_eq (Wr.size W173).symm)
    have K176 := Keep.wr K124 W173 (Or.inl (List.mem_of_getElem? (i := 1) rfl))
    have F177 : Exa Z h172 a "com/example/serialis/serialis/graph/IntMinHeap" := Exa.wr W173 F125
    have F178 : Fld Z h172 a "com/example/serialis/serialis/graph/IntMinHeap" "heap" "[I" (.ref ar) := Fld.other W173 F126 (Or.inl f3)
    have F179 : Fld Z h172 a "com/example/serialis/serialis/graph/IntMinHeap" "size" "I" (.int (4 : Int32)) := Fld.other W173 F127 (Or.inl f3)
    have F180 : own_AI Z h172 ar 4 (own_upd f 3 x) := V174
    have HH181 : own_H 4 (own_upd f 3 x) := by
      refine fun i hi => ?_
      have H1 : f 0 ≤ f 1 := hH 1 (by decide)
      have H2 : f 0 ≤ f 2 := hH 2 (by decide)
      rw [own_le] at H1
      rw [own_le] at H2
      rw [own_lt] at c130
      have t : i = 0 ∨ i = 1 ∨ i = 2 ∨ i = 3 := by omega
      rcases t with rfl | rfl | rfl | rfl
      · show (f 0) ≤ (f 0)
        rw [own_le]; omega
      · show (f 0) ≤ (f 1)
        rw [own_le]; omega
      · show (f 0) ≤ (f 2)
        rw [own_le]; omega
      · show (f 1) ≤ x
        rw [own_le]; omega
    exact own_retV C rfl own_d4_59 (by decide) (by decide) (⟨(own_upd f 3 x), rfl, K176, F177, F178, F179, F180, HH181, (fun v => by show ((((0 + own_one (f 0) v) + own_one (f 1) v) + own_one (f 2) v) + own_one x v) = (((0 + own_one (f 0) v) + own_one (f 1) v) + own_one (f 2) v) + own_one x v; omega)⟩)
set_option maxRecDepth 65536 in
set_option maxHeartbeats 40000000 in
theorem own_rem1 {l : Launch} {Z : State} {a0 : Array Value} (hw : ∀ d ∈ tables_1, d.before a0 Z = true) {n0 : Nat} {ws : List Jvm.Cond} {h : Heap} (a : Addr) (ar : Addr) (f : Nat → Int32) (Z0 : n0 ≤ h.size) (f0 : Exa Z h a "com/example/serialis/serialis/graph/IntMinHeap") (f1 : n0 ≤ a) (f2 : n0 ≤ ar) (f3 : a ≠ ar) (f4 : Fld Z h a "com/example/serialis/serialis/graph/IntMinHeap" "heap" "[I" (.ref ar)) (f5 : Fld Z h a "com/example/serialis/serialis/graph/IntMinHeap" "size" "I" (.int (1 : Int32))) (f6 : own_AI Z h ar 4 f) (hH : own_H 1 f) :
    own_Met l Z n0 (⟨"com/example/serialis/serialis/graph/IntMinHeap", "removeSmallest", "()I"⟩ : MethodName) prog_36_method_4_code 5 (some .int) ({ frames := 0, cells := 0, slots := 0, locals := 0 } : Room) ws #[(.ref a)] h (fun v h' => ∃ g : Nat → Int32, (v = some (.int (f 0))) ∧ (Keep h h' [a, ar]) ∧ (Exa Z h' a "com/example/serialis/serialis/graph/IntMinHeap") ∧ (Fld Z h' a "com/example/serialis/serialis/graph/IntMinHeap" "heap" "[I" (.ref ar)) ∧ (Fld Z h' a "com/example/serialis/serialis/graph/IntMinHeap" "size" "I" (.int (0 : Int32))) ∧ (own_AI Z h' ar 4 g) ∧ (own_H 0 g) ∧ (∀ v, own_cnt 1 f v = own_cnt 0 g v + own_one (f 0) v) ∧ (True)) := by
  refine own_met own_pn0 #[.val (.ref a), .unset, .unset, .unset, .unset] (fun m => by first | (simp [entryFrame, mkF, argsToLocals, Value.category]; done) | rfl) ?_
  intro p_ e_ s_ m_ b_ mt_ c_ C
  replace C : own_Ctx p_ s_ m_ mt_ c_ Z "com/example/serialis/serialis/graph/IntMinHeap" "removeSmallest" prog_36_method_4_code 5 (some .int) := C
  have K0 : Keep h h [a, ar] := Keep.refl _ _
  refine own_aloadN C (pc' := 1) own_d6_0 rfl rfl rfl ?_
  refine own_getF C (pc' := 4) (hw _ (List.mem_of_getElem? (i := 14) rfl)) f4 own_d6_1 rfl ?_
  refine own_iconst C (pc' := 5) (v := (0 : Int32)) own_d6_4 rfl (by decide) ?_
  refine own_ldIV C (pc' := 6) f6 (i := 0) (v := (f 0)) (by decide) (by decide) rfl own_d6_5 rfl ?_
  refine own_istoreN C (pc' := 7) (Ls' := #[.val (.ref a), .val (.int (f 0)), .unset, .unset, .unset]) own_d6_6 rfl rfl ?_
  refine own_aloadN C (pc' := 8) own_d6_7 rfl rfl rfl ?_
  refine own_getF C (pc' := 11) (hw _ (List.mem_of_getElem? (i := 14) rfl)) f4 own_d6_8 rfl ?_
  refine own_aloadN C (pc' := 12) own_d6_11 rfl rfl rfl ?_
  refine own_dup C (pc' := 13) own_d6_12 rfl rfl ?_
  refine own_getF C (pc' := 16) (hw _ (List.mem_of_getElem? (i := 21) rfl)) f5 own_d6_13 rfl ?_
  refine own_iconst C (pc' := 17) (v := (1 : Int32)) own_d6_16 rfl (by decide) ?_
  refine own_isubV C (pc' := 18) (v := (0 : Int32)) own_d6_17 rfl (by decide) ?_
  refine own_dupX1 C (pc' := 19) own_d6_18 rfl rfl rfl ?_
  refine own_putF C (pc' := 22) (hw _ (List.mem_of_getElem? (i := 21) rfl)) f5 f0 (Or.inl (hw _ (List.mem_of_getElem? (i := 22) rfl))) (hw _ (List.mem_of_getElem? (i := 6) rfl)) (ty := .int) (by decide) rfl rfl f1 own_d6_19 rfl (fun h182 W183 => ?_)
  have Z184 : n0 ≤ h182.size := Nat.le_trans Z0 (Nat.le_of_eq (Wr.size W183).symm)
  have K185 := Keep.wr K0 W183 (Or.inl (List.mem_of_getElem? (i := 0) rfl))
  have F186 : Exa Z h182 a "com/example/serialis/serialis/graph/IntMinHeap" := Exa.wr W183 f0
  have F187 : Fld Z h182 a "com/example/serialis/serialis/graph/IntMinHeap" "heap" "[I" (.ref ar) := Fld.other W183 f4 (Or.inr (slot_ne (Or.inr (hw _ (List.mem_of_getElem? (i := 15) rfl))) (Or.inl (hw _ (List.mem_of_getElem? (i := 22) rfl))) (by decide) (t := (.array .int)) (t' := .int) (by decide) (by decide)))
  have F188 : Fld Z h182 a "com/example/serialis/serialis/graph/IntMinHeap" "size" "I" (.int (0 : Int32)) := Fld.same W183 f5
  have F189 : own_AI Z h182 ar 4 f := own_A.other f6 W183 (Ne.symm f3)
  refine own_ldIV C (pc' := 23) F189 (i := 0) (v := (f 0)) (by decide) (by decide) rfl own_d6_22 rfl ?_
  refine own_istoreN C (pc' := 24) (Ls' := #[.val (.ref a), .val (.int (f 0)), .val (.int (f 0)), .unset, .unset]) own_d6_23 rfl rfl ?_
  refine own_iconst C (pc' := 25) (v := (0 : Int32)) own_d6_24 rfl (by decide) ?_
  refine own_istoreN C (pc' := 26) (Ls' := #[.val (.ref a), .val (.int (f 0)), .val (.int (f 0)), .val (.int (0 : Int32)), .unset]) own_d6_25 rfl rfl ?_
  refine own_iconst C (pc' := 27) (v := (2 : Int32)) own_d6_26 rfl (by decide) ?_
  refine own_iloadN C (pc' := 28) own_d6_27 rfl rfl ?_
  refine own_imulV C (pc' := 29) (v := (0 : Int32)) own_d6_28 rfl (by decide) ?_
  refine own_iconst C (pc' := 30) (v := (1 : Int32)) own_d6_29 rfl (by decide) ?_
  refine own_iaddV C (pc' := 31) (v := (1 : Int32)) own_d6_30 rfl (by decide) ?_
  refine own_istore C (pc' := 33) (Ls' := #[.val (.ref a), .val (.int (f 0)), .val (.int (f 0)), .val (.int (0 : Int32)), .val (.int (1 : Int32))]) own_d6_31 rfl rfl ?_
  refine own_iload C (pc' := 35) own_d6_33 rfl rfl ?_
  refine own_aloadN C (pc' := 36) own_d6_35 rfl rfl rfl ?_
  refine own_getF C (pc' := 39) (hw _ (List.mem_of_getElem? (i := 21) rfl)) F188 own_d6_36 rfl ?_
  refine own_ii_lt C (pc1 := 45) (pc2 := 42) own_d6_39 rfl rfl (fun c190 => absurd c190 (by decide)) (fun c190 => ?_)
  refine own_goto C (pc' := 111) own_d6_42 rfl ?_
  refine own_aloadN C (pc' := 112) own_d6_111 rfl rfl rfl ?_
  refine own_getF C (pc' := 115) (hw _ (List.mem_of_getElem? (i := 14) rfl)) F187 own_d6_112 rfl ?_
  refine own_iloadN C (pc' := 116) own_d6_115 rfl rfl ?_
  refine own_iloadN C (pc' := 117) own_d6_116 rfl rfl ?_
  refine own_stI C (pc' := 118) F189 (i := 0) (by decide) (by decide) f2 own_d6_117 rfl (fun h191 W192 V193 => ?_)
  have Z194 : n0 ≤ h191.size := Nat.le_trans Z184 (Nat.le_of_eq (Wr.size W192).symm)
  have K195 := Keep.wr K185 W192 (Or.inl (List.mem_of_getElem? (i := 1) rfl))
  have F196 : Exa Z h191 a "com/example/serialis/serialis/graph/IntMinHeap" := Exa.wr W192 F186
  have F197 : Fld Z h191 a "com/example/serialis/serialis/graph/IntMinHeap" "heap" "[I" (.ref ar) := Fld.other W192 F187 (Or.inl f3)
  have F198 : Fld Z h191 a "com/example/serialis/serialis/graph/IntMinHeap" "size" "I" (.int (0 : Int32)) := Fld.other W192 F188 (Or.inl f3)
  have F199 : own_AI Z h191 ar 4 (own_upd f 0 (f 0)) := V193
  refine own_iloadN C (pc' := 119) own_d6_118 rfl rfl ?_
  exact own_ret C (t := .int) rfl rfl (Or.inl ⟨rfl, by simp, _, rfl⟩) own_d6_119 (by decide) (by decide) (⟨(own_upd f 0 (f 0)), rfl, K195, F196, F197, F198, F199, (fun i hi => absurd hi (Nat.not_lt_zero i)), (fun v => by show (0 + own_one (f 0) v) = 0 + own_one (f 0) v; omega), trivial⟩)
set_option maxRecDepth 65536 in
set_option maxHeartbeats 40000000 in
theorem own_rem2 {l : Launch} {Z : State} {a0 : Array Value} (hw : ∀ d ∈ tables_1, d.before a0 Z = true) {n0 : Nat} {ws : List Jvm.Cond} {h : Heap} (a : Addr) (ar : Addr) (f : Nat → Int32) (Z0 : n0 ≤ h.size) (f0 : Exa Z h a "com/example/serialis/serialis/graph/IntMinHeap") (f1 : n0 ≤ a) (f2 : n0 ≤ ar) (f3 : a ≠ ar) (f4 : Fld Z h a "com/example/serialis/serialis/graph/IntMinHeap" "heap" "[I" (.ref ar)) (f5 : Fld Z h a "com/example/serialis/serialis/graph/IntMinHeap" "size" "I" (.int (2 : Int32))) (f6 : own_AI Z h ar 4 f) (hH : own_H 2 f) :
    own_Met l Z n0 (⟨"com/example/serialis/serialis/graph/IntMinHeap", "removeSmallest", "()I"⟩ : MethodName) prog_36_method_4_code 5 (some .int) ({ frames := 0, cells := 0, slots := 0, locals := 0 } : Room) ws #[(.ref a)] h (fun v h' => ∃ g : Nat → Int32, (v = some (.int (f 0))) ∧ (Keep h h' [a, ar]) ∧ (Exa Z h' a "com/example/serialis/serialis/graph/IntMinHeap") ∧ (Fld Z h' a "com/example/serialis/serialis/graph/IntMinHeap" "heap" "[I" (.ref ar)) ∧ (Fld Z h' a "com/example/serialis/serialis/graph/IntMinHeap" "size" "I" (.int (1 : Int32))) ∧ (own_AI Z h' ar 4 g) ∧ (own_H 1 g) ∧ (∀ v, own_cnt 2 f v = own_cnt 1 g v + own_one (f 0) v) ∧ (f 0 ≤ g 0)) := by
  refine own_met own_pn0 #[.val (.ref a), .unset, .unset, .unset, .unset] (fun m => by first | (simp [entryFrame, mkF, argsToLocals, Value.category]; done) | rfl) ?_
  intro p_ e_ s_ m_ b_ mt_ c_ C
  replace C : own_Ctx p_ s_ m_ mt_ c_ Z "com/example/serialis/serialis/graph/IntMinHeap" "removeSmallest" prog_36_method_4_code 5 (some .int) := C
  have K0 : Keep h h [a, ar] := Keep.refl _ _
  refine own_aloadN C (pc' := 1) own_d6_0 rfl rfl rfl ?_
  refine own_getF C (pc' := 4) (hw _ (List.mem_of_getElem? (i := 14) rfl)) f4 own_d6_1 rfl ?_
  refine own_iconst C (pc' := 5) (v := (0 : Int32)) own_d6_4 rfl (by decide) ?_
  refine own_ldIV C (pc' := 6) f6 (i := 0) (v := (f 0)) (by decide) (by decide) rfl own_d6_5 rfl ?_
  refine own_istoreN C (pc' := 7) (Ls' := #[.val (.ref a), .val (.int (f 0)), .unset, .unset, .unset]) own_d6_6 rfl rfl ?_
  refine own_aloadN C (pc' := 8) own_d6_7 rfl rfl rfl ?_
  refine own_getF C (pc' := 11) (hw _ (List.mem_of_getElem? (i := 14) rfl)) f4 own_d6_8 rfl ?_
  refine own_aloadN C (pc' := 12) own_d6_11 rfl rfl rfl ?_
  refine own_dup C (pc' := 13) own_d6_12 rfl rfl ?_
  refine own_getF C (pc' := 16) (hw _ (List.mem_of_getElem? (i := 21) rfl)) f5 own_d6_13 rfl ?_
  refine own_iconst C (pc' := 17) (v := (1 : Int32)) own_d6_16 rfl (by decide) ?_
  refine own_isubV C (pc' := 18) (v := (1 : Int32)) own_d6_17 rfl (by decide) ?_
  refine own_dupX1 C (pc' := 19) own_d6_18 rfl rfl rfl ?_
  refine own_putF C (pc' := 22) (hw _ (List.mem_of_getElem? (i := 21) rfl)) f5 f0 (Or.inl (hw _ (List.mem_of_getElem? (i := 22) rfl))) (hw _ (List.mem_of_getElem? (i := 6) rfl)) (ty := .int) (by decide) rfl rfl f1 own_d6_19 rfl (fun h200 W201 => ?_)
  have Z202 : n0 ≤ h200.size := Nat.le_trans Z0 (Nat.le_of_eq (Wr.size W201).symm)
  have K203 := Keep.wr K0 W201 (Or.inl (List.mem_of_getElem? (i := 0) rfl))
  have F204 : Exa Z h200 a "com/example/serialis/serialis/graph/IntMinHeap" := Exa.wr W201 f0
  have F205 : Fld Z h200 a "com/example/serialis/serialis/graph/IntMinHeap" "heap" "[I" (.ref ar) := Fld.other W201 f4 (Or.inr (slot_ne (Or.inr (hw _ (List.mem_of_getElem? (i := 15) rfl))) (Or.inl (hw _ (List.mem_of_getElem? (i := 22) rfl))) (by decide) (t := (.array .int)) (t' := .int) (by decide) (by decide)))
  have F206 : Fld Z h200 a "com/example/serialis/serialis/graph/IntMinHeap" "size" "I" (.int (1 : Int32)) := Fld.same W201 f5
  have F207 : own_AI Z h200 ar 4 f := own_A.other f6 W201 (Ne.symm f3)
  refine own_ldIV C (pc' := 23) F207 (i := 1) (v := (f 1)) (by decide) (by decide) rfl own_d6_22 rfl ?_
  refine own_istoreN C (pc' := 24) (Ls' := #[.val (.ref a), .val (.int (f 0)), .val (.int (f 1)), .unset, .unset]) own_d6_23 rfl rfl ?_
  refine own_iconst C (pc' := 25) (v := (0 : Int32)) own_d6_24 rfl (by decide) ?_
  refine own_istoreN C (pc' := 26) (Ls' := #[.val (.ref a), .val (.int (f 0)), .val (.int (f 1)), .val (.int (0 : Int32)), .unset]) own_d6_25 rfl rfl ?_
  refine own_iconst C (pc' := 27) (v := (2 : Int32)) own_d6_26 rfl (by decide) ?_
  refine own_iloadN C (pc' := 28) own_d6_27 rfl rfl ?_
  refine own_imulV C (pc' := 29) (v := (0 : Int32)) own_d6_28 rfl (by decide) ?_
  refine own_iconst C (pc' := 30) (v := (1 : Int32)) own_d6_29 rfl (by decide) ?_
  refine own_iaddV C (pc' := 31) (v := (1 : Int32)) own_d6_30 rfl (by decide) ?_
  refine own_istore C (pc' := 33) (Ls' := #[.val (.ref a), .val (.int (f 0)), .val (.int (f 1)), .val (.int (0 : Int32)), .val (.int (1 : Int32))]) own_d6_31 rfl rfl ?_
  refine own_iload C (pc' := 35) own_d6_33 rfl rfl ?_
  refine own_aloadN C (pc' := 36) own_d6_35 rfl rfl rfl ?_
  refine own_getF C (pc' := 39) (hw _ (List.mem_of_getElem? (i := 21) rfl)) F206 own_d6_36 rfl ?_
  refine own_ii_lt C (pc1 := 45) (pc2 := 42) own_d6_39 rfl rfl (fun c208 => absurd c208 (by decide)) (fun c208 => ?_)
  refine own_goto C (pc' := 111) own_d6_42 rfl ?_
  refine own_aloadN C (pc' := 112) own_d6_111 rfl rfl rfl ?_
  refine own_getF C (pc' := 115) (hw _ (List.mem_of_getElem? (i := 14) rfl)) F205 own_d6_112 rfl ?_
  refine own_iloadN C (pc' := 116) own_d6_115 rfl rfl ?_
  refine own_iloadN C (pc' := 117) own_d6_116 rfl rfl ?_
  refine own_stI C (pc' := 118) F207 (i := 0) (by decide) (by decide) f2 own_d6_117 rfl (fun h209 W210 V211 => ?_)
  have Z212 : n0 ≤ h209.size := Nat.le_trans Z202 (Nat.le_of_eq (Wr.size W210).symm)
  have K213 := Keep.wr K203 W210 (Or.inl (List.mem_of_getElem? (i := 1) rfl))
  have F214 : Exa Z h209 a "com/example/serialis/serialis/graph/IntMinHeap" := Exa.wr W210 F204
  have F215 : Fld Z h209 a "com/example/serialis/serialis/graph/IntMinHeap" "heap" "[I" (.ref ar) := Fld.other W210 F205 (Or.inl f3)
  have F216 : Fld Z h209 a "com/example/serialis/serialis/graph/IntMinHeap" "size" "I" (.int (1 : Int32)) := Fld.other W210 F206 (Or.inl f3)
  have F217 : own_AI Z h209 ar 4 (own_upd f 0 (f 1)) := V211
  refine own_iloadN C (pc' := 119) own_d6_118 rfl rfl ?_
  have HH218 : own_H 1 (own_upd f 0 (f 1)) := by
    refine fun i hi => ?_
    have H1 : f 0 ≤ f 1 := hH 1 (by decide)
    rw [own_le] at H1
    have t : i = 0 := by omega
    rcases t with rfl
    · show (f 1) ≤ (f 1)
      rw [own_le]; omega
  exact own_ret C (t := .int) rfl rfl (Or.inl ⟨rfl, by simp, _, rfl⟩) own_d6_119 (by decide) (by decide) (⟨(own_upd f 0 (f 1)), rfl, K213, F214, F215, F216, F217, HH218, (fun v => by show ((0 + own_one (f 0) v) + own_one (f 1) v) = (0 + own_one (f 1) v) + own_one (f 0) v; omega), (by have H1 : f 0 ≤ f 1 := hH 1 (by decide); rw [own_le] at H1; show (f 0) ≤ (f 1); rw [own_le]; omega)⟩)
set_option maxRecDepth 65536 in
set_option maxHeartbeats 40000000 in
theorem own_rem3 {l : Launch} {Z : State} {a0 : Array Value} (hw : ∀ d ∈ tables_1, d.before a0 Z = true) {n0 : Nat} {ws : List Jvm.Cond} {h : Heap} (a : Addr) (ar : Addr) (f : Nat → Int32) (Z0 : n0 ≤ h.size) (f0 : Exa Z h a "com/example/serialis/serialis/graph/IntMinHeap") (f1 : n0 ≤ a) (f2 : n0 ≤ ar) (f3 : a ≠ ar) (f4 : Fld Z h a "com/example/serialis/serialis/graph/IntMinHeap" "heap" "[I" (.ref ar)) (f5 : Fld Z h a "com/example/serialis/serialis/graph/IntMinHeap" "size" "I" (.int (3 : Int32))) (f6 : own_AI Z h ar 4 f) (hH : own_H 3 f) :
    own_Met l Z n0 (⟨"com/example/serialis/serialis/graph/IntMinHeap", "removeSmallest", "()I"⟩ : MethodName) prog_36_method_4_code 5 (some .int) ({ frames := 0, cells := 0, slots := 0, locals := 0 } : Room) ws #[(.ref a)] h (fun v h' => ∃ g : Nat → Int32, (v = some (.int (f 0))) ∧ (Keep h h' [a, ar]) ∧ (Exa Z h' a "com/example/serialis/serialis/graph/IntMinHeap") ∧ (Fld Z h' a "com/example/serialis/serialis/graph/IntMinHeap" "heap" "[I" (.ref ar)) ∧ (Fld Z h' a "com/example/serialis/serialis/graph/IntMinHeap" "size" "I" (.int (2 : Int32))) ∧ (own_AI Z h' ar 4 g) ∧ (own_H 2 g) ∧ (∀ v, own_cnt 3 f v = own_cnt 2 g v + own_one (f 0) v) ∧ (f 0 ≤ g 0)) := by
  refine own_met own_pn0 #[.val (.ref a), .unset, .unset, .unset, .unset] (fun m => by first | (simp [entryFrame, mkF, argsToLocals, Value.category]; done) | rfl) ?_
  intro p_ e_ s_ m_ b_ mt_ c_ C
  replace C : own_Ctx p_ s_ m_ mt_ c_ Z "com/example/serialis/serialis/graph/IntMinHeap" "removeSmallest" prog_36_method_4_code 5 (some .int) := C
  have K0 : Keep h h [a, ar] := Keep.refl _ _
  refine own_aloadN C (pc' := 1) own_d6_0 rfl rfl rfl ?_
  refine own_getF C (pc' := 4) (hw _ (List.mem_of_getElem? (i := 14) rfl)) f4 own_d6_1 rfl ?_
  refine own_iconst C (pc' := 5) (v := (0 : Int32)) own_d6_4 rfl (by decide) ?_
  refine own_ldIV C (pc' := 6) f6 (i := 0) (v := (f 0)) (by decide) (by decide) rfl own_d6_5 rfl ?_
  refine own_istoreN C (pc' := 7) (Ls' := #[.val (.ref a), .val (.int (f 0)), .unset, .unset, .unset]) own_d6_6 rfl rfl ?_
  refine own_aloadN C (pc' := 8) own_d6_7 rfl rfl rfl ?_
  refine own_getF C (pc' := 11) (hw _ (List.mem_of_getElem? (i := 14) rfl)) f4 own_d6_8 rfl ?_
  refine own_aloadN C (pc' := 12) own_d6_11 rfl rfl rfl ?_
  refine own_dup C (pc' := 13) own_d6_12 rfl rfl ?_
  refine own_getF C (pc' := 16) (hw _ (List.mem_of_getElem? (i := 21) rfl)) f5 own_d6_13 rfl ?_
  refine own_iconst C (pc' := 17) (v := (1 : Int32)) own_d6_16 rfl (by decide) ?_
  refine own_isubV C (pc' := 18) (v := (2 : Int32)) own_d6_17 rfl (by decide) ?_
  refine own_dupX1 C (pc' := 19) own_d6_18 rfl rfl rfl ?_
  refine own_putF C (pc' := 22) (hw _ (List.mem_of_getElem? (i := 21) rfl)) f5 f0 (Or.inl (hw _ (List.mem_of_getElem? (i := 22) rfl))) (hw _ (List.mem_of_getElem? (i := 6) rfl)) (ty := .int) (by decide) rfl rfl f1 own_d6_19 rfl (fun h219 W220 => ?_)
  have Z221 : n0 ≤ h219.size := Nat.le_trans Z0 (Nat.le_of_eq (Wr.size W220).symm)
  have K222 := Keep.wr K0 W220 (Or.inl (List.mem_of_getElem? (i := 0) rfl))
  have F223 : Exa Z h219 a "com/example/serialis/serialis/graph/IntMinHeap" := Exa.wr W220 f0
  have F224 : Fld Z h219 a "com/example/serialis/serialis/graph/IntMinHeap" "heap" "[I" (.ref ar) := Fld.other W220 f4 (Or.inr (slot_ne (Or.inr (hw _ (List.mem_of_getElem? (i := 15) rfl))) (Or.inl (hw _ (List.mem_of_getElem? (i := 22) rfl))) (by decide) (t := (.array .int)) (t' := .int) (by decide) (by decide)))
  have F225 : Fld Z h219 a "com/example/serialis/serialis/graph/IntMinHeap" "size" "I" (.int (2 : Int32)) := Fld.same W220 f5
  have F226 : own_AI Z h219 ar 4 f := own_A.other f6 W220 (Ne.symm f3)
  refine own_ldIV C (pc' := 23) F226 (i := 2) (v := (f 2)) (by decide) (by decide) rfl own_d6_22 rfl ?_
  refine own_istoreN C (pc' := 24) (Ls' := #[.val (.ref a), .val (.int (f 0)), .val (.int (f 2)), .unset, .unset]) own_d6_23 rfl rfl ?_
  refine own_iconst C (pc' := 25) (v := (0 : Int32)) own_d6_24 rfl (by decide) ?_
  refine own_istoreN C (pc' := 26) (Ls' := #[.val (.ref a), .val (.int (f 0)), .val (.int (f 2)), .val (.int (0 : Int32)), .unset]) own_d6_25 rfl rfl ?_
  refine own_iconst C (pc' := 27) (v := (2 : Int32)) own_d6_26 rfl (by decide) ?_
  refine own_iloadN C (pc' := 28) own_d6_27 rfl rfl ?_
  refine own_imulV C (pc' := 29) (v := (0 : Int32)) own_d6_28 rfl (by decide) ?_
  refine own_iconst C (pc' := 30) (v := (1 : Int32)) own_d6_29 rfl (by decide) ?_
  refine own_iaddV C (pc' := 31) (v := (1 : Int32)) own_d6_30 rfl (by decide) ?_
  refine own_istore C (pc' := 33) (Ls' := #[.val (.ref a), .val (.int (f 0)), .val (.int (f 2)), .val (.int (0 : Int32)), .val (.int (1 : Int32))]) own_d6_31 rfl rfl ?_
  refine own_iload C (pc' := 35) own_d6_33 rfl rfl ?_
  refine own_aloadN C (pc' := 36) own_d6_35 rfl rfl rfl ?_
  refine own_getF C (pc' := 39) (hw _ (List.mem_of_getElem? (i := 21) rfl)) F225 own_d6_36 rfl ?_
  refine own_ii_lt C (pc1 := 45) (pc2 := 42) own_d6_39 rfl rfl (fun c227 => ?_) (fun c227 => absurd c227 (by decide))
  refine own_iload C (pc' := 47) own_d6_45 rfl rfl ?_
  refine own_iconst C (pc' := 48) (v := (1 : Int32)) own_d6_47 rfl (by decide) ?_
  refine own_iaddV C (pc' := 49) (v := (2 : Int32)) own_d6_48 rfl (by decide) ?_
  refine own_aloadN C (pc' := 50) own_d6_49 rfl rfl rfl ?_
  refine own_getF C (pc' := 53) (hw _ (List.mem_of_getElem? (i := 21) rfl)) F225 own_d6_50 rfl ?_
  refine own_ii_ge C (pc1 := 78) (pc2 := 56) own_d6_53 rfl rfl (fun c228 => ?_) (fun c228 => absurd c228 (by decide))
  refine own_iloadN C (pc' := 79) own_d6_78 rfl rfl ?_
  refine own_aloadN C (pc' := 80) own_d6_79 rfl rfl rfl ?_
  refine own_getF C (pc' := 83) (hw _ (List.mem_of_getElem? (i := 14) rfl)) F224 own_d6_80 rfl ?_
  refine own_iload C (pc' := 85) own_d6_83 rfl rfl ?_
  refine own_ldIV C (pc' := 86) F226 (i := 1) (v := (f 1)) (by decide) (by decide) rfl own_d6_85 rfl ?_
  refine own_ii_gt C (pc1 := 92) (pc2 := 89) own_d6_86 rfl rfl (fun c229 => ?_) (fun c229 => ?_)
  · skip
    refine own_aloadN C (pc' := 93) own_d6_92 rfl rfl rfl ?_
    refine own_getF C (pc' := 96) (hw _ (List.mem_of_getElem? (i := 14) rfl)) F224 own_d6_93 rfl ?_
    refine own_iloadN C (pc' := 97) own_d6_96 rfl rfl ?_
    refine own_aloadN C (pc' := 98) own_d6_97 rfl rfl rfl ?_
    refine own_getF C (pc' := 101) (hw _ (List.mem_of_getElem? (i := 14) rfl)) F224 own_d6_98 rfl ?_
    refine own_iload C (pc' := 103) own_d6_101 rfl rfl ?_
    refine own_ldIV C (pc' := 104) F226 (i := 1) (v := (f 1)) (by decide) (by decide) rfl own_d6_103 rfl ?_
    refine own_stI C (pc' := 105) F226 (i := 0) (by decide) (by decide) f2 own_d6_104 rfl (fun h230 W231 V232 => ?_)
    have Z233 : n0 ≤ h230.size := Nat.le_trans Z221 (Nat.le_of_eq (Wr.size W231).symm)
    have K234 := Keep.wr K222 W231 (Or.inl (List.mem_of_getElem? (i := 1) rfl))
    have F235 : Exa Z h230 a "com/example/serialis/serialis/graph/IntMinHeap" := Exa.wr W231 F223
    have F236 : Fld Z h230 a "com/example/serialis/serialis/graph/IntMinHeap" "heap" "[I" (.ref ar) := Fld.other W231 F224 (Or.inl f3)
    have F237 : Fld Z h230 a "com/example/serialis/serialis/graph/IntMinHeap" "size" "I" (.int (2 : Int32)) := Fld.other W231 F225 (Or.inl f3)
    have F238 : own_AI Z h230 ar 4 (own_upd f 0 (f 1)) := V232
    refine own_iload C (pc' := 107) own_d6_105 rfl rfl ?_
    refine own_istoreN C (pc' := 108) (Ls' := #[.val (.ref a), .val (.int (f 0)), .val (.int (f 2)), .val (.int (1 : Int32)), .val (.int (1 : Int32))]) own_d6_107 rfl rfl ?_
    refine own_goto C (pc' := 26) own_d6_108 rfl ?_
    refine own_iconst C (pc' := 27) (v := (2 : Int32)) own_d6_26 rfl (by decide) ?_
    refine own_iloadN C (pc' := 28) own_d6_27 rfl rfl ?_
    refine own_imulV C (pc' := 29) (v := (2 : Int32)) own_d6_28 rfl (by decide) ?_
    refine own_iconst C (pc' := 30) (v := (1 : Int32)) own_d6_29 rfl (by decide) ?_
    refine own_iaddV C (pc' := 31) (v := (3 : Int32)) own_d6_30 rfl (by decide) ?_
    refine own_istore C (pc' := 33) (Ls' := #[.val (.ref a), .val (.int (f 0)), .val (.int (f 2)), .val (.int (1 : Int32)), .val (.int (3 : Int32))]) own_d6_31 rfl rfl ?_
    refine own_iload C (pc' := 35) own_d6_33 rfl rfl ?_
    refine own_aloadN C (pc' := 36) own_d6_35 rfl rfl rfl ?_
    refine own_getF C (pc' := 39) (hw _ (List.mem_of_getElem? (i := 21) rfl)) F237 own_d6_36 rfl ?_
    refine own_ii_lt C (pc1 := 45) (pc2 := 42) own_d6_39 rfl rfl (fun c239 => absurd c239 (by decide)) (fun c239 => ?_)
    refine own_goto C (pc' := 111) own_d6_42 rfl ?_
    refine own_aloadN C (pc' := 112) own_d6_111 rfl rfl rfl ?_
    refine own_getF C (pc' := 115) (hw _ (List.mem_of_getElem? (i := 14) rfl)) F236 own_d6_112 rfl ?_
    refine own_iloadN C (pc' := 116) own_d6_115 rfl rfl ?_
    refine own_iloadN C (pc' := 117) own_d6_116 rfl rfl ?_
    refine own_stI C (pc' := 118) F238 (i := 1) (by decide) (by decide) f2 own_d6_117 rfl (fun h240 W241 V242 => ?_)
    have Z243 : n0 ≤ h240.size := Nat.le_trans Z233 (Nat.le_of_eq (Wr.size W241).symm)
    have K244 := Keep.wr K234 W241 (Or.inl (List.mem_of_getElem? (i := 1) rfl))
    have F245 : Exa Z h240 a "com/example/serialis/serialis/graph/IntMinHeap" := Exa.wr W241 F235
    have F246 : Fld Z h240 a "com/example/serialis/serialis/graph/IntMinHeap" "heap" "[I" (.ref ar) := Fld.other W241 F236 (Or.inl f3)
    have F247 : Fld Z h240 a "com/example/serialis/serialis/graph/IntMinHeap" "size" "I" (.int (2 : Int32)) := Fld.other W241 F237 (Or.inl f3)
    have F248 : own_AI Z h240 ar 4 (own_upd (own_upd f 0 (f 1)) 1 (f 2)) := V242
    refine own_iloadN C (pc' := 119) own_d6_118 rfl rfl ?_
    have HH249 : own_H 2 (own_upd (own_upd f 0 (f 1)) 1 (f 2)) := by
      refine fun i hi => ?_
      have H1 : f 0 ≤ f 1 := hH 1 (by decide)
      have H2 : f 0 ≤ f 2 := hH 2 (by decide)
      rw [own_le] at H1
      rw [own_le] at H2
      rw [own_lt] at c229
      have t : i = 0 ∨ i = 1 := by omega
      rcases t with rfl | rfl
      · show (f 1) ≤ (f 1)
        rw [own_le]; omega
      · show (f 1) ≤ (f 2)
        rw [own_le]; omega
    exact own_ret C (t := .int) rfl rfl (Or.inl ⟨rfl, by simp, _, rfl⟩) own_d6_119 (by decide) (by decide) (⟨(own_upd (own_upd f 0 (f 1)) 1 (f 2)), rfl, K244, F245, F246, F247, F248, HH249, (fun v => by show (((0 + own_one (f 0) v) + own_one (f 1) v) + own_one (f 2) v) = ((0 + own_one (f 1) v) + own_one (f 2) v) + own_one (f 0) v; omega), (by have H1 : f 0 ≤ f 1 := hH 1 (by decide); have H2 : f 0 ≤ f 2 := hH 2 (by decide); rw [own_le] at H1; rw [own_le] at H2; rw [own_lt] at c229; show (f 0) ≤ (f 1); rw [own_le]; omega)⟩)
  · skip
    refine own_goto C (pc' := 111) own_d6_89 rfl ?_
    refine own_aloadN C (pc' := 112) own_d6_111 rfl rfl rfl ?_
    refine own_getF C (pc' := 115) (hw _ (List.mem_of_getElem? (i := 14) rfl)) F224 own_d6_112 rfl ?_
    refine own_iloadN C (pc' := 116) own_d6_115 rfl rfl ?_
    refine own_iloadN C (pc' := 117) own_d6_116 rfl rfl ?_
    refine own_stI C (pc' := 118) F226 (i := 0) (by decide) (by decide) f2 own_d6_117 rfl (fun h250 W251 V252 => ?_)
    have Z253 : n0 ≤ h250.size := Nat.le_trans Z221 (Nat.le_of_eq (Wr.size W251).symm)
    have K254 := Keep.wr K222 W251 (Or.inl (List.mem_of_getElem? (i := 1) rfl))
    have F255 : Exa Z h250 a "com/example/serialis/serialis/graph/IntMinHeap" := Exa.wr W251 F223
    have F256 : Fld Z h250 a "com/example/serialis/serialis/graph/IntMinHeap" "heap" "[I" (.ref ar) := Fld.other W251 F224 (Or.inl f3)
    have F257 : Fld Z h250 a "com/example/serialis/serialis/graph/IntMinHeap" "size" "I" (.int (2 : Int32)) := Fld.other W251 F225 (Or.inl f3)
    have F258 : own_AI Z h250 ar 4 (own_upd f 0 (f 2)) := V252
    refine own_iloadN C (pc' := 119) own_d6_118 rfl rfl ?_
    have HH259 : own_H 2 (own_upd f 0 (f 2)) := by
      refine fun i hi => ?_
      have H1 : f 0 ≤ f 1 := hH 1 (by decide)
      have H2 : f 0 ≤ f 2 := hH 2 (by decide)
      rw [own_le] at H1
      rw [own_le] at H2
      rw [own_lt] at c229
      have t : i = 0 ∨ i = 1 := by omega
      rcases t with rfl | rfl
      · show (f 2) ≤ (f 2)
        rw [own_le]; omega
      · show (f 2) ≤ (f 1)
        rw [own_le]; omega
    exact own_ret C (t := .int) rfl rfl (Or.inl ⟨rfl, by simp, _, rfl⟩) own_d6_119 (by decide) (by decide) (⟨(own_upd f 0 (f 2)), rfl, K254, F255, F256, F257, F258, HH259, (fun v => by show (((0 + own_one (f 0) v) + own_one (f 1) v) + own_one (f 2) v) = ((0 + own_one (f 2) v) + own_one (f 1) v) + own_one (f 0) v; omega), (by have H1 : f 0 ≤ f 1 := hH 1 (by decide); have H2 : f 0 ≤ f 2 := hH 2 (by decide); rw [own_le] at H1; rw [own_le] at H2; rw [own_lt] at c229; show (f 0) ≤ (f 2); rw [own_le]; omega)⟩)
set_option maxRecDepth 65536 in
set_option maxHeartbeats 40000000 in
theorem own_rem4 {l : Launch} {Z : State} {a0 : Array Value} (hw : ∀ d ∈ tables_1, d.before a0 Z = true) {n0 : Nat} {ws : List Jvm.Cond} {h : Heap} (a : Addr) (ar : Addr) (f : Nat → Int32) (Z0 : n0 ≤ h.size) (f0 : Exa Z h a "com/example/serialis/serialis/graph/IntMinHeap") (f1 : n0 ≤ a) (f2 : n0 ≤ ar) (f3 : a ≠ ar) (f4 : Fld Z h a "com/example/serialis/serialis/graph/IntMinHeap" "heap" "[I" (.ref ar)) (f5 : Fld Z h a "com/example/serialis/serialis/graph/IntMinHeap" "size" "I" (.int (4 : Int32))) (f6 : own_AI Z h ar 4 f) (hH : own_H 4 f) :
    own_Met l Z n0 (⟨"com/example/serialis/serialis/graph/IntMinHeap", "removeSmallest", "()I"⟩ : MethodName) prog_36_method_4_code 5 (some .int) ({ frames := 0, cells := 0, slots := 0, locals := 0 } : Room) ws #[(.ref a)] h (fun v h' => ∃ g : Nat → Int32, (v = some (.int (f 0))) ∧ (Keep h h' [a, ar]) ∧ (Exa Z h' a "com/example/serialis/serialis/graph/IntMinHeap") ∧ (Fld Z h' a "com/example/serialis/serialis/graph/IntMinHeap" "heap" "[I" (.ref ar)) ∧ (Fld Z h' a "com/example/serialis/serialis/graph/IntMinHeap" "size" "I" (.int (3 : Int32))) ∧ (own_AI Z h' ar 4 g) ∧ (own_H 3 g) ∧ (∀ v, own_cnt 4 f v = own_cnt 3 g v + own_one (f 0) v) ∧ (f 0 ≤ g 0)) := by
  refine own_met own_pn0 #[.val (.ref a), .unset, .unset, .unset, .unset] (fun m => by first | (simp [entryFrame, mkF, argsToLocals, Value.category]; done) | rfl) ?_
  intro p_ e_ s_ m_ b_ mt_ c_ C
  replace C : own_Ctx p_ s_ m_ mt_ c_ Z "com/example/serialis/serialis/graph/IntMinHeap" "removeSmallest" prog_36_method_4_code 5 (some .int) := C
  have K0 : Keep h h [a, ar] := Keep.refl _ _
  refine own_aloadN C (pc' := 1) own_d6_0 rfl rfl rfl ?_
  refine own_getF C (pc' := 4) (hw _ (List.mem_of_getElem? (i := 14) rfl)) f4 own_d6_1 rfl ?_
  refine own_iconst C (pc' := 5) (v := (0 : Int32)) own_d6_4 rfl (by decide) ?_
  refine own_ldIV C (pc' := 6) f6 (i := 0) (v := (f 0)) (by decide) (by decide) rfl own_d6_5 rfl ?_
  refine own_istoreN C (pc' := 7) (Ls' := #[.val (.ref a), .val (.int (f 0)), .unset, .unset, .unset]) own_d6_6 rfl rfl ?_
  refine own_aloadN C (pc' := 8) own_d6_7 rfl rfl rfl ?_
  refine own_getF C (pc' := 11) (hw _ (List.mem_of_getElem? (i := 14) rfl)) f4 own_d6_8 rfl ?_
  refine own_aloadN C (pc' := 12) own_d6_11 rfl rfl rfl ?_
  refine own_dup C (pc' := 13) own_d6_12 rfl rfl ?_
  refine own_getF C (pc' := 16) (hw _ (List.mem_of_getElem? (i := 21) rfl)) f5 own_d6_13 rfl ?_
  refine own_iconst C (pc' := 17) (v := (1 : Int32)) own_d6_16 rfl (by decide) ?_
  refine own_isubV C (pc' := 18) (v := (3 : Int32)) own_d6_17 rfl (by decide) ?_
  refine own_dupX1 C (pc' := 19) own_d6_18 rfl rfl rfl ?_
  refine own_putF C (pc' := 22) (hw _ (List.mem_of_getElem? (i := 21) rfl)) f5 f0 (Or.inl (hw _ (List.mem_of_getElem? (i := 22) rfl))) (hw _ (List.mem_of_getElem? (i := 6) rfl)) (ty := .int) (by decide) rfl rfl f1 own_d6_19 rfl (fun h260 W261 => ?_)
  have Z262 : n0 ≤ h260.size := Nat.le_trans Z0 (Nat.le_of_eq (Wr.size W261).symm)
  have K263 := Keep.wr K0 W261 (Or.inl (List.mem_of_getElem? (i := 0) rfl))
  have F264 : Exa Z h260 a "com/example/serialis/serialis/graph/IntMinHeap" := Exa.wr W261 f0
  have F265 : Fld Z h260 a "com/example/serialis/serialis/graph/IntMinHeap" "heap" "[I" (.ref ar) := Fld.other W261 f4 (Or.inr (slot_ne (Or.inr (hw _ (List.mem_of_getElem? (i := 15) rfl))) (Or.inl (hw _ (List.mem_of_getElem? (i := 22) rfl))) (by decide) (t := (.array .int)) (t' := .int) (by decide) (by decide)))
  have F266 : Fld Z h260 a "com/example/serialis/serialis/graph/IntMinHeap" "size" "I" (.int (3 : Int32)) := Fld.same W261 f5
  have F267 : own_AI Z h260 ar 4 f := own_A.other f6 W261 (Ne.symm f3)
  refine own_ldIV C (pc' := 23) F267 (i := 3) (v := (f 3)) (by decide) (by decide) rfl own_d6_22 rfl ?_
  refine own_istoreN C (pc' := 24) (Ls' := #[.val (.ref a), .val (.int (f 0)), .val (.int (f 3)), .unset, .unset]) own_d6_23 rfl rfl ?_
  refine own_iconst C (pc' := 25) (v := (0 : Int32)) own_d6_24 rfl (by decide) ?_
  refine own_istoreN C (pc' := 26) (Ls' := #[.val (.ref a), .val (.int (f 0)), .val (.int (f 3)), .val (.int (0 : Int32)), .unset]) own_d6_25 rfl rfl ?_
  refine own_iconst C (pc' := 27) (v := (2 : Int32)) own_d6_26 rfl (by decide) ?_
  refine own_iloadN C (pc' := 28) own_d6_27 rfl rfl ?_
  refine own_imulV C (pc' := 29) (v := (0 : Int32)) own_d6_28 rfl (by decide) ?_
  refine own_iconst C (pc' := 30) (v := (1 : Int32)) own_d6_29 rfl (by decide) ?_
  refine own_iaddV C (pc' := 31) (v := (1 : Int32)) own_d6_30 rfl (by decide) ?_
  refine own_istore C (pc' := 33) (Ls' := #[.val (.ref a), .val (.int (f 0)), .val (.int (f 3)), .val (.int (0 : Int32)), .val (.int (1 : Int32))]) own_d6_31 rfl rfl ?_
  refine own_iload C (pc' := 35) own_d6_33 rfl rfl ?_
  refine own_aloadN C (pc' := 36) own_d6_35 rfl rfl rfl ?_
  refine own_getF C (pc' := 39) (hw _ (List.mem_of_getElem? (i := 21) rfl)) F266 own_d6_36 rfl ?_
  refine own_ii_lt C (pc1 := 45) (pc2 := 42) own_d6_39 rfl rfl (fun c268 => ?_) (fun c268 => absurd c268 (by decide))
  refine own_iload C (pc' := 47) own_d6_45 rfl rfl ?_
  refine own_iconst C (pc' := 48) (v := (1 : Int32)) own_d6_47 rfl (by decide) ?_
  refine own_iaddV C (pc' := 49) (v := (2 : Int32)) own_d6_48 rfl (by decide) ?_
  refine own_aloadN C (pc' := 50) own_d6_49 rfl rfl rfl ?_
  refine own_getF C (pc' := 53) (hw _ (List.mem_of_getElem? (i := 21) rfl)) F266 own_d6_50 rfl ?_
  refine own_ii_ge C (pc1 := 78) (pc2 := 56) own_d6_53 rfl rfl (fun c269 => absurd c269 (by decide)) (fun c269 => ?_)
  refine own_aloadN C (pc' := 57) own_d6_56 rfl rfl rfl ?_
  refine own_getF C (pc' := 60) (hw _ (List.mem_of_getElem? (i := 14) rfl)) F265 own_d6_57 rfl ?_
  refine own_iload C (pc' := 62) own_d6_60 rfl rfl ?_
  refine own_iconst C (pc' := 63) (v := (1 : Int32)) own_d6_62 rfl (by decide) ?_
  refine own_iaddV C (pc' := 64) (v := (2 : Int32)) own_d6_63 rfl (by decide) ?_
  refine own_ldIV C (pc' := 65) F267 (i := 2) (v := (f 2)) (by decide) (by decide) rfl own_d6_64 rfl ?_
  refine own_aloadN C (pc' := 66) own_d6_65 rfl rfl rfl ?_
  refine own_getF C (pc' := 69) (hw _ (List.mem_of_getElem? (i := 14) rfl)) F265 own_d6_66 rfl ?_
  refine own_iload C (pc' := 71) own_d6_69 rfl rfl ?_
  refine own_ldIV C (pc' := 72) F267 (i := 1) (v := (f 1)) (by decide) (by decide) rfl own_d6_71 rfl ?_
  refine own_ii_ge C (pc1 := 78) (pc2 := 75) own_d6_72 rfl rfl (fun c270 => ?_) (fun c270 => ?_)
  · skip
    refine own_iloadN C (pc' := 79) own_d6_78 rfl rfl ?_
    refine own_aloadN C (pc' := 80) own_d6_79 rfl rfl rfl ?_
    refine own_getF C (pc' := 83) (hw _ (List.mem_of_getElem? (i := 14) rfl)) F265 own_d6_80 rfl ?_
    refine own_iload C (pc' := 85) own_d6_83 rfl rfl ?_
    refine own_ldIV C (pc' := 86) F267 (i := 1) (v := (f 1)) (by decide) (by decide) rfl own_d6_85 rfl ?_
    refine own_ii_gt C (pc1 := 92) (pc2 := 89) own_d6_86 rfl rfl (fun c271 => ?_) (fun c271 => ?_)
    · skip
      refine own_aloadN C (pc' := 93) own_d6_92 rfl rfl rfl ?_
      refine own_getF C (pc' := 96) (hw _ (List.mem_of_getElem? (i := 14) rfl)) F265 own_d6_93 rfl ?_
      refine own_iloadN C (pc' := 97) own_d6_96 rfl rfl ?_
      refine own_aloadN C (pc' := 98) own_d6_97 rfl rfl rfl ?_
      refine own_getF C (pc' := 101) (hw _ (List.mem_of_getElem? (i := 14) rfl)) F265 own_d6_98 rfl ?_
      refine own_iload C (pc' := 103) own_d6_101 rfl rfl ?_
      refine own_ldIV C (pc' := 104) F267 (i := 1) (v := (f 1)) (by decide) (by decide) rfl own_d6_103 rfl ?_
      refine own_stI C (pc' := 105) F267 (i := 0) (by decide) (by decide) f2 own_d6_104 rfl (fun h272 W273 V274 => ?_)
      have Z275 : n0 ≤ h272.size := Nat.le_trans Z262 (Nat.le_of_eq (Wr.size W273).symm)
      have K276 := Keep.wr K263 W273 (Or.inl (List.mem_of_getElem? (i := 1) rfl))
      have F277 : Exa Z h272 a "com/example/serialis/serialis/graph/IntMinHeap" := Exa.wr W273 F264
      have F278 : Fld Z h272 a "com/example/serialis/serialis/graph/IntMinHeap" "heap" "[I" (.ref ar) := Fld.other W273 F265 (Or.inl f3)
      have F279 : Fld Z h272 a "com/example/serialis/serialis/graph/IntMinHeap" "size" "I" (.int (3 : Int32)) := Fld.other W273 F266 (Or.inl f3)
      have F280 : own_AI Z h272 ar 4 (own_upd f 0 (f 1)) := V274
      refine own_iload C (pc' := 107) own_d6_105 rfl rfl ?_
      refine own_istoreN C (pc' := 108) (Ls' := #[.val (.ref a), .val (.int (f 0)), .val (.int (f 3)), .val (.int (1 : Int32)), .val (.int (1 : Int32))]) own_d6_107 rfl rfl ?_
      refine own_goto C (pc' := 26) own_d6_108 rfl ?_
      refine own_iconst C (pc' := 27) (v := (2 : Int32)) own_d6_26 rfl (by decide) ?_
      refine own_iloadN C (pc' := 28) own_d6_27 rfl rfl ?_
      refine own_imulV C (pc' := 29) (v := (2 : Int32)) own_d6_28 rfl (by decide) ?_
      refine own_iconst C (pc' := 30) (v := (1 : Int32)) own_d6_29 rfl (by decide) ?_
      refine own_iaddV C (pc' := 31) (v := (3 : Int32)) own_d6_30 rfl (by decide) ?_
      refine own_istore C (pc' := 33) (Ls' := #[.val (.ref a), .val (.int (f 0)), .val (.int (f 3)), .val (.int (1 : Int32)), .val (.int (3 : Int32))]) own_d6_31 rfl rfl ?_
      refine own_iload C (pc' := 35) own_d6_33 rfl rfl ?_
      refine own_aloadN C (pc' := 36) own_d6_35 rfl rfl rfl ?_
      refine own_getF C (pc' := 39) (hw _ (List.mem_of_getElem? (i := 21) rfl)) F279 own_d6_36 rfl ?_
      refine own_ii_lt C (pc1 := 45) (pc2 := 42) own_d6_39 rfl rfl (fun c281 => absurd c281 (by decide)) (fun c281 => ?_)
      refine own_goto C (pc' := 111) own_d6_42 rfl ?_
      refine own_aloadN C (pc' := 112) own_d6_111 rfl rfl rfl ?_
      refine own_getF C (pc' := 115) (hw _ (List.mem_of_getElem? (i := 14) rfl)) F278 own_d6_112 rfl ?_
      refine own_iloadN C (pc' := 116) own_d6_115 rfl rfl ?_
      refine own_iloadN C (pc' := 117) own_d6_116 rfl rfl ?_
      refine own_stI C (pc' := 118) F280 (i := 1) (by decide) (by decide) f2 own_d6_117 rfl (fun h282 W283 V284 => ?_)
      have Z285 : n0 ≤ h282.size := Nat.le_trans Z275 (Nat.le_of_eq (Wr.size W283).symm)
      have K286 := Keep.wr K276 W283 (Or.inl (List.mem_of_getElem? (i := 1) rfl))
      have F287 : Exa Z h282 a "com/example/serialis/serialis/graph/IntMinHeap" := Exa.wr W283 F277
      have F288 : Fld Z h282 a "com/example/serialis/serialis/graph/IntMinHeap" "heap" "[I" (.ref ar) := Fld.other W283 F278 (Or.inl f3)
      have F289 : Fld Z h282 a "com/example/serialis/serialis/graph/IntMinHeap" "size" "I" (.int (3 : Int32)) := Fld.other W283 F279 (Or.inl f3)
      have F290 : own_AI Z h282 ar 4 (own_upd (own_upd f 0 (f 1)) 1 (f 3)) := V284
      refine own_iloadN C (pc' := 119) own_d6_118 rfl rfl ?_
      have HH291 : own_H 3 (own_upd (own_upd f 0 (f 1)) 1 (f 3)) := by
        refine fun i hi => ?_
        have H1 : f 0 ≤ f 1 := hH 1 (by decide)
        have H2 : f 0 ≤ f 2 := hH 2 (by decide)
        have H3 : f 1 ≤ f 3 := hH 3 (by decide)
        rw [own_le] at H1
        rw [own_le] at H2
        rw [own_le] at H3
        rw [own_lt] at c270
        rw [own_lt] at c271
        have t : i = 0 ∨ i = 1 ∨ i = 2 := by omega
        rcases t with rfl | rfl | rfl
        · show (f 1) ≤ (f 1)
          rw [own_le]; omega
        · show (f 1) ≤ (f 3)
          rw [own_le]; omega
        · show (f 1) ≤ (f 2)
          rw [own_le]; omega
      exact own_ret C (t := .int) rfl rfl (Or.inl ⟨rfl, by simp, _, rfl⟩) own_d6_119 (by decide) (by decide) (⟨(own_upd (own_upd f 0 (f 1)) 1 (f 3)), rfl, K286, F287, F288, F289, F290, HH291, (fun v => by show ((((0 + own_one (f 0) v) + own_one (f 1) v) + own_one (f 2) v) + own_one (f 3) v) = (((0 + own_one (f 1) v) + own_one (f 3) v) + own_one (f 2) v) + own_one (f 0) v; omega), (by have H1 : f 0 ≤ f 1 := hH 1 (by decide); have H2 : f 0 ≤ f 2 := hH 2 (by decide); have H3 : f 1 ≤ f 3 := hH 3 (by decide); rw [own_le] at H1; rw [own_le] at H2; rw [own_le] at H3; rw [own_lt] at c270; rw [own_lt] at c271; show (f 0) ≤ (f 1); rw [own_le]; omega)⟩)
    · skip
      refine own_goto C (pc' := 111) own_d6_89 rfl ?_
      refine own_aloadN C (pc' := 112) own_d6_111 rfl rfl rfl ?_
      refine own_getF C (pc' := 115) (hw _ (List.mem_of_getElem? (i := 14) rfl)) F265 own_d6_112 rfl ?_
      refine own_iloadN C (pc' := 116) own_d6_115 rfl rfl ?_
      refine own_iloadN C (pc' := 117) own_d6_116 rfl rfl ?_
      refine own_stI C (pc' := 118) F267 (i := 0) (by decide) (by decide) f2 own_d6_117 rfl (fun h292 W293 V294 => ?_)
      have Z295 : n0 ≤ h292.size := Nat.le_trans Z262 (Nat.le_of_eq (Wr.size W293).symm)
      have K296 := Keep.wr K263 W293 (Or.inl (List.mem_of_getElem? (i := 1) rfl))
      have F297 : Exa Z h292 a "com/example/serialis/serialis/graph/IntMinHeap" := Exa.wr W293 F264
      have F298 : Fld Z h292 a "com/example/serialis/serialis/graph/IntMinHeap" "heap" "[I" (.ref ar) := Fld.other W293 F265 (Or.inl f3)
      have F299 : Fld Z h292 a "com/example/serialis/serialis/graph/IntMinHeap" "size" "I" (.int (3 : Int32)) := Fld.other W293 F266 (Or.inl f3)
      have F300 : own_AI Z h292 ar 4 (own_upd f 0 (f 3)) := V294
      refine own_iloadN C (pc' := 119) own_d6_118 rfl rfl ?_
      have HH301 : own_H 3 (own_upd f 0 (f 3)) := by
        refine fun i hi => ?_
        have H1 : f 0 ≤ f 1 := hH 1 (by decide)
        have H2 : f 0 ≤ f 2 := hH 2 (by decide)
        have H3 : f 1 ≤ f 3 := hH 3 (by decide)
        rw [own_le] at H1
        rw [own_le] at H2
        rw [own_le] at H3
        rw [own_lt] at c270
        rw [own_lt] at c271
        have t : i = 0 ∨ i = 1 ∨ i = 2 := by omega
        rcases t with rfl | rfl | rfl
        · show (f 3) ≤ (f 3)
          rw [own_le]; omega
        · show (f 3) ≤ (f 1)
          rw [own_le]; omega
        · show (f 3) ≤ (f 2)
          rw [own_le]; omega
      exact own_ret C (t := .int) rfl rfl (Or.inl ⟨rfl, by simp, _, rfl⟩) own_d6_119 (by decide) (by decide) (⟨(own_upd f 0 (f 3)), rfl, K296, F297, F298, F299, F300, HH301, (fun v => by show ((((0 + own_one (f 0) v) + own_one (f 1) v) + own_one (f 2) v) + own_one (f 3) v) = (((0 + own_one (f 3) v) + own_one (f 1) v) + own_one (f 2) v) + own_one (f 0) v; omega), (by have H1 : f 0 ≤ f 1 := hH 1 (by decide); have H2 : f 0 ≤ f 2 := hH 2 (by decide); have H3 : f 1 ≤ f 3 := hH 3 (by decide); rw [own_le] at H1; rw [own_le] at H2; rw [own_le] at H3; rw [own_lt] at c270; rw [own_lt] at c271; show (f 0) ≤ (f 3); rw [own_le]; omega)⟩)
  · skip
    refine own_iincV C (pc' := 78) (w := (1 : Int32)) (x := (2 : Int32)) (Ls' := #[.val (.ref a), .val (.int (f 0)), .val (.int (f 3)), .val (.int (0 : Int32)), .val (.int (2 : Int32))]) own_d6_75 rfl (by decide) (by decide) rfl rfl ?_
    refine own_iloadN C (pc' := 79) own_d6_78 rfl rfl ?_
    refine own_aloadN C (pc' := 80) own_d6_79 rfl rfl rfl ?_
    refine own_getF C (pc' := 83) (hw _ (List.mem_of_getElem? (i := 14) rfl)) F265 own_d6_80 rfl ?_
    refine own_iload C (pc' := 85) own_d6_83 rfl rfl ?_
    refine own_ldIV C (pc' := 86) F267 (i := 2) (v := (f 2)) (by decide) (by decide) rfl own_d6_85 rfl ?_
    refine own_ii_gt C (pc1 := 92) (pc2 := 89) own_d6_86 rfl rfl (fun c302 => ?_) (fun c302 => ?_)
    · skip
      refine own_aloadN C (pc' := 93) own_d6_92 rfl rfl rfl ?_
      refine own_getF C (pc' := 96) (hw _ (List.mem_of_getElem? (i := 14) rfl)) F265 own_d6_93 rfl ?_
      refine own_iloadN C (pc' := 97) own_d6_96 rfl rfl ?_
      refine own_aloadN C (pc' := 98) own_d6_97 rfl rfl rfl ?_
      refine own_getF C (pc' := 101) (hw _ (List.mem_of_getElem? (i := 14) rfl)) F265 own_d6_98 rfl ?_
      refine own_iload C (pc' := 103) own_d6_101 rfl rfl ?_
      refine own_ldIV C (pc' := 104) F267 (i := 2) (v := (f 2)) (by decide) (by decide) rfl own_d6_103 rfl ?_
      refine own_stI C (pc' := 105) F267 (i := 0) (by decide) (by decide) f2 own_d6_104 rfl (fun h303 W304 V305 => ?_)
      have Z306 : n0 ≤ h303.size := Nat.le_trans Z262 (Nat.le_of_eq (Wr.size W304).symm)
      have K307 := Keep.wr K263 W304 (Or.inl (List.mem_of_getElem? (i := 1) rfl))
      have F308 : Exa Z h303 a "com/example/serialis/serialis/graph/IntMinHeap" := Exa.wr W304 F264
      have F309 : Fld Z h303 a "com/example/serialis/serialis/graph/IntMinHeap" "heap" "[I" (.ref ar) := Fld.other W304 F265 (Or.inl f3)
      have F310 : Fld Z h303 a "com/example/serialis/serialis/graph/IntMinHeap" "size" "I" (.int (3 : Int32)) := Fld.other W304 F266 (Or.inl f3)
      have F311 : own_AI Z h303 ar 4 (own_upd f 0 (f 2)) := V305
      refine own_iload C (pc' := 107) own_d6_105 rfl rfl ?_
      refine own_istoreN C (pc' := 108) (Ls' := #[.val (.ref a), .val (.int (f 0)), .val (.int (f 3)), .val (.int (2 : Int32)), .val (.int (2 : Int32))]) own_d6_107 rfl rfl ?_
      refine own_goto C (pc' := 26) own_d6_108 rfl ?_
      refine own_iconst C (pc' := 27) (v := (2 : Int32)) own_d6_26 rfl (by decide) ?_
      refine own_iloadN C (pc' := 28) own_d6_27 rfl rfl ?_
      refine own_imulV C (pc' := 29) (v := (4 : Int32)) own_d6_28 rfl (by decide) ?_
      refine own_iconst C (pc' := 30) (v := (1 : Int32)) own_d6_29 rfl (by decide) ?_
      refine own_iaddV C (pc' := 31) (v := (5 : Int32)) own_d6_30 rfl (by decide) ?_
      refine own_istore C (pc' := 33) (Ls' := #[.val (.ref a), .val (.int (f 0)), .val (.int (f 3)), .val (.int (2 : Int32)), .val (.int (5 : Int32))]) own_d6_31 rfl rfl ?_
      refine own_iload C (pc' := 35) own_d6_33 rfl rfl ?_
      refine own_aloadN C (pc' := 36) own_d6_35 rfl rfl rfl ?_
      refine own_getF C (pc' := 39) (hw _ (List.mem_of_getElem? (i := 21) rfl)) F310 own_d6_36 rfl ?_
      refine own_ii_lt C (pc1 := 45) (pc2 := 42) own_d6_39 rfl rfl (fun c312 => absurd c312 (by decide)) (fun c312 => ?_)
      refine own_goto C (pc' := 111) own_d6_42 rfl ?_
      refine own_aloadN C (pc' := 112) own_d6_111 rfl rfl rfl ?_
      refine own_getF C (pc' := 115) (hw _ (List.mem_of_getElem? (i := 14) rfl)) F309 own_d6_112 rfl ?_
      refine own_iloadN C (pc' := 116) own_d6_115 rfl rfl ?_
      refine own_iloadN C (pc' := 117) own_d6_116 rfl rfl ?_
      refine own_stI C (pc' := 118) F311 (i := 2) (by decide) (by decide) f2 own_d6_117 rfl (fun h313 W314 V315 => ?_)
      have Z316 : n0 ≤ h313.size := Nat.le_trans Z306 (Nat.le_of_eq (Wr.size W314).symm)
      have K317 := Keep.wr K307 W314 (Or.inl (List.mem_of_getElem? (i := 1) rfl))
      have F318 : Exa Z h313 a "com/example/serialis/serialis/graph/IntMinHeap" := Exa.wr W314 F308
      have F319 : Fld Z h313 a "com/example/serialis/serialis/graph/IntMinHeap" "heap" "[I" (.ref ar) := Fld.other W314 F309 (Or.inl f3)
      have F320 : Fld Z h313 a "com/example/serialis/serialis/graph/IntMinHeap" "size" "I" (.int (3 : Int32)) := Fld.other W314 F310 (Or.inl f3)
      have F321 : own_AI Z h313 ar 4 (own_upd (own_upd f 0 (f 2)) 2 (f 3)) := V315
      refine own_iloadN C (pc' := 119) own_d6_118 rfl rfl ?_
      have HH322 : own_H 3 (own_upd (own_upd f 0 (f 2)) 2 (f 3)) := by
        refine fun i hi => ?_
        have H1 : f 0 ≤ f 1 := hH 1 (by decide)
        have H2 : f 0 ≤ f 2 := hH 2 (by decide)
        have H3 : f 1 ≤ f 3 := hH 3 (by decide)
        rw [own_le] at H1
        rw [own_le] at H2
        rw [own_le] at H3
        rw [own_lt] at c270
        rw [own_lt] at c302
        have t : i = 0 ∨ i = 1 ∨ i = 2 := by omega
        rcases t with rfl | rfl | rfl
        · show (f 2) ≤ (f 2)
          rw [own_le]; omega
        · show (f 2) ≤ (f 1)
          rw [own_le]; omega
        · show (f 2) ≤ (f 3)
          rw [own_le]; omega
      exact own_ret C (t := .int) rfl rfl (Or.inl ⟨rfl, by simp, _, rfl⟩) own_d6_119 (by decide) (by decide) (⟨(own_upd (own_upd f 0 (f 2)) 2 (f 3)), rfl, K317, F318, F319, F320, F321, HH322, (fun v => by show ((((0 + own_one (f 0) v) + own_one (f 1) v) + own_one (f 2) v) + own_one (f 3) v) = (((0 + own_one (f 2) v) + own_one (f 1) v) + own_one (f 3) v) + own_one (f 0) v; omega), (by have H1 : f 0 ≤ f 1 := hH 1 (by decide); have H2 : f 0 ≤ f 2 := hH 2 (by decide); have H3 : f 1 ≤ f 3 := hH 3 (by decide); rw [own_le] at H1; rw [own_le] at H2; rw [own_le] at H3; rw [own_lt] at c270; rw [own_lt] at c302; show (f 0) ≤ (f 2); rw [own_le]; omega)⟩)
    · skip
      refine own_goto C (pc' := 111) own_d6_89 rfl ?_
      refine own_aloadN C (pc' := 112) own_d6_111 rfl rfl rfl ?_
      refine own_getF C (pc' := 115) (hw _ (List.mem_of_getElem? (i := 14) rfl)) F265 own_d6_112 rfl ?_
      refine own_iloadN C (pc' := 116) own_d6_115 rfl rfl ?_
      refine own_iloadN C (pc' := 117) own_d6_116 rfl rfl ?_
      refine own_stI C (pc' := 118) F267 (i := 0) (by decide) (by decide) f2 own_d6_117 rfl (fun h323 W324 V325 => ?_)
      have Z326 : n0 ≤ h323.size := Nat.le_trans Z262 (Nat.le_of_eq (Wr.size W324).symm)
      have K327 := Keep.wr K263 W324 (Or.inl (List.mem_of_getElem? (i := 1) rfl))
      have F328 : Exa Z h323 a "com/example/serialis/serialis/graph/IntMinHeap" := Exa.wr W324 F264
      have F329 : Fld Z h323 a "com/example/serialis/serialis/graph/IntMinHeap" "heap" "[I" (.ref ar) := Fld.other W324 F265 (Or.inl f3)
      have F330 : Fld Z h323 a "com/example/serialis/serialis/graph/IntMinHeap" "size" "I" (.int (3 : Int32)) := Fld.other W324 F266 (Or.inl f3)
      have F331 : own_AI Z h323 ar 4 (own_upd f 0 (f 3)) := V325
      refine own_iloadN C (pc' := 119) own_d6_118 rfl rfl ?_
      have HH332 : own_H 3 (own_upd f 0 (f 3)) := by
        refine fun i hi => ?_
        have H1 : f 0 ≤ f 1 := hH 1 (by decide)
        have H2 : f 0 ≤ f 2 := hH 2 (by decide)
        have H3 : f 1 ≤ f 3 := hH 3 (by decide)
        rw [own_le] at H1
        rw [own_le] at H2
        rw [own_le] at H3
        rw [own_lt] at c270
        rw [own_lt] at c302
        have t : i = 0 ∨ i = 1 ∨ i = 2 := by omega
        rcases t with rfl | rfl | rfl
        · show (f 3) ≤ (f 3)
          rw [own_le]; omega
        · show (f 3) ≤ (f 1)
          rw [own_le]; omega
        · show (f 3) ≤ (f 2)
          rw [own_le]; omega
      exact own_ret C (t := .int) rfl rfl (Or.inl ⟨rfl, by simp, _, rfl⟩) own_d6_119 (by decide) (by decide) (⟨(own_upd f 0 (f 3)), rfl, K327, F328, F329, F330, F331, HH332, (fun v => by show ((((0 + own_one (f 0) v) + own_one (f 1) v) + own_one (f 2) v) + own_one (f 3) v) = (((0 + own_one (f 3) v) + own_one (f 1) v) + own_one (f 2) v) + own_one (f 0) v; omega), (by have H1 : f 0 ≤ f 1 := hH 1 (by decide); have H2 : f 0 ≤ f 2 := hH 2 (by decide); have H3 : f 1 ≤ f 3 := hH 3 (by decide); rw [own_le] at H1; rw [own_le] at H2; rw [own_le] at H3; rw [own_lt] at c270; rw [own_lt] at c302; show (f 0) ≤ (f 3); rw [own_le]; omega)⟩)
set_option maxRecDepth 65536 in
set_option maxHeartbeats 40000000 in
theorem own_m5 {l : Launch} {Z : State} {a0 : Array Value} (hw : ∀ d ∈ tables_1, d.before a0 Z = true) {n0 : Nat} {ws : List Jvm.Cond} {h : Heap} (a : Addr) (sz : Int32) (b : Int32) (Z0 : n0 ≤ h.size) (f0 : Fld Z h a "com/example/serialis/serialis/graph/IntMinHeap" "size" "I" (.int sz)) (hb : (if sz = 0 then (1 : Int32) else (0 : Int32)) = b) :
    own_Met l Z n0 (⟨"com/example/serialis/serialis/graph/IntMinHeap", "isEmpty", "()Z"⟩ : MethodName) prog_36_method_2_code 1 (some .boolean) ({ frames := 0, cells := 0, slots := 0, locals := 0 } : Room) ws #[(.ref a)] h (fun v h' => (v = some (.int b)) ∧ (h = h')) := by
  refine own_met own_pn0 #[.val (.ref a)] (fun m => by first | (simp [entryFrame, mkF, argsToLocals, Value.category]; done) | rfl) ?_
  intro p_ e_ s_ m_ b_ mt_ c_ C
  replace C : own_Ctx p_ s_ m_ mt_ c_ Z "com/example/serialis/serialis/graph/IntMinHeap" "isEmpty" prog_36_method_2_code 1 (some .boolean) := C
  refine own_aloadN C (pc' := 1) own_d5_0 rfl rfl rfl ?_
  refine own_getF C (pc' := 4) (hw _ (List.mem_of_getElem? (i := 21) rfl)) f0 own_d5_1 rfl ?_
  refine own_i0_ne C (pc1 := 11) (pc2 := 7) own_d5_4 rfl rfl (fun c333 => ?_) (fun c333 => ?_)
  · skip
    refine own_iconst C (pc' := 12) (v := (0 : Int32)) own_d5_11 rfl (by decide) ?_
    exact own_ret C (t := .boolean) rfl rfl (Or.inl ⟨rfl, by simp, _, rfl⟩) own_d5_12 (by decide) (by decide) (⟨by rw [← hb, if_neg c333], rfl⟩)
  · skip
    refine own_iconst C (pc' := 8) (v := (1 : Int32)) own_d5_7 rfl (by decide) ?_
    refine own_goto C (pc' := 12) own_d5_8 rfl ?_
    exact own_ret C (t := .boolean) rfl rfl (Or.inl ⟨rfl, by simp, _, rfl⟩) own_d5_12 (by decide) (by decide) (⟨by rw [← hb, if_pos c333], rfl⟩)
set_option maxRecDepth 65536 in
set_option maxHeartbeats 40000000 in
theorem own_m1 {l : Launch} {Z : State} {a0 : Array Value} (hw : ∀ d ∈ tables_1, d.before a0 Z = true) {n0 : Nat} {ws : List Jvm.Cond} {h : Heap} (ar : Addr) (f : Nat → Int32) (i : Int32) (j : Int32) (ii : Nat) (jj : Nat) (fi : Int32) (fj : Int32) (Z0 : n0 ≤ h.size) (f0 : n0 ≤ ar) (f1 : own_AI Z h ar 4 f) (hi : i.toInt = (ii : Int)) (hib : ii < 4) (hj : j.toInt = (jj : Int)) (hjb : jj < 4) (hij : ii ≠ jj) (hfi : f ii = fi) (hfj : f jj = fj) :
    own_Met l Z n0 (⟨"com/example/serialis/serialis/graph/IntMinHeapAddPinLaw", "cx", "([III)V"⟩ : MethodName) method_2_code 4 none ({ frames := 0, cells := 0, slots := 0, locals := 0 } : Room) ws #[(.ref ar), (.int i), (.int j)] h (fun v h' => ∃ u : Int32, ∃ w : Int32, (v = none) ∧ (Keep h h' [ar]) ∧ (own_AI Z h' ar 4 (own_upd (own_upd f ii u) jj w)) ∧ (u ≤ w) ∧ ((u = fi ∧ w = fj) ∨ (u = fj ∧ w = fi))) := by
  refine own_met own_pn1 #[.val (.ref ar), .val (.int i), .val (.int j), .unset] (fun m => by first | (simp [entryFrame, mkF, argsToLocals, Value.category]; done) | rfl) ?_
  intro p_ e_ s_ m_ b_ mt_ c_ C
  replace C : own_Ctx p_ s_ m_ mt_ c_ Z "com/example/serialis/serialis/graph/IntMinHeapAddPinLaw" "cx" method_2_code 4 none := C
  have K0 : Keep h h [ar] := Keep.refl _ _
  refine own_aloadN C (pc' := 1) own_d1_0 rfl rfl rfl ?_
  refine own_iloadN C (pc' := 2) own_d1_1 rfl rfl ?_
  refine own_ldIV C (pc' := 3) f1 (i := ii) (v := fi) hi hib hfi own_d1_2 rfl ?_
  refine own_aloadN C (pc' := 4) own_d1_3 rfl rfl rfl ?_
  refine own_iloadN C (pc' := 5) own_d1_4 rfl rfl ?_
  refine own_ldIV C (pc' := 6) f1 (i := jj) (v := fj) hj hjb hfj own_d1_5 rfl ?_
  refine own_ii_le C (pc1 := 23) (pc2 := 9) own_d1_6 rfl rfl (fun c334 => ?_) (fun c334 => ?_)
  · skip
    exact own_retV C rfl own_d1_23 (by decide) (by decide) (⟨fi, fj, rfl, K0, (own_A.congr f1 fun j hj => congrArg _ (own_same hfi hfj j)), (by rw [own_le]; rw [own_lt] at c334; omega), (Or.inl ⟨rfl, rfl⟩)⟩)
  · skip
    refine own_aloadN C (pc' := 10) own_d1_9 rfl rfl rfl ?_
    refine own_iloadN C (pc' := 11) own_d1_10 rfl rfl ?_
    refine own_ldIV C (pc' := 12) f1 (i := ii) (v := fi) hi hib hfi own_d1_11 rfl ?_
    refine own_istoreN C (pc' := 13) (Ls' := #[.val (.ref ar), .val (.int i), .val (.int j), .val (.int fi)]) own_d1_12 rfl rfl ?_
    refine own_aloadN C (pc' := 14) own_d1_13 rfl rfl rfl ?_
    refine own_iloadN C (pc' := 15) own_d1_14 rfl rfl ?_
    refine own_aloadN C (pc' := 16) own_d1_15 rfl rfl rfl ?_
    refine own_iloadN C (pc' := 17) own_d1_16 rfl rfl ?_
    refine own_ldIV C (pc' := 18) f1 (i := jj) (v := fj) hj hjb hfj own_d1_17 rfl ?_
    refine own_stI C (pc' := 19) f1 (i := ii) hi hib f0 own_d1_18 rfl (fun h335 W336 V337 => ?_)
    have Z338 : n0 ≤ h335.size := Nat.le_trans Z0 (Nat.le_of_eq (Wr.size W336).symm)
    have K339 := Keep.wr K0 W336 (Or.inl (List.mem_of_getElem? (i := 0) rfl))
    have F340 : own_AI Z h335 ar 4 (own_upd f ii fj) := V337
    refine own_aloadN C (pc' := 20) own_d1_19 rfl rfl rfl ?_
    refine own_iloadN C (pc' := 21) own_d1_20 rfl rfl ?_
    refine own_iloadN C (pc' := 22) own_d1_21 rfl rfl ?_
    refine own_stI C (pc' := 23) F340 (i := jj) hj hjb f0 own_d1_22 rfl (fun h341 W342 V343 => ?_)
    have Z344 : n0 ≤ h341.size := Nat.le_trans Z338 (Nat.le_of_eq (Wr.size W342).symm)
    have K345 := Keep.wr K339 W342 (Or.inl (List.mem_of_getElem? (i := 0) rfl))
    have F346 : own_AI Z h341 ar 4 (own_upd (own_upd f ii fj) jj fi) := V343
    exact own_retV C rfl own_d1_23 (by decide) (by decide) (⟨fj, fi, rfl, K345, F346, (by rw [own_le]; rw [own_lt] at c334; omega), (Or.inr ⟨rfl, rfl⟩)⟩)
set_option maxRecDepth 65536 in
set_option maxHeartbeats 40000000 in
theorem own_law {l : Launch} {Z : State} {a0 : Array Value} (hw : ∀ d ∈ tables_1, d.before a0 Z = true) {n0 : Nat} {ws : List Jvm.Cond} {h : Heap} (p0 : Int32) (p1 : Int32) (p2 : Int32) (p3 : Int32) (Z0 : n0 ≤ h.size) :
    own_Met l Z n0 x code maxLocals ret room_1 ws #[(.int p0), (.int p1), (.int p2), (.int p3)] h (fun v h' => v = some (.int 1)) := by
  refine own_met own_pn1 #[.val (.int p0), .val (.int p1), .val (.int p2), .val (.int p3), .unset, .unset, .unset, .unset, .unset, .unset, .unset] (fun m => by first | (simp [entryFrame, mkF, argsToLocals, Value.category, maxLocals]; done) | rfl) ?_
  intro p_ e_ s_ m_ b_ mt_ c_ C
  replace C : own_Ctx p_ s_ m_ mt_ c_ Z "com/example/serialis/serialis/graph/IntMinHeapAddPinLaw" "law" code maxLocals ret := C
  refine own_iconst C (pc' := 1) (v := (4 : Int32)) at_0 rfl (by decide) ?_
  refine own_newAI C (pc' := 3) (hw _ (List.mem_of_getElem? (i := 0) rfl)) Z0 at_1 rfl (nn := 4) (cap := 4) (by decide) (by decide) (by decide) (by decide) (by decide) (fun h347 a348 ea349 ga350 Z351 E352 V353 => ?_)
  refine own_dup C (pc' := 4) at_3 rfl rfl ?_
  refine own_iconst C (pc' := 5) (v := (0 : Int32)) at_4 rfl (by decide) ?_
  refine own_iloadN C (pc' := 6) at_5 rfl rfl ?_
  refine own_stI C (pc' := 7) V353 (i := 0) (by decide) (by decide) ga350 at_6 rfl (fun h354 W355 V356 => ?_)
  have Z357 : n0 ≤ h354.size := Nat.le_trans Z351 (Nat.le_of_eq (Wr.size W355).symm)
  have F358 : own_AI Z h354 a348 4 (own_upd (fun _ => (0 : Int32)) 0 p0) := V356
  refine own_dup C (pc' := 8) at_7 rfl rfl ?_
  refine own_iconst C (pc' := 9) (v := (1 : Int32)) at_8 rfl (by decide) ?_
  refine own_iloadN C (pc' := 10) at_9 rfl rfl ?_
  refine own_stI C (pc' := 11) F358 (i := 1) (by decide) (by decide) ga350 at_10 rfl (fun h359 W360 V361 => ?_)
  have Z362 : n0 ≤ h359.size := Nat.le_trans Z357 (Nat.le_of_eq (Wr.size W360).symm)
  have F363 : own_AI Z h359 a348 4 (own_upd (own_upd (fun _ => (0 : Int32)) 0 p0) 1 p1) := V361
  refine own_dup C (pc' := 12) at_11 rfl rfl ?_
  refine own_iconst C (pc' := 13) (v := (2 : Int32)) at_12 rfl (by decide) ?_
  refine own_iloadN C (pc' := 14) at_13 rfl rfl ?_
  refine own_stI C (pc' := 15) F363 (i := 2) (by decide) (by decide) ga350 at_14 rfl (fun h364 W365 V366 => ?_)
  have Z367 : n0 ≤ h364.size := Nat.le_trans Z362 (Nat.le_of_eq (Wr.size W365).symm)
  have F368 : own_AI Z h364 a348 4 (own_upd (own_upd (own_upd (fun _ => (0 : Int32)) 0 p0) 1 p1) 2 p2) := V366
  refine own_dup C (pc' := 16) at_15 rfl rfl ?_
  refine own_iconst C (pc' := 17) (v := (3 : Int32)) at_16 rfl (by decide) ?_
  refine own_iloadN C (pc' := 18) at_17 rfl rfl ?_
  refine own_stI C (pc' := 19) F368 (i := 3) (by decide) (by decide) ga350 at_18 rfl (fun h369 W370 V371 => ?_)
  have Z372 : n0 ≤ h369.size := Nat.le_trans Z367 (Nat.le_of_eq (Wr.size W370).symm)
  have F373 : own_AI Z h369 a348 4 (own_upd (own_upd (own_upd (own_upd (fun _ => (0 : Int32)) 0 p0) 1 p1) 2 p2) 3 p3) := V371
  refine own_astore C (pc' := 21) (Ls' := #[.val (.int p0), .val (.int p1), .val (.int p2), .val (.int p3), .val (.ref a348), .unset, .unset, .unset, .unset, .unset, .unset]) at_19 rfl rfl rfl ?_
  refine own_aload C (pc' := 23) at_21 rfl rfl rfl ?_
  refine own_iconst C (pc' := 24) (v := (0 : Int32)) at_23 rfl (by decide) ?_
  refine own_iconst C (pc' := 25) (v := (1 : Int32)) at_24 rfl (by decide) ?_
  refine own_callS C (pc' := 28) (y := (⟨"com/example/serialis/serialis/graph/IntMinHeapAddPinLaw", "cx", "([III)V"⟩ : MethodName)) (argsL := [(.ref a348), (.int (0 : Int32)), (.int (1 : Int32))]) (rest := []) 0 (hw _ (List.mem_of_getElem? (i := 1) rfl)) (hw _ (List.mem_of_getElem? (i := 2) rfl)) (hw _ (List.mem_of_getElem? (i := 3) rfl)) (hw _ (List.mem_of_getElem? (i := 4) rfl)) (by decide) (own_m1 hw a348 (own_upd (own_upd (own_upd (own_upd (fun _ => (0 : Int32)) 0 p0) 1 p1) 2 p2) 3 p3) (0 : Int32) (1 : Int32) 0 1 p0 p1 Z372 ga350 F373 (by decide) (by decide) (by decide) (by decide) (by decide) rfl rfl) (by decide) (by decide) (lenOf own_pd0 rfl) rfl (Nat.le_of_eq rfl) at_25 rfl rfl (by decide) (by decide) (fun v374 h375 hq376 => ?_)
  obtain ⟨y377, y378, rfl, K379, F380, g381, g382⟩ := hq376
  have Z384 : n0 ≤ h375.size := Nat.le_trans Z372 K379.1
  show own_Run p_ l e_ _ s_ m_ _ b_ mt_ c_ n0 _ h375 _ _ (mkF m_ 28 #[.val (.int p0), .val (.int p1), .val (.int p2), .val (.int p3), .val (.ref a348), .unset, .unset, .unset, .unset, .unset, .unset] [])
  refine own_aload C (pc' := 30) at_28 rfl rfl rfl ?_
  refine own_iconst C (pc' := 31) (v := (2 : Int32)) at_30 rfl (by decide) ?_
  refine own_iconst C (pc' := 32) (v := (3 : Int32)) at_31 rfl (by decide) ?_
  refine own_callS C (pc' := 35) (y := (⟨"com/example/serialis/serialis/graph/IntMinHeapAddPinLaw", "cx", "([III)V"⟩ : MethodName)) (argsL := [(.ref a348), (.int (2 : Int32)), (.int (3 : Int32))]) (rest := []) 0 (hw _ (List.mem_of_getElem? (i := 1) rfl)) (hw _ (List.mem_of_getElem? (i := 2) rfl)) (hw _ (List.mem_of_getElem? (i := 3) rfl)) (hw _ (List.mem_of_getElem? (i := 4) rfl)) (by decide) (own_m1 hw a348 (own_upd (own_upd (own_upd (own_upd (own_upd (own_upd (fun _ => (0 : Int32)) 0 p0) 1 p1) 2 p2) 3 p3) 0 y377) 1 y378) (2 : Int32) (3 : Int32) 2 3 p2 p3 Z384 ga350 F380 (by decide) (by decide) (by decide) (by decide) (by decide) rfl rfl) (by decide) (by decide) (lenOf own_pd0 rfl) rfl (Nat.le_of_eq rfl) at_32 rfl rfl (by decide) (by decide) (fun v385 h386 hq387 => ?_)
  obtain ⟨y388, y389, rfl, K390, F391, g392, g393⟩ := hq387
  have Z395 : n0 ≤ h386.size := Nat.le_trans Z384 K390.1
  show own_Run p_ l e_ _ s_ m_ _ b_ mt_ c_ n0 _ h386 _ _ (mkF m_ 35 #[.val (.int p0), .val (.int p1), .val (.int p2), .val (.int p3), .val (.ref a348), .unset, .unset, .unset, .unset, .unset, .unset] [])
  refine own_aload C (pc' := 37) at_35 rfl rfl rfl ?_
  refine own_iconst C (pc' := 38) (v := (0 : Int32)) at_37 rfl (by decide) ?_
  refine own_iconst C (pc' := 39) (v := (2 : Int32)) at_38 rfl (by decide) ?_
  refine own_callS C (pc' := 42) (y := (⟨"com/example/serialis/serialis/graph/IntMinHeapAddPinLaw", "cx", "([III)V"⟩ : MethodName)) (argsL := [(.ref a348), (.int (0 : Int32)), (.int (2 : Int32))]) (rest := []) 0 (hw _ (List.mem_of_getElem? (i := 1) rfl)) (hw _ (List.mem_of_getElem? (i := 2) rfl)) (hw _ (List.mem_of_getElem? (i := 3) rfl)) (hw _ (List.mem_of_getElem? (i := 4) rfl)) (by decide) (own_m1 hw a348 (own_upd (own_upd (own_upd (own_upd (own_upd (own_upd (own_upd (own_upd (fun _ => (0 : Int32)) 0 p0) 1 p1) 2 p2) 3 p3) 0 y377) 1 y378) 2 y388) 3 y389) (0 : Int32) (2 : Int32) 0 2 y377 y388 Z395 ga350 F391 (by decide) (by decide) (by decide) (by decide) (by decide) rfl rfl) (by decide) (by decide) (lenOf own_pd0 rfl) rfl (Nat.le_of_eq rfl) at_39 rfl rfl (by decide) (by decide) (fun v396 h397 hq398 => ?_)
  obtain ⟨y399, y400, rfl, K401, F402, g403, g404⟩ := hq398
  have Z406 : n0 ≤ h397.size := Nat.le_trans Z395 K401.1
  show own_Run p_ l e_ _ s_ m_ _ b_ mt_ c_ n0 _ h397 _ _ (mkF m_ 42 #[.val (.int p0), .val (.int p1), .val (.int p2), .val (.int p3), .val (.ref a348), .unset, .unset, .unset, .unset, .unset, .unset] [])
  refine own_aload C (pc' := 44) at_42 rfl rfl rfl ?_
  refine own_iconst C (pc' := 45) (v := (1 : Int32)) at_44 rfl (by decide) ?_
  refine own_iconst C (pc' := 46) (v := (3 : Int32)) at_45 rfl (by decide) ?_
  refine own_callS C (pc' := 49) (y := (⟨"com/example/serialis/serialis/graph/IntMinHeapAddPinLaw", "cx", "([III)V"⟩ : MethodName)) (argsL := [(.ref a348), (.int (1 : Int32)), (.int (3 : Int32))]) (rest := []) 0 (hw _ (List.mem_of_getElem? (i := 1) rfl)) (hw _ (List.mem_of_getElem? (i := 2) rfl)) (hw _ (List.mem_of_getElem? (i := 3) rfl)) (hw _ (List.mem_of_getElem? (i := 4) rfl)) (by decide) (own_m1 hw a348 (own_upd (own_upd (own_upd (own_upd (own_upd (own_upd (own_upd (own_upd (own_upd (own_upd (fun _ => (0 : Int32)) 0 p0) 1 p1) 2 p2) 3 p3) 0 y377) 1 y378) 2 y388) 3 y389) 0 y399) 2 y400) (1 : Int32) (3 : Int32) 1 3 y378 y389 Z406 ga350 F402 (by decide) (by decide) (by decide) (by decide) (by decide) rfl rfl) (by decide) (by decide) (lenOf own_pd0 rfl) rfl (Nat.le_of_eq rfl) at_46 rfl rfl (by decide) (by decide) (fun v407 h408 hq409 => ?_)
  obtain ⟨y410, y411, rfl, K412, F413, g414, g415⟩ := hq409
  have Z417 : n0 ≤ h408.size := Nat.le_trans Z406 K412.1
  show own_Run p_ l e_ _ s_ m_ _ b_ mt_ c_ n0 _ h408 _ _ (mkF m_ 49 #[.val (.int p0), .val (.int p1), .val (.int p2), .val (.int p3), .val (.ref a348), .unset, .unset, .unset, .unset, .unset, .unset] [])
  refine own_aload C (pc' := 51) at_49 rfl rfl rfl ?_
  refine own_iconst C (pc' := 52) (v := (1 : Int32)) at_51 rfl (by decide) ?_
  refine own_iconst C (pc' := 53) (v := (2 : Int32)) at_52 rfl (by decide) ?_
  refine own_callS C (pc' := 56) (y := (⟨"com/example/serialis/serialis/graph/IntMinHeapAddPinLaw", "cx", "([III)V"⟩ : MethodName)) (argsL := [(.ref a348), (.int (1 : Int32)), (.int (2 : Int32))]) (rest := []) 0 (hw _ (List.mem_of_getElem? (i := 1) rfl)) (hw _ (List.mem_of_getElem? (i := 2) rfl)) (hw _ (List.mem_of_getElem? (i := 3) rfl)) (hw _ (List.mem_of_getElem? (i := 4) rfl)) (by decide) (own_m1 hw a348 (own_upd (own_upd (own_upd (own_upd (own_upd (own_upd (own_upd (own_upd (own_upd (own_upd (own_upd (own_upd (fun _ => (0 : Int32)) 0 p0) 1 p1) 2 p2) 3 p3) 0 y377) 1 y378) 2 y388) 3 y389) 0 y399) 2 y400) 1 y410) 3 y411) (1 : Int32) (2 : Int32) 1 2 y410 y400 Z417 ga350 F413 (by decide) (by decide) (by decide) (by decide) (by decide) rfl rfl) (by decide) (by decide) (lenOf own_pd0 rfl) rfl (Nat.le_of_eq rfl) at_53 rfl rfl (by decide) (by decide) (fun v418 h419 hq420 => ?_)
  obtain ⟨y421, y422, rfl, K423, F424, g425, g426⟩ := hq420
  have Z428 : n0 ≤ h419.size := Nat.le_trans Z417 K423.1
  show own_Run p_ l e_ _ s_ m_ _ b_ mt_ c_ n0 _ h419 _ _ (mkF m_ 56 #[.val (.int p0), .val (.int p1), .val (.int p2), .val (.int p3), .val (.ref a348), .unset, .unset, .unset, .unset, .unset, .unset] [])
  refine own_new C (pc' := 59) (hw _ (List.mem_of_getElem? (i := 5) rfl)) (hw _ (List.mem_of_getElem? (i := 6) rfl)) (hw _ (List.mem_of_getElem? (i := 7) rfl)) Z428 at_56 rfl (by decide) (by decide) (fun h429 a430 ea431 ga432 Z433 E434 A435 D436 => ?_)
  have ne437 : a348 ≠ a430 := by rw [ea431]; exact Nat.ne_of_lt (own_A.lt F424)
  have F438 : own_AI Z h429 a348 4 (own_upd (own_upd (own_upd (own_upd (own_upd (own_upd (own_upd (own_upd (own_upd (own_upd (own_upd (own_upd (own_upd (own_upd (fun _ => (0 : Int32)) 0 p0) 1 p1) 2 p2) 3 p3) 0 y377) 1 y378) 2 y388) 3 y389) 0 y399) 2 y400) 1 y410) 3 y411) 1 y421) 2 y422) := own_A.ext F424 E434
  have F439 : Fld Z h429 a430 "com/example/serialis/serialis/graph/IntMinHeap" "heap" "[I" .null := D436 (Or.inr (hw _ (List.mem_of_getElem? (i := 15) rfl))) (ty := (.array .int)) (by decide)
  have F440 : Fld Z h429 a430 "com/example/serialis/serialis/graph/IntMinHeap" "size" "I" (.int (0 : Int32)) := D436 (Or.inl (hw _ (List.mem_of_getElem? (i := 22) rfl))) (ty := .int) (by decide)
  refine own_dup C (pc' := 60) at_59 rfl rfl ?_
  refine own_iconst C (pc' := 61) (v := (4 : Int32)) at_60 rfl (by decide) ?_
  refine own_callN C (pc' := 64) (y := (⟨"com/example/serialis/serialis/graph/IntMinHeap", "<init>", "(I)V"⟩ : MethodName)) (a := a430) (argsL := [(.int (4 : Int32))]) (rest := [(.ref a430)]) 1 rfl (hw _ (List.mem_of_getElem? (i := 8) rfl)) (hw _ (List.mem_of_getElem? (i := 9) rfl)) (hw _ (List.mem_of_getElem? (i := 10) rfl)) (hw _ (List.mem_of_getElem? (i := 7) rfl)) (by decide) (own_m2 hw a430 Z433 A435 ga432 F439 F440 ) (by decide) (by decide) (lenOf own_pd1 rfl) rfl (Nat.le_of_eq rfl) at_61 rfl rfl (by decide) (by decide) (fun v441 h442 hq443 => ?_)
  obtain ⟨a444, rfl, K445, ⟨ga446, gk447⟩, F448, F449, F450, F451, F452⟩ := hq443
  have ne453 : a348 ≠ a444 := Nat.ne_of_lt (Nat.lt_of_lt_of_le (own_A.lt F438) gk447)
  have ne454 : a430 ≠ a444 := Nat.ne_of_lt (Nat.lt_of_lt_of_le (Exa.lt A435) gk447)
  have Z456 : n0 ≤ h442.size := Nat.le_trans Z433 K445.1
  have F457 : own_AI Z h442 a348 4 (own_upd (own_upd (own_upd (own_upd (own_upd (own_upd (own_upd (own_upd (own_upd (own_upd (own_upd (own_upd (own_upd (own_upd (fun _ => (0 : Int32)) 0 p0) 1 p1) 2 p2) 3 p3) 0 y377) 1 y378) 2 y388) 3 y389) 0 y399) 2 y400) 1 y410) 3 y411) 1 y421) 2 y422) := own_A.keep F438 K445 (ninS ne437 nin0)
  have F458 : Exa Z h442 a430 "com/example/serialis/serialis/graph/IntMinHeap" := Exa.keep A435 K445
  show own_Run p_ l e_ _ s_ m_ _ b_ mt_ c_ n0 _ h442 _ _ (mkF m_ 64 #[.val (.int p0), .val (.int p1), .val (.int p2), .val (.int p3), .val (.ref a348), .unset, .unset, .unset, .unset, .unset, .unset] [(.ref a430)])
  refine own_astore C (pc' := 66) (Ls' := #[.val (.int p0), .val (.int p1), .val (.int p2), .val (.int p3), .val (.ref a348), .val (.ref a430), .unset, .unset, .unset, .unset, .unset]) at_64 rfl rfl rfl ?_
  refine own_aload C (pc' := 68) at_66 rfl rfl rfl ?_
  refine own_iloadN C (pc' := 69) at_68 rfl rfl ?_
  refine own_callV C (pc' := 72) (y := (⟨"com/example/serialis/serialis/graph/IntMinHeap", "add", "(I)V"⟩ : MethodName)) (a := a430) (argsL := [(.int p0)]) (rest := []) 0 F448 (hw _ (List.mem_of_getElem? (i := 16) rfl)) (hw _ (List.mem_of_getElem? (i := 17) rfl)) (hw _ (List.mem_of_getElem? (i := 19) rfl)) (hw _ (List.mem_of_getElem? (i := 18) rfl)) (hw _ (List.mem_of_getElem? (i := 20) rfl)) (hw _ (List.mem_of_getElem? (i := 7) rfl)) (by decide) (own_add0 hw a430 a444 (fun _ => (0 : Int32)) p0 Z456 F448 ga432 ga446 ne454 F449 F450 F451 (fun i hi => absurd hi (Nat.not_lt_zero i))) (by decide) (by decide) (lenOf own_pd1 rfl) rfl (Nat.le_of_eq rfl) at_69 rfl rfl (by decide) (by decide) (fun v459 h460 hq461 => ?_)
  obtain ⟨y462, rfl, K463, F464, F465, F466, F467, g468, g469⟩ := hq461
  have Z471 : n0 ≤ h460.size := Nat.le_trans Z456 K463.1
  have F472 : own_AI Z h460 a348 4 (own_upd (own_upd (own_upd (own_upd (own_upd (own_upd (own_upd (own_upd (own_upd (own_upd (own_upd (own_upd (own_upd (own_upd (fun _ => (0 : Int32)) 0 p0) 1 p1) 2 p2) 3 p3) 0 y377) 1 y378) 2 y388) 3 y389) 0 y399) 2 y400) 1 y410) 3 y411) 1 y421) 2 y422) := own_A.keep F457 K463 (ninS ne437 (ninS ne453 nin0))
  have F473 : Exa Z h460 a430 "com/example/serialis/serialis/graph/IntMinHeap" := Exa.keep F448 K463
  show own_Run p_ l e_ _ s_ m_ _ b_ mt_ c_ n0 _ h460 _ _ (mkF m_ 72 #[.val (.int p0), .val (.int p1), .val (.int p2), .val (.int p3), .val (.ref a348), .val (.ref a430), .unset, .unset, .unset, .unset, .unset] [])
  refine own_aload C (pc' := 74) at_72 rfl rfl rfl ?_
  refine own_iloadN C (pc' := 75) at_74 rfl rfl ?_
  refine own_callV C (pc' := 78) (y := (⟨"com/example/serialis/serialis/graph/IntMinHeap", "add", "(I)V"⟩ : MethodName)) (a := a430) (argsL := [(.int p1)]) (rest := []) 0 F464 (hw _ (List.mem_of_getElem? (i := 16) rfl)) (hw _ (List.mem_of_getElem? (i := 17) rfl)) (hw _ (List.mem_of_getElem? (i := 19) rfl)) (hw _ (List.mem_of_getElem? (i := 18) rfl)) (hw _ (List.mem_of_getElem? (i := 20) rfl)) (hw _ (List.mem_of_getElem? (i := 7) rfl)) (by decide) (own_add1 hw a430 a444 y462 p1 Z471 F464 ga432 ga446 ne454 F465 F466 F467 g468) (by decide) (by decide) (lenOf own_pd1 rfl) rfl (Nat.le_of_eq rfl) at_75 rfl rfl (by decide) (by decide) (fun v474 h475 hq476 => ?_)
  obtain ⟨y477, rfl, K478, F479, F480, F481, F482, g483, g484⟩ := hq476
  have Z486 : n0 ≤ h475.size := Nat.le_trans Z471 K478.1
  have F487 : own_AI Z h475 a348 4 (own_upd (own_upd (own_upd (own_upd (own_upd (own_upd (own_upd (own_upd (own_upd (own_upd (own_upd (own_upd (own_upd (own_upd (fun _ => (0 : Int32)) 0 p0) 1 p1) 2 p2) 3 p3) 0 y377) 1 y378) 2 y388) 3 y389) 0 y399) 2 y400) 1 y410) 3 y411) 1 y421) 2 y422) := own_A.keep F472 K478 (ninS ne437 (ninS ne453 nin0))
  have F488 : Exa Z h475 a430 "com/example/serialis/serialis/graph/IntMinHeap" := Exa.keep F464 K478
  show own_Run p_ l e_ _ s_ m_ _ b_ mt_ c_ n0 _ h475 _ _ (mkF m_ 78 #[.val (.int p0), .val (.int p1), .val (.int p2), .val (.int p3), .val (.ref a348), .val (.ref a430), .unset, .unset, .unset, .unset, .unset] [])
  refine own_aload C (pc' := 80) at_78 rfl rfl rfl ?_
  refine own_iloadN C (pc' := 81) at_80 rfl rfl ?_
  refine own_callV C (pc' := 84) (y := (⟨"com/example/serialis/serialis/graph/IntMinHeap", "add", "(I)V"⟩ : MethodName)) (a := a430) (argsL := [(.int p2)]) (rest := []) 0 F479 (hw _ (List.mem_of_getElem? (i := 16) rfl)) (hw _ (List.mem_of_getElem? (i := 17) rfl)) (hw _ (List.mem_of_getElem? (i := 19) rfl)) (hw _ (List.mem_of_getElem? (i := 18) rfl)) (hw _ (List.mem_of_getElem? (i := 20) rfl)) (hw _ (List.mem_of_getElem? (i := 7) rfl)) (by decide) (own_add2 hw a430 a444 y477 p2 Z486 F479 ga432 ga446 ne454 F480 F481 F482 g483) (by decide) (by decide) (lenOf own_pd1 rfl) rfl (Nat.le_of_eq rfl) at_81 rfl rfl (by decide) (by decide) (fun v489 h490 hq491 => ?_)
  obtain ⟨y492, rfl, K493, F494, F495, F496, F497, g498, g499⟩ := hq491
  have Z501 : n0 ≤ h490.size := Nat.le_trans Z486 K493.1
  have F502 : own_AI Z h490 a348 4 (own_upd (own_upd (own_upd (own_upd (own_upd (own_upd (own_upd (own_upd (own_upd (own_upd (own_upd (own_upd (own_upd (own_upd (fun _ => (0 : Int32)) 0 p0) 1 p1) 2 p2) 3 p3) 0 y377) 1 y378) 2 y388) 3 y389) 0 y399) 2 y400) 1 y410) 3 y411) 1 y421) 2 y422) := own_A.keep F487 K493 (ninS ne437 (ninS ne453 nin0))
  have F503 : Exa Z h490 a430 "com/example/serialis/serialis/graph/IntMinHeap" := Exa.keep F479 K493
  show own_Run p_ l e_ _ s_ m_ _ b_ mt_ c_ n0 _ h490 _ _ (mkF m_ 84 #[.val (.int p0), .val (.int p1), .val (.int p2), .val (.int p3), .val (.ref a348), .val (.ref a430), .unset, .unset, .unset, .unset, .unset] [])
  refine own_aload C (pc' := 86) at_84 rfl rfl rfl ?_
  refine own_iloadN C (pc' := 87) at_86 rfl rfl ?_
  refine own_callV C (pc' := 90) (y := (⟨"com/example/serialis/serialis/graph/IntMinHeap", "add", "(I)V"⟩ : MethodName)) (a := a430) (argsL := [(.int p3)]) (rest := []) 0 F494 (hw _ (List.mem_of_getElem? (i := 16) rfl)) (hw _ (List.mem_of_getElem? (i := 17) rfl)) (hw _ (List.mem_of_getElem? (i := 19) rfl)) (hw _ (List.mem_of_getElem? (i := 18) rfl)) (hw _ (List.mem_of_getElem? (i := 20) rfl)) (hw _ (List.mem_of_getElem? (i := 7) rfl)) (by decide) (own_add3 hw a430 a444 y492 p3 Z501 F494 ga432 ga446 ne454 F495 F496 F497 g498) (by decide) (by decide) (lenOf own_pd1 rfl) rfl (Nat.le_of_eq rfl) at_87 rfl rfl (by decide) (by decide) (fun v504 h505 hq506 => ?_)
  obtain ⟨y507, rfl, K508, F509, F510, F511, F512, g513, g514⟩ := hq506
  have Z516 : n0 ≤ h505.size := Nat.le_trans Z501 K508.1
  have F517 : own_AI Z h505 a348 4 (own_upd (own_upd (own_upd (own_upd (own_upd (own_upd (own_upd (own_upd (own_upd (own_upd (own_upd (own_upd (own_upd (own_upd (fun _ => (0 : Int32)) 0 p0) 1 p1) 2 p2) 3 p3) 0 y377) 1 y378) 2 y388) 3 y389) 0 y399) 2 y400) 1 y410) 3 y411) 1 y421) 2 y422) := own_A.keep F502 K508 (ninS ne437 (ninS ne453 nin0))
  have F518 : Exa Z h505 a430 "com/example/serialis/serialis/graph/IntMinHeap" := Exa.keep F494 K508
  show own_Run p_ l e_ _ s_ m_ _ b_ mt_ c_ n0 _ h505 _ _ (mkF m_ 90 #[.val (.int p0), .val (.int p1), .val (.int p2), .val (.int p3), .val (.ref a348), .val (.ref a430), .unset, .unset, .unset, .unset, .unset] [])
  refine own_aload C (pc' := 92) at_90 rfl rfl rfl ?_
  refine own_callV C (pc' := 95) (y := (⟨"com/example/serialis/serialis/graph/IntMinHeap", "isEmpty", "()Z"⟩ : MethodName)) (a := a430) (argsL := []) (rest := []) 0 F509 (hw _ (List.mem_of_getElem? (i := 23) rfl)) (hw _ (List.mem_of_getElem? (i := 24) rfl)) (hw _ (List.mem_of_getElem? (i := 26) rfl)) (hw _ (List.mem_of_getElem? (i := 25) rfl)) (hw _ (List.mem_of_getElem? (i := 27) rfl)) (hw _ (List.mem_of_getElem? (i := 7) rfl)) (by decide) (own_m5 hw a430 (4 : Int32) (0 : Int32) Z516 F511 (by decide)) (by decide) (by decide) (lenOf own_pd2 rfl) rfl (Nat.le_of_eq rfl) at_92 rfl rfl (by decide) (by decide) (fun v519 h520 hq521 => ?_)
  obtain ⟨rfl, rfl⟩ := hq521
  show own_Run p_ l e_ _ s_ m_ _ b_ mt_ c_ n0 _ h505 _ _ (mkF m_ 95 #[.val (.int p0), .val (.int p1), .val (.int p2), .val (.int p3), .val (.ref a348), .val (.ref a430), .unset, .unset, .unset, .unset, .unset] [(.int (0 : Int32))])
  refine own_i0_ne C (pc1 := 102) (pc2 := 98) at_95 rfl rfl (fun c522 => absurd c522 (by decide)) (fun c522 => ?_)
  refine own_iconst C (pc' := 99) (v := (1 : Int32)) at_98 rfl (by decide) ?_
  refine own_goto C (pc' := 103) at_99 rfl ?_
  refine own_istore C (pc' := 105) (Ls' := #[.val (.int p0), .val (.int p1), .val (.int p2), .val (.int p3), .val (.ref a348), .val (.ref a430), .val (.int (1 : Int32)), .unset, .unset, .unset, .unset]) at_103 rfl rfl ?_
  refine own_aload C (pc' := 107) at_105 rfl rfl rfl ?_
  refine own_callV C (pc' := 110) (y := (⟨"com/example/serialis/serialis/graph/IntMinHeap", "removeSmallest", "()I"⟩ : MethodName)) (a := a430) (argsL := []) (rest := []) 0 F509 (hw _ (List.mem_of_getElem? (i := 28) rfl)) (hw _ (List.mem_of_getElem? (i := 29) rfl)) (hw _ (List.mem_of_getElem? (i := 31) rfl)) (hw _ (List.mem_of_getElem? (i := 30) rfl)) (hw _ (List.mem_of_getElem? (i := 32) rfl)) (hw _ (List.mem_of_getElem? (i := 7) rfl)) (by decide) (own_rem4 hw a430 a444 y507 Z516 F509 ga432 ga446 ne454 F510 F511 F512 g513) (by decide) (by decide) (lenOf own_pd3 rfl) rfl (Nat.le_of_eq rfl) at_107 rfl rfl (by decide) (by decide) (fun v523 h524 hq525 => ?_)
  obtain ⟨y526, rfl, K527, F528, F529, F530, F531, g532, g533, g534⟩ := hq525
  have Z536 : n0 ≤ h524.size := Nat.le_trans Z516 K527.1
  have F537 : own_AI Z h524 a348 4 (own_upd (own_upd (own_upd (own_upd (own_upd (own_upd (own_upd (own_upd (own_upd (own_upd (own_upd (own_upd (own_upd (own_upd (fun _ => (0 : Int32)) 0 p0) 1 p1) 2 p2) 3 p3) 0 y377) 1 y378) 2 y388) 3 y389) 0 y399) 2 y400) 1 y410) 3 y411) 1 y421) 2 y422) := own_A.keep F517 K527 (ninS ne437 (ninS ne453 nin0))
  have F538 : Exa Z h524 a430 "com/example/serialis/serialis/graph/IntMinHeap" := Exa.keep F509 K527
  show own_Run p_ l e_ _ s_ m_ _ b_ mt_ c_ n0 _ h524 _ _ (mkF m_ 110 #[.val (.int p0), .val (.int p1), .val (.int p2), .val (.int p3), .val (.ref a348), .val (.ref a430), .val (.int (1 : Int32)), .unset, .unset, .unset, .unset] [(.int (y507 0))])
  refine own_istore C (pc' := 112) (Ls' := #[.val (.int p0), .val (.int p1), .val (.int p2), .val (.int p3), .val (.ref a348), .val (.ref a430), .val (.int (1 : Int32)), .val (.int (y507 0)), .unset, .unset, .unset]) at_110 rfl rfl ?_
  refine own_aload C (pc' := 114) at_112 rfl rfl rfl ?_
  refine own_callV C (pc' := 117) (y := (⟨"com/example/serialis/serialis/graph/IntMinHeap", "removeSmallest", "()I"⟩ : MethodName)) (a := a430) (argsL := []) (rest := []) 0 F528 (hw _ (List.mem_of_getElem? (i := 28) rfl)) (hw _ (List.mem_of_getElem? (i := 29) rfl)) (hw _ (List.mem_of_getElem? (i := 31) rfl)) (hw _ (List.mem_of_getElem? (i := 30) rfl)) (hw _ (List.mem_of_getElem? (i := 32) rfl)) (hw _ (List.mem_of_getElem? (i := 7) rfl)) (by decide) (own_rem3 hw a430 a444 y526 Z536 F528 ga432 ga446 ne454 F529 F530 F531 g532) (by decide) (by decide) (lenOf own_pd3 rfl) rfl (Nat.le_of_eq rfl) at_114 rfl rfl (by decide) (by decide) (fun v539 h540 hq541 => ?_)
  obtain ⟨y542, rfl, K543, F544, F545, F546, F547, g548, g549, g550⟩ := hq541
  have Z552 : n0 ≤ h540.size := Nat.le_trans Z536 K543.1
  have F553 : own_AI Z h540 a348 4 (own_upd (own_upd (own_upd (own_upd (own_upd (own_upd (own_upd (own_upd (own_upd (own_upd (own_upd (own_upd (own_upd (own_upd (fun _ => (0 : Int32)) 0 p0) 1 p1) 2 p2) 3 p3) 0 y377) 1 y378) 2 y388) 3 y389) 0 y399) 2 y400) 1 y410) 3 y411) 1 y421) 2 y422) := own_A.keep F537 K543 (ninS ne437 (ninS ne453 nin0))
  have F554 : Exa Z h540 a430 "com/example/serialis/serialis/graph/IntMinHeap" := Exa.keep F528 K543
  show own_Run p_ l e_ _ s_ m_ _ b_ mt_ c_ n0 _ h540 _ _ (mkF m_ 117 #[.val (.int p0), .val (.int p1), .val (.int p2), .val (.int p3), .val (.ref a348), .val (.ref a430), .val (.int (1 : Int32)), .val (.int (y507 0)), .unset, .unset, .unset] [(.int (y526 0))])
  refine own_istore C (pc' := 119) (Ls' := #[.val (.int p0), .val (.int p1), .val (.int p2), .val (.int p3), .val (.ref a348), .val (.ref a430), .val (.int (1 : Int32)), .val (.int (y507 0)), .val (.int (y526 0)), .unset, .unset]) at_117 rfl rfl ?_
  refine own_aload C (pc' := 121) at_119 rfl rfl rfl ?_
  refine own_callV C (pc' := 124) (y := (⟨"com/example/serialis/serialis/graph/IntMinHeap", "removeSmallest", "()I"⟩ : MethodName)) (a := a430) (argsL := []) (rest := []) 0 F544 (hw _ (List.mem_of_getElem? (i := 28) rfl)) (hw _ (List.mem_of_getElem? (i := 29) rfl)) (hw _ (List.mem_of_getElem? (i := 31) rfl)) (hw _ (List.mem_of_getElem? (i := 30) rfl)) (hw _ (List.mem_of_getElem? (i := 32) rfl)) (hw _ (List.mem_of_getElem? (i := 7) rfl)) (by decide) (own_rem2 hw a430 a444 y542 Z552 F544 ga432 ga446 ne454 F545 F546 F547 g548) (by decide) (by decide) (lenOf own_pd3 rfl) rfl (Nat.le_of_eq rfl) at_121 rfl rfl (by decide) (by decide) (fun v555 h556 hq557 => ?_)
  obtain ⟨y558, rfl, K559, F560, F561, F562, F563, g564, g565, g566⟩ := hq557
  have Z568 : n0 ≤ h556.size := Nat.le_trans Z552 K559.1
  have F569 : own_AI Z h556 a348 4 (own_upd (own_upd (own_upd (own_upd (own_upd (own_upd (own_upd (own_upd (own_upd (own_upd (own_upd (own_upd (own_upd (own_upd (fun _ => (0 : Int32)) 0 p0) 1 p1) 2 p2) 3 p3) 0 y377) 1 y378) 2 y388) 3 y389) 0 y399) 2 y400) 1 y410) 3 y411) 1 y421) 2 y422) := own_A.keep F553 K559 (ninS ne437 (ninS ne453 nin0))
  have F570 : Exa Z h556 a430 "com/example/serialis/serialis/graph/IntMinHeap" := Exa.keep F544 K559
  show own_Run p_ l e_ _ s_ m_ _ b_ mt_ c_ n0 _ h556 _ _ (mkF m_ 124 #[.val (.int p0), .val (.int p1), .val (.int p2), .val (.int p3), .val (.ref a348), .val (.ref a430), .val (.int (1 : Int32)), .val (.int (y507 0)), .val (.int (y526 0)), .unset, .unset] [(.int (y542 0))])
  refine own_istore C (pc' := 126) (Ls' := #[.val (.int p0), .val (.int p1), .val (.int p2), .val (.int p3), .val (.ref a348), .val (.ref a430), .val (.int (1 : Int32)), .val (.int (y507 0)), .val (.int (y526 0)), .val (.int (y542 0)), .unset]) at_124 rfl rfl ?_
  refine own_aload C (pc' := 128) at_126 rfl rfl rfl ?_
  refine own_callV C (pc' := 131) (y := (⟨"com/example/serialis/serialis/graph/IntMinHeap", "removeSmallest", "()I"⟩ : MethodName)) (a := a430) (argsL := []) (rest := []) 0 F560 (hw _ (List.mem_of_getElem? (i := 28) rfl)) (hw _ (List.mem_of_getElem? (i := 29) rfl)) (hw _ (List.mem_of_getElem? (i := 31) rfl)) (hw _ (List.mem_of_getElem? (i := 30) rfl)) (hw _ (List.mem_of_getElem? (i := 32) rfl)) (hw _ (List.mem_of_getElem? (i := 7) rfl)) (by decide) (own_rem1 hw a430 a444 y558 Z568 F560 ga432 ga446 ne454 F561 F562 F563 g564) (by decide) (by decide) (lenOf own_pd3 rfl) rfl (Nat.le_of_eq rfl) at_128 rfl rfl (by decide) (by decide) (fun v571 h572 hq573 => ?_)
  obtain ⟨y574, rfl, K575, F576, F577, F578, F579, g580, g581, g582⟩ := hq573
  have Z584 : n0 ≤ h572.size := Nat.le_trans Z568 K575.1
  have F585 : own_AI Z h572 a348 4 (own_upd (own_upd (own_upd (own_upd (own_upd (own_upd (own_upd (own_upd (own_upd (own_upd (own_upd (own_upd (own_upd (own_upd (fun _ => (0 : Int32)) 0 p0) 1 p1) 2 p2) 3 p3) 0 y377) 1 y378) 2 y388) 3 y389) 0 y399) 2 y400) 1 y410) 3 y411) 1 y421) 2 y422) := own_A.keep F569 K575 (ninS ne437 (ninS ne453 nin0))
  have F586 : Exa Z h572 a430 "com/example/serialis/serialis/graph/IntMinHeap" := Exa.keep F560 K575
  show own_Run p_ l e_ _ s_ m_ _ b_ mt_ c_ n0 _ h572 _ _ (mkF m_ 131 #[.val (.int p0), .val (.int p1), .val (.int p2), .val (.int p3), .val (.ref a348), .val (.ref a430), .val (.int (1 : Int32)), .val (.int (y507 0)), .val (.int (y526 0)), .val (.int (y542 0)), .unset] [(.int (y558 0))])
  refine own_istore C (pc' := 133) (Ls' := #[.val (.int p0), .val (.int p1), .val (.int p2), .val (.int p3), .val (.ref a348), .val (.ref a430), .val (.int (1 : Int32)), .val (.int (y507 0)), .val (.int (y526 0)), .val (.int (y542 0)), .val (.int (y558 0))]) at_131 rfl rfl ?_
  have so1 : own_so [(y507 0), (y526 0), (y542 0), (y558 0)] := own_chain4 ⟨g534, g550, g566⟩
  have so2 : own_so [y399, y421, y422, y411] := own_chain4 (own_net g381 g392 g403 g414 g425 g382 g393 g404 g415 g426)
  have hc : ∀ v, own_lc [(y507 0), (y526 0), (y542 0), (y558 0)] v = own_lc [y399, y421, y422, y411] v := by
    intro v
    have q0 := g469 v
    have q1 := g484 v
    have q2 := g499 v
    have q3 := g514 v
    have q4 := g533 v
    have q5 := g549 v
    have q6 := g565 v
    have q7 := g581 v
    have t0 := own_sw g382 v
    have t1 := own_sw g393 v
    have t2 := own_sw g404 v
    have t3 := own_sw g415 v
    have t4 := own_sw g426 v
    show (own_one (y507 0) v + (own_one (y526 0) v + (own_one (y542 0) v + (own_one (y558 0) v + 0)))) = (own_one y399 v + (own_one y421 v + (own_one y422 v + (own_one y411 v + 0))))
    simp only [own_cnt] at *; omega
  have he := own_uniq _ _ so1 so2 hc
  simp only [List.cons.injEq, and_true] at he
  obtain ⟨he0, he1, he2, he3⟩ := he
  refine own_iload C (pc' := 135) at_133 rfl rfl ?_
  refine own_i0_eq C (pc1 := 186) (pc2 := 138) at_135 rfl rfl (fun c587 => absurd c587 (by decide)) (fun c587 => ?_)
  refine own_iload C (pc' := 140) at_138 rfl rfl ?_
  refine own_aload C (pc' := 142) at_140 rfl rfl rfl ?_
  refine own_iconst C (pc' := 143) (v := (0 : Int32)) at_142 rfl (by decide) ?_
  refine own_ldIV C (pc' := 144) F585 (i := 0) (v := y399) (by decide) (by decide) rfl at_143 rfl ?_
  refine own_ii_ne C (pc1 := 186) (pc2 := 147) at_144 rfl rfl (fun c588 => absurd c588 (not_not_intro he0)) (fun c588 => ?_)
  refine own_iload C (pc' := 149) at_147 rfl rfl ?_
  refine own_aload C (pc' := 151) at_149 rfl rfl rfl ?_
  refine own_iconst C (pc' := 152) (v := (1 : Int32)) at_151 rfl (by decide) ?_
  refine own_ldIV C (pc' := 153) F585 (i := 1) (v := y421) (by decide) (by decide) rfl at_152 rfl ?_
  refine own_ii_ne C (pc1 := 186) (pc2 := 156) at_153 rfl rfl (fun c589 => absurd c589 (not_not_intro he1)) (fun c589 => ?_)
  refine own_iload C (pc' := 158) at_156 rfl rfl ?_
  refine own_aload C (pc' := 160) at_158 rfl rfl rfl ?_
  refine own_iconst C (pc' := 161) (v := (2 : Int32)) at_160 rfl (by decide) ?_
  refine own_ldIV C (pc' := 162) F585 (i := 2) (v := y422) (by decide) (by decide) rfl at_161 rfl ?_
  refine own_ii_ne C (pc1 := 186) (pc2 := 165) at_162 rfl rfl (fun c590 => absurd c590 (not_not_intro he2)) (fun c590 => ?_)
  refine own_iload C (pc' := 167) at_165 rfl rfl ?_
  refine own_aload C (pc' := 169) at_167 rfl rfl rfl ?_
  refine own_iconst C (pc' := 170) (v := (3 : Int32)) at_169 rfl (by decide) ?_
  refine own_ldIV C (pc' := 171) F585 (i := 3) (v := y411) (by decide) (by decide) rfl at_170 rfl ?_
  refine own_ii_ne C (pc1 := 186) (pc2 := 174) at_171 rfl rfl (fun c591 => absurd c591 (not_not_intro he3)) (fun c591 => ?_)
  refine own_aload C (pc' := 176) at_174 rfl rfl rfl ?_
  refine own_callV C (pc' := 179) (y := (⟨"com/example/serialis/serialis/graph/IntMinHeap", "isEmpty", "()Z"⟩ : MethodName)) (a := a430) (argsL := []) (rest := []) 0 F576 (hw _ (List.mem_of_getElem? (i := 23) rfl)) (hw _ (List.mem_of_getElem? (i := 24) rfl)) (hw _ (List.mem_of_getElem? (i := 26) rfl)) (hw _ (List.mem_of_getElem? (i := 25) rfl)) (hw _ (List.mem_of_getElem? (i := 27) rfl)) (hw _ (List.mem_of_getElem? (i := 7) rfl)) (by decide) (own_m5 hw a430 (0 : Int32) (1 : Int32) Z584 F578 (by decide)) (by decide) (by decide) (lenOf own_pd2 rfl) rfl (Nat.le_of_eq rfl) at_176 rfl rfl (by decide) (by decide) (fun v592 h593 hq594 => ?_)
  obtain ⟨rfl, rfl⟩ := hq594
  show own_Run p_ l e_ _ s_ m_ _ b_ mt_ c_ n0 _ h572 _ _ (mkF m_ 179 #[.val (.int p0), .val (.int p1), .val (.int p2), .val (.int p3), .val (.ref a348), .val (.ref a430), .val (.int (1 : Int32)), .val (.int (y507 0)), .val (.int (y526 0)), .val (.int (y542 0)), .val (.int (y558 0))] [(.int (1 : Int32))])
  refine own_i0_eq C (pc1 := 186) (pc2 := 182) at_179 rfl rfl (fun c595 => absurd c595 (by decide)) (fun c595 => ?_)
  refine own_iconst C (pc' := 183) (v := (1 : Int32)) at_182 rfl (by decide) ?_
  refine own_goto C (pc' := 187) at_183 rfl ?_
  exact own_ret C (t := .boolean) rfl rfl (Or.inl ⟨rfl, by simp, _, rfl⟩) at_187 (by decide) (by decide) (rfl)
set_option maxRecDepth 65536 in
set_option maxHeartbeats 40000000 in
theorem own_comes {Post : Tables → Env → Array Value → State → Outcome → State → Prop} (hpost : ∀ tb e args s v u, (limb_1_1.after args s (.returned v) u = true ∧ limb_1_2.after args s (.returned v) u = true ∧ True) → FrameEnd s (.returned v) u (Jvm.fieldLocs frame_1_writes args s ++ Jvm.arrayLocs frame_1_arrays args s ++ Jvm.staticLocs frame_1_statics s) 16 128 → Post tb e args s (.returned v) u) :
    ArmFor flags0 classFile x code maxLocals ret World_1 tables_1 room_1 Calls_1 rest_1 Pre_1 Post := by
  intro l hfl _ _ p e ha hc hk s m args below hf hA hF happ hP
  obtain ⟨hcalls, hrest, hpre⟩ := hP
  obtain ⟨-, -, -, hnamed, -, -, -, hat⟩ := (Spec.applies_iff hf).mp happ
  obtain ⟨hg, hn⟩ := and_e (Cond.before_iff.mp (show (Jvm.Cond.and given_1 narrow_1).before args s = true from hpre))
  obtain ⟨g0, r0⟩ := and_e hg
  obtain ⟨q0, r1⟩ := and_e r0
  obtain ⟨q1, r2⟩ := and_e r1
  obtain ⟨q2, r3⟩ := and_e r2
  obtain ⟨w0, w1, w2, w3, rfl⟩ : ∃ w0 w1 w2 w3 : Value, args = #[w0, w1, w2, w3] := by
    have hs : args.size = 4 := by simpa [Cond.value, given_1] using g0
    obtain ⟨L⟩ := args
    match L, hs with
    | [w0, w1, w2, w3], _ => exact ⟨w0, w1, w2, w3, rfl⟩
  have hw := fun d (hd : d ∈ tables_1) => atoms_spec (ws := Jvm.Cond.code x code maxLocals ret :: tables_1) hat d (List.mem_cons_of_mem _ hd)
  obtain ⟨i0, ei0⟩ := is_v q0
  obtain rfl : w0 = (.int i0) := Option.some.inj ei0
  obtain ⟨i1, ei1⟩ := is_v q1
  obtain rfl : w1 = (.int i1) := Option.some.inj ei1
  obtain ⟨i2, ei2⟩ := is_v q2
  obtain rfl : w2 = (.int i2) := Option.some.inj ei2
  obtain ⟨i3, ei3⟩ := is_v r3
  obtain rfl : w3 = (.int i3) := Option.some.inj ei3
  obtain ⟨n, o, h1, h2, h3, _, L, rfl, ⟨N, rfl⟩, hq⟩ := own_law (l := l) (Z := s) hw (n0 := s.heap.size) (ws := tables_1) (h := s.heap) i0 i1 i2 i3 (Nat.le_refl _)  p e ha hc hk s m _ below hf ((Spec.applies_iff_loose hf).mp happ).1 ⟨rfl, State.Warmed39.refl s, rfl⟩ trivial
  refine ⟨n, _, h1, h2, h3, hpost _ _ _ _ _ _ ⟨Cond.after_iff.mpr rfl, Cond.after_iff.mpr (eq_i res_at (Term.int_eval (1)) rfl), trivial⟩ ⟨hq.1, hq.2.1, (hq.2.2.sift fun y hy => Or.inr (N y hy)).mono (by decide) (by decide)⟩⟩
theorem main_1_1 : Claimed_1_1 := own_comes fun _ _ _ _ _ _ h hF => ⟨h.1, hF⟩
theorem main_1_2 : Claimed_1_2 := own_comes fun _ _ _ _ _ _ h hF => ⟨h.2.1, hF⟩
end Jvm.Pilot.@@N@@
namespace Jvm.Pilot.@@N@@
open Jvm Jvm.ClassFile Sem Op Lib Jvm.Free Jvm.Stand Jvm.Pilot.@@N@@.Jvm.D
/-! MADE BY PROGRAM (witnessworld.py) out of the Statement's table words and the real class files: 9 classes; the members and pool entries that the words name. The judged class is class 1, her method 2. -/
namespace start1
open Jvm.ClassFile
def u (s : String) : CpInfo := .utf8 (stringToUtf16 s)
/-- a pool by its gaps: so many unusable entries, then the entry; so many at the end -/
def gap : Nat → List CpInfo → List CpInfo
  | 0, r => r
  | n + 1, r => .unusable :: gap n r
def poolList (es : List (Nat × CpInfo)) (last : Nat) : List CpInfo := es.foldr (fun e r => gap e.1 (e.2 :: r)) (gap last [])
def pool (es : List (Nat × CpInfo)) (last : Nat) : Array CpInfo := ⟨poolList es last⟩
def fileOf (pool : Array CpInfo) (this : Nat) (attrs : Array Attribute := #[]) (ms : Array MethodInfo := #[]) (fl : Nat := 33) (sup : Nat := 0) (ifs : Array Nat := #[]) (fds : Array FieldInfo := #[]) : ClassFile where
  minorVersion := 0
  majorVersion := 65
  constantPool := pool
  accessFlags := fl
  thisClass := this
  superClass := sup
  interfaces := ifs
  fields := fds
  methods := ms
  attributes := attrs
def plain (name : String) (sup : Option ClassId) : Class where
  name := name
  kind := .ordinary
  loader := none
  accessFlags := 33
  super := sup
  interfaces := #[]
  cf := none
  fields := #[]
  methods := #[]
  instanceTypes := #[]
  staticTypes := #[]
  resolved := #[]
  callSites := []
  init := .initialized
  statics := none
  mirror := none

def pool0 : Array CpInfo := pool [(5, u "<init>"), (0, u "()V"), (1, .class_ 10), (1, u "java/lang/Object")] 113

def k0c0 : Code := { maxStack := 0, maxLocals := 1, code := object_method_1_code, exceptionTable := #[], attributes := #[] }
def k0m0 : Method := { name := "<init>", desc := "()V", sig := { parameters := [], returnType := none }, accessFlags := 1, code := some k0c0 }
/-- java/lang/Object -/
def k0 : Class := { plain "java/lang/Object" none with
  accessFlags := 33
  interfaces := #[]
  cf := some (fileOf pool0 8 #[] #[{ accessFlags := 1, nameIndex := 5, descriptorIndex := 6, attributes := #[] }] 33 0 #[] #[])
  fields := #[]
  methods := #[k0m0]
  instanceTypes := #[]
  staticTypes := #[]
  resolved := Array.replicate 124 none
  statics := none }

def pool1 : Array CpInfo := pool [(2, .class_ 4), (1, u "java/lang/Object"), (0, u "<init>"), (0, u "()V"), (0, .methodref 8 9), (0, .class_ 10), (0, .nameAndType 11 12), (0, u "com/example/serialis/serialis/graph/IntMinHeapAddPinLaw"), (0, u "cx"), (0, u "([III)V"), (0, .class_ 14), (0, u "com/example/serialis/serialis/graph/IntMinHeap"), (0, .methodref 13 16), (0, .nameAndType 5 17), (0, u "(I)V"), (0, .methodref 13 19), (0, .nameAndType 20 17), (0, u "add"), (0, .methodref 13 22), (0, .nameAndType 23 24), (0, u "isEmpty"), (0, u "()Z"), (0, .methodref 13 26), (0, .nameAndType 27 28), (0, u "removeSmallest"), (0, u "()I"), (3, u "law"), (0, u "(IIII)Z")] 4

def k1m0 : Method := { name := "<init>", desc := "()V", sig := { parameters := [], returnType := none }, accessFlags := 1, code := none }
def k1c1 : Code := { maxStack := 4, maxLocals := 4, code := method_2_code, exceptionTable := #[], attributes := #[] }
def k1m1 : Method := { name := "cx", desc := "([III)V", sig := { parameters := [(.array .int), .int, .int], returnType := none }, accessFlags := 10, code := some k1c1 }
def k1c2 : Code := { maxStack := 4, maxLocals := 11, code := code, exceptionTable := #[], attributes := #[] }
def k1m2 : Method := { name := "law", desc := "(IIII)Z", sig := { parameters := [.int, .int, .int, .int], returnType := some .boolean }, accessFlags := 9, code := some k1c2 }
/-- com/example/serialis/serialis/graph/IntMinHeapAddPinLaw -/
def k1 : Class := { plain "com/example/serialis/serialis/graph/IntMinHeapAddPinLaw" (some 0) with
  accessFlags := 49
  interfaces := #[]
  cf := some (fileOf pool1 8 #[] #[{ accessFlags := 1, nameIndex := 5, descriptorIndex := 6, attributes := #[] }, { accessFlags := 10, nameIndex := 11, descriptorIndex := 12, attributes := #[] }, { accessFlags := 9, nameIndex := 32, descriptorIndex := 33, attributes := #[] }] 49 2 #[] #[])
  fields := #[]
  methods := #[k1m0, k1m1, k1m2]
  instanceTypes := #[]
  staticTypes := #[]
  resolved := Array.replicate 38 none
  statics := none }

def pool2 : Array CpInfo := pool [(1, .methodref 2 3), (0, .class_ 4), (0, .nameAndType 5 6), (0, u "java/lang/Object"), (0, u "<init>"), (0, u "()V"), (0, .fieldref 8 9), (0, .class_ 10), (0, .nameAndType 11 12), (0, u "com/example/serialis/serialis/graph/IntMinHeap"), (0, u "heap"), (0, u "[I"), (0, .fieldref 8 14), (0, .nameAndType 15 16), (0, u "size"), (0, u "I"), (0, u "(I)V"), (2, u "isEmpty"), (0, u "()Z"), (1, u "add"), (0, u "removeSmallest"), (0, u "()I")] 2

def k2c0 : Code := { maxStack := 2, maxLocals := 2, code := prog_36_method_1_code, exceptionTable := #[], attributes := #[] }
def k2m0 : Method := { name := "<init>", desc := "(I)V", sig := { parameters := [.int], returnType := none }, accessFlags := 0, code := some k2c0 }
def k2c1 : Code := { maxStack := 1, maxLocals := 1, code := prog_36_method_2_code, exceptionTable := #[], attributes := #[] }
def k2m1 : Method := { name := "isEmpty", desc := "()Z", sig := { parameters := [], returnType := some .boolean }, accessFlags := 0, code := some k2c1 }
def k2c2 : Code := { maxStack := 4, maxLocals := 4, code := prog_36_method_3_code, exceptionTable := #[], attributes := #[] }
def k2m2 : Method := { name := "add", desc := "(I)V", sig := { parameters := [.int], returnType := none }, accessFlags := 0, code := some k2c2 }
def k2c3 : Code := { maxStack := 4, maxLocals := 5, code := prog_36_method_4_code, exceptionTable := #[], attributes := #[] }
def k2m3 : Method := { name := "removeSmallest", desc := "()I", sig := { parameters := [], returnType := some .int }, accessFlags := 0, code := some k2c3 }
/-- com/example/serialis/serialis/graph/IntMinHeap -/
def k2 : Class := { plain "com/example/serialis/serialis/graph/IntMinHeap" (some 0) with
  accessFlags := 48
  interfaces := #[]
  cf := some (fileOf pool2 8 #[] #[{ accessFlags := 0, nameIndex := 5, descriptorIndex := 17, attributes := #[] }, { accessFlags := 0, nameIndex := 20, descriptorIndex := 21, attributes := #[] }, { accessFlags := 0, nameIndex := 23, descriptorIndex := 17, attributes := #[] }, { accessFlags := 0, nameIndex := 24, descriptorIndex := 25, attributes := #[] }] 48 2 #[] #[{ accessFlags := 18, nameIndex := 11, descriptorIndex := 12, attributes := #[] }, { accessFlags := 2, nameIndex := 15, descriptorIndex := 16, attributes := #[] }])
  fields := #[{ name := "heap", type := (.array .int), accessFlags := 18, slot := 0, constantValue := 0 }, { name := "size", type := .int, accessFlags := 2, slot := 1, constantValue := 0 }]
  methods := #[k2m0, k2m1, k2m2, k2m3]
  instanceTypes := #[(.array .int), .int]
  staticTypes := #[]
  resolved := Array.replicate 28 none
  statics := none }

def pool3 : Array CpInfo := pool [(1, u "java/lang/Cloneable"), (0, .class_ 1), (0, u "java/lang/Object"), (0, .class_ 3)] 3

/-- java/lang/Cloneable -/
def k3 : Class := { plain "java/lang/Cloneable" (some 0) with
  accessFlags := 1537
  interfaces := #[]
  cf := some (fileOf pool3 2 #[] #[] 1537 4 #[] #[])
  fields := #[]
  methods := #[]
  instanceTypes := #[]
  staticTypes := #[]
  resolved := Array.replicate 8 none
  statics := none }

def pool4 : Array CpInfo := pool [(1, u "java/io/Serializable"), (0, .class_ 1), (0, u "java/lang/Object"), (0, .class_ 3)] 3

/-- java/io/Serializable -/
def k4 : Class := { plain "java/io/Serializable" (some 0) with
  accessFlags := 1537
  interfaces := #[]
  cf := some (fileOf pool4 2 #[] #[] 1537 4 #[] #[])
  fields := #[]
  methods := #[]
  instanceTypes := #[]
  staticTypes := #[]
  resolved := Array.replicate 8 none
  statics := none }

/-- the primitive byte -/
def k5 : Class := { plain "byte" none with kind := .primitive 'B', accessFlags := 0x411 }
/-- [B -/
def k6 : Class := { plain "[B" (some 0) with kind := .array 5 .byte, interfaces := #[3, 4], accessFlags := 1041 }

/-- the primitive int -/
def k7 : Class := { plain "int" none with kind := .primitive 'I', accessFlags := 0x411 }
/-- [I -/
def k8 : Class := { plain "[I" (some 0) with kind := .array 7 .int, interfaces := #[3, 4], accessFlags := 1041 }

def heap : Heap := #[]
def classes : Array Class := #[k0, k1, k2, k3, k4, k5, k6, k7, k8]
def interned : List (Array UInt16 × Addr) := []
def slotsUsed : Nat := 0
def theMethod : MethodId := ⟨1, 2⟩
def args0 : Array Value := #[.int 5, .int 7, .int 6, .int 3]
def aboutOver (below : List Frame) : State where
  vm := { classes := classes, interned := interned.toArray }
  heap := heap
  slotsUsed := slotsUsed
  threads := #[{ frames := .invoking theMethod args0 :: below }]
def below0 : List Frame := [.native { method := ⟨0, 0⟩, args := #[] }]
def about1 : State := aboutOver below0
def p0 : Program := .bare "" "" ""
def e0 : Env := launch0.env 0 0 0
theorem w_frames : about1.frames = Frame.invoking theMethod args0 :: below0 := rfl
set_option maxRecDepth 65536 in
theorem w_args : argsFit about1.vm theMethod args0 = true := by decide +kernel
set_option maxRecDepth 65536 in
theorem w_heap : heapFits about1 = true := by decide +kernel
set_option maxRecDepth 65536 in
theorem w_runnable : about1.curStatus? = some .runnable := by decide +kernel
set_option maxRecDepth 65536 in
theorem w_alone : about1.alone = true := by decide +kernel
set_option maxRecDepth 65536 in
theorem w_named : about1.methodNamed? x = some theMethod := by decide +kernel
set_option maxRecDepth 65536 in
theorem w_hears : about1.hears theMethod below0 = true := by decide +kernel
set_option maxRecDepth 65536 in
theorem w_ripe : about1.ripe theMethod args0 below0 = true := by decide +kernel
theorem w_running : about1.status = .running := rfl
set_option maxRecDepth 65536 in
theorem w_room : about1.hasRoom e0.platform room_1 = true :=
  launch0.hasRoom_least _ room_1 (by decide +kernel) (by decide +kernel) (by decide +kernel) (by decide +kernel) (by decide +kernel) (by decide +kernel)
theorem allAtoms_all (ts : List Jvm.Cond) (a : Array Jvm.Value) (st : Jvm.State) : (allAtoms ts).before a st = ts.all (fun c => c.before a st) := by
  induction ts with
  | nil => rfl
  | cons c t ih =>
    show (Jvm.Cond.and c (allAtoms t)).before a st = _
    rw [Jvm.Cond.before_and, ih, List.all_cons]
def words1 : List Jvm.Cond := Jvm.Cond.code x code maxLocals ret :: tables_1
/-- a 'code' word, met by the world's own term for the bytes: nothing is compared byte by byte -/
theorem code_word {y : MethodName} {bytes : ByteArray} {mx : Nat} {rt : Option FieldType} {a : Array Value} {s : State} {m : MethodId} {meth : Method} {c : Code} (h1 : s.methodNamed? y = some m) (h2 : s.vm.method? m = some meth) (h3 : meth.code = some c) (h4 : c.code = bytes)
    (h5 : (c.maxLocals == mx && c.exceptionTable.isEmpty && decide (c.maxStack ≤ mostOperands) && decide (meth.sig.returnType = rt) && !meth.locks && decide (parseMethodDescriptor y.desc = some meth.sig)) = true) : (Jvm.Cond.code y bytes mx rt).before a s = true := by
  simp only [Bool.and_eq_true, beq_iff_eq, Bool.not_eq_true', decide_eq_true_eq] at h5
  obtain ⟨⟨⟨⟨⟨g1, g2⟩, g3⟩, g4⟩, g5⟩, g6⟩ := h5
  simp [Cond.before, Cond.holds, Cond.value, h1, h2, h3, h4, g1, g2, g3, g4, g5, g6]
def isCode : Jvm.Cond → Bool
  | .code _ _ _ _ => true
  | _ => false
theorem all_split {L : List Jvm.Cond} {P : Jvm.Cond → Bool} (h1 : L.all (fun c => isCode c || P c) = true) (h2 : ∀ c ∈ L.filter isCode, P c = true) : L.all P = true := by
  refine List.all_eq_true.mpr fun c hc => ?_
  have h := List.all_eq_true.mp h1 c hc
  rcases Bool.eq_false_or_eq_true (isCode c) with hi | hi
  · exact h2 c (List.mem_filter.mpr ⟨hc, hi⟩)
  · simpa [hi] using h
set_option maxRecDepth 65536 in
theorem w_c0 : (Jvm.Cond.code x code maxLocals ret).before args0 about1 = true := code_word (m := ⟨1, 2⟩) (meth := k1m2) (c := k1c2) (by decide +kernel) rfl rfl rfl (by decide +kernel)
set_option maxRecDepth 65536 in
theorem w_c1 : (Jvm.Cond.code ({ cls := "com/example/serialis/serialis/graph/IntMinHeapAddPinLaw", name := "cx", desc := "([III)V" } : Jvm.MethodName) method_2_code (4 : Nat) (Option.none : Option Jvm.ClassFile.FieldType)).before args0 about1 = true := code_word (m := ⟨1, 1⟩) (meth := k1m1) (c := k1c1) (by decide +kernel) rfl rfl rfl (by decide +kernel)
set_option maxRecDepth 65536 in
theorem w_c2 : (Jvm.Cond.code ({ cls := "com/example/serialis/serialis/graph/IntMinHeap", name := "<init>", desc := "(I)V" } : Jvm.MethodName) prog_36_method_1_code (2 : Nat) (Option.none : Option Jvm.ClassFile.FieldType)).before args0 about1 = true := code_word (m := ⟨2, 0⟩) (meth := k2m0) (c := k2c0) (by decide +kernel) rfl rfl rfl (by decide +kernel)
set_option maxRecDepth 65536 in
theorem w_c3 : (Jvm.Cond.code ({ cls := "java/lang/Object", name := "<init>", desc := "()V" } : Jvm.MethodName) object_method_1_code (1 : Nat) (Option.none : Option Jvm.ClassFile.FieldType)).before args0 about1 = true := code_word (m := ⟨0, 0⟩) (meth := k0m0) (c := k0c0) (by decide +kernel) rfl rfl rfl (by decide +kernel)
set_option maxRecDepth 65536 in
theorem w_c4 : (Jvm.Cond.code ({ cls := "com/example/serialis/serialis/graph/IntMinHeap", name := "add", desc := "(I)V" } : Jvm.MethodName) prog_36_method_3_code (4 : Nat) (Option.none : Option Jvm.ClassFile.FieldType)).before args0 about1 = true := code_word (m := ⟨2, 2⟩) (meth := k2m2) (c := k2c2) (by decide +kernel) rfl rfl rfl (by decide +kernel)
set_option maxRecDepth 65536 in
theorem w_c5 : (Jvm.Cond.code ({ cls := "com/example/serialis/serialis/graph/IntMinHeap", name := "isEmpty", desc := "()Z" } : Jvm.MethodName) prog_36_method_2_code (1 : Nat) (Option.some Jvm.ClassFile.FieldType.boolean)).before args0 about1 = true := code_word (m := ⟨2, 1⟩) (meth := k2m1) (c := k2c1) (by decide +kernel) rfl rfl rfl (by decide +kernel)
set_option maxRecDepth 65536 in
theorem w_c6 : (Jvm.Cond.code ({ cls := "com/example/serialis/serialis/graph/IntMinHeap", name := "removeSmallest", desc := "()I" } : Jvm.MethodName) prog_36_method_4_code (5 : Nat) (Option.some Jvm.ClassFile.FieldType.int)).before args0 about1 = true := code_word (m := ⟨2, 3⟩) (meth := k2m3) (c := k2c3) (by decide +kernel) rfl rfl rfl (by decide +kernel)
def codes1 : List Jvm.Cond := [Jvm.Cond.code x code maxLocals ret, Jvm.Cond.code ({ cls := "com/example/serialis/serialis/graph/IntMinHeapAddPinLaw", name := "cx", desc := "([III)V" } : Jvm.MethodName) method_2_code (4 : Nat) (Option.none : Option Jvm.ClassFile.FieldType), Jvm.Cond.code ({ cls := "com/example/serialis/serialis/graph/IntMinHeap", name := "<init>", desc := "(I)V" } : Jvm.MethodName) prog_36_method_1_code (2 : Nat) (Option.none : Option Jvm.ClassFile.FieldType), Jvm.Cond.code ({ cls := "java/lang/Object", name := "<init>", desc := "()V" } : Jvm.MethodName) object_method_1_code (1 : Nat) (Option.none : Option Jvm.ClassFile.FieldType), Jvm.Cond.code ({ cls := "com/example/serialis/serialis/graph/IntMinHeap", name := "add", desc := "(I)V" } : Jvm.MethodName) prog_36_method_3_code (4 : Nat) (Option.none : Option Jvm.ClassFile.FieldType), Jvm.Cond.code ({ cls := "com/example/serialis/serialis/graph/IntMinHeap", name := "isEmpty", desc := "()Z" } : Jvm.MethodName) prog_36_method_2_code (1 : Nat) (Option.some Jvm.ClassFile.FieldType.boolean), Jvm.Cond.code ({ cls := "com/example/serialis/serialis/graph/IntMinHeap", name := "removeSmallest", desc := "()I" } : Jvm.MethodName) prog_36_method_4_code (5 : Nat) (Option.some Jvm.ClassFile.FieldType.int)]
set_option maxRecDepth 65536 in
theorem codes_eq : words1.filter isCode = codes1 := rfl
theorem w_codes : ∀ c ∈ words1.filter isCode, c.before args0 about1 = true := by
  rw [codes_eq]
  intro c hc
  simp only [codes1, List.mem_cons, List.not_mem_nil, or_false] at hc
  rcases hc with rfl | rfl | rfl | rfl | rfl | rfl | rfl
  · exact w_c0
  · exact w_c1
  · exact w_c2
  · exact w_c3
  · exact w_c4
  · exact w_c5
  · exact w_c6
set_option maxRecDepth 65536 in
theorem w_t1 : (words1.take 24).all (fun c => isCode c || c.before args0 about1) = true := by decide +kernel
set_option maxRecDepth 65536 in
theorem w_t2 : (words1.drop 24).all (fun c => isCode c || c.before args0 about1) = true := by decide +kernel
theorem w_tables : (allAtoms (Jvm.Cond.code x code maxLocals ret :: tables_1)).before args0 about1 = true := by
  rw [allAtoms_all]
  show words1.all (fun c => c.before args0 about1) = true
  refine all_split ?_ w_codes
  rw [← List.take_append_drop 24 words1, List.all_append, w_t1, w_t2]
  rfl
set_option maxRecDepth 65536 in
theorem w_case : (Jvm.Cond.and given_1 narrow_1).before args0 about1 = true := by decide +kernel
theorem w_applies : (headSpec (Jvm.Cond.code x code maxLocals ret :: tables_1) room_1).applies x e0.platform about1 = true :=
  (Spec.applies_iff w_frames).mpr ⟨w_running, w_runnable, w_alone, w_named, w_hears, w_ripe, w_room, w_tables⟩
theorem atStart : AtStart classFile x code maxLocals ret World_1 tables_1 room_1 Calls_1 rest_1 Pre_1 launch0 p0 e0 about1 theMethod args0 below0 :=
  ⟨lists_1, trivial, launch0.admits_env _ _ _, launch0.least_env, fairChoices_fair.cas, fairChoices_fair.clock, w_frames, w_args, w_heap, w_applies, trivial, trivial, w_case⟩
end start1
theorem witness_1 : WitnessClaimed_1 := ⟨start1.p0, start1.e0, start1.about1, start1.theMethod, start1.args0, start1.below0, start1.atStart⟩
end Jvm.Pilot.@@N@@
