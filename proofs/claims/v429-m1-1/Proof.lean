import JvmDerived
import JvmDerived.Pilot.@@N@@Statement
import JvmDerived.Pilot.@@N@@Code
set_option linter.unusedVariables false
set_option linter.unusedSimpArgs false
namespace Jvm.Pilot.@@N@@
open Jvm Jvm.ClassFile Sem Op Lib Jvm.Free Jvm.Stand Jvm.LawKit Jvm.RoadKit Bundle Jvm.Pilot.@@N@@.Jvm.D
section Own
variable {p : Program} {l : Launch} {e : Env} {R : Room} {s : State} {m : MethodId} {args : Array Value} {below : List Frame} {meth : Method} {c : Code} {Z : State} {a0 : Array Value} {n0 : Nat} {Q : Option Value → Heap → Prop} {Kf : State → Outcome → Prop} {h : Heap} {k q : Nat} {own nm : String} {bytes : ByteArray} {maxL : Nat} {ret : Option FieldType} {pc pc' pc1 pc2 : Nat} {Ls Ls' : Array Slot} {rest : List Value}
/-- how a run of the body ends: it returns, nothing old is written, and Q holds of what is returned and of the heap -/
def own_K (below : List Frame) (R : Room) (s : State) (n0 : Nat) (Q : Option Value → Heap → Prop) (t : State) (o : Outcome) : Prop :=
  t.status = .running ∧ Ended t below o ∧ ∃ v L, o = .returned v ∧ (Fr n0 L ∧ Q v t.heap) ∧ FrameEnd s o t L R.cells R.slots
/-- from the frame g, with the heap h, k cells and q slots made so far: the run ends as own_K says -/
def own_Run (p : Program) (l : Launch) (e : Env) (R : Room) (s : State) (m : MethodId) (args : Array Value) (below : List Frame) (meth : Method) (c : Code) (n0 : Nat) (Kf : State → Outcome → Prop) (h : Heap) (k q : Nat) (g : JFrame) : Prop :=
  ∀ (T : State) (locs : List Loc), Stand p l e R s m args below meth c T locs k q → T.heap = h → Fr n0 locs → ∃ t o, Steps p.tables e below (T.setTop g) t ∧ Kf t o
/-- what stands fast through a body -/
def own_Ctx (p : Program) (s : State) (m : MethodId) (meth : Method) (c : Code) (Z : State) (own nm : String) (bytes : ByteArray) (maxL : Nat) (ret : Option FieldType) : Prop :=
  p.tables.exec = Jvm.exec ∧ Z.Warmed39 s.vm ∧ s.vm.findClass own = some m.cls ∧ c.code = bytes ∧ c.maxLocals = maxL ∧ meth.sig.returnType = ret ∧ meth.locks = false ∧ meth.name = nm
theorem own_Ctx.g_x (C : own_Ctx p s m meth c Z own nm bytes maxL ret) : p.tables.exec = Jvm.exec := C.1
theorem own_Ctx.g_z (C : own_Ctx p s m meth c Z own nm bytes maxL ret) : Z.Warmed39 s.vm := C.2.1
theorem own_Ctx.g_own (C : own_Ctx p s m meth c Z own nm bytes maxL ret) : s.vm.findClass own = some m.cls := C.2.2.1
theorem own_Ctx.g_by (C : own_Ctx p s m meth c Z own nm bytes maxL ret) : c.code = bytes := C.2.2.2.1
theorem own_Ctx.g_ml (C : own_Ctx p s m meth c Z own nm bytes maxL ret) : c.maxLocals = maxL := C.2.2.2.2.1
theorem own_Ctx.g_rt (C : own_Ctx p s m meth c Z own nm bytes maxL ret) : meth.sig.returnType = ret := C.2.2.2.2.2.1
theorem own_Ctx.g_lk (C : own_Ctx p s m meth c Z own nm bytes maxL ret) : meth.locks = false := C.2.2.2.2.2.2.1
theorem own_Ctx.g_nm (C : own_Ctx p s m meth c Z own nm bytes maxL ret) : meth.name = nm := C.2.2.2.2.2.2.2
/-- a method's contract: called with these arguments at the heap h, it returns as Q says -/
def own_Met (l : Launch) (Z : State) (n0 : Nat) (y : MethodName) (bytes : ByteArray) (maxL : Nat) (ret : Option FieldType) (rm : Room) (ws : List Jvm.Cond) (as' : Array Value) (h : Heap) (Q : Option Value → Heap → Prop) : Prop :=
  MetFree l y (head1 (Jvm.Cond.code y bytes maxL ret :: ws) rm) (fun a U => a = as' ∧ Z.Warmed39 U.vm ∧ U.heap = h) (fun _ _ _ _ _ => True) (fun _ U o U' => ∃ v L, o = .returned v ∧ (Fr n0 L ∧ Q v U'.heap) ∧ FrameEnd U o U' L rm.cells rm.slots)
theorem own_met {y : MethodName} {rm : Room} {ws : List Jvm.Cond} {as' : Array Value} (hn : plainName y.cls = true) (Ls : Array Slot) (hef : ∀ m : MethodId, entryFrame m as' maxL = mkF m 0 Ls [])
    (body : ∀ (p : Program) (e : Env) (s : State) (m : MethodId) (below : List Frame) (meth : Method) (c : Code), own_Ctx p s m meth c Z y.cls y.name bytes maxL ret → own_Run p l e rm s m as' below meth c n0 (own_K below rm s n0 Q) h 0 0 (mkF m 0 Ls [])) :
    own_Met l Z n0 y bytes maxL ret rm ws as' h Q := by
  refine MetFree.of_bodySF (plainFor_of_name hn) hisR ?_
  intro p e s m args below meth c s₁ Bd hml0 hP hK
  obtain ⟨rfl, hZ, hh⟩ := hP
  have C : own_Ctx p s m meth c Z y.cls y.name bytes maxL ret := ⟨Bd.exec, hZ, findClass_of_methodNamed Bd.named, Bd.bytes, hml0, Bd.returns, BodyLoose.notSynchronized Bd, (name_of_methodNamed Bd.named Bd.method).1⟩
  obtain ⟨t, o, h1, h2, h3, h4⟩ := body p e s m below meth c C s₁ [] (Stand.of_body Bd) (by rw [← hh, Bd.state]; rfl) (Fr.nil n0)
  exact ⟨t, o, castTop (hef m) h1, h2, h3, h4⟩
theorem own_st {g g' : JFrame} (h1 : ∀ (T : State) (locs : List Loc), Stand p l e R s m args below meth c T locs k q → T.heap = h → ∀ target, Steps p.tables e below (T.setTop g') target → Steps p.tables e below (T.setTop g) target) (r : own_Run p l e R s m args below meth c n0 Kf h k q g') : own_Run p l e R s m args below meth c n0 Kf h k q g := fun T locs X eT N => by
  obtain ⟨t, o, h2, h3⟩ := r T locs X eT N
  exact ⟨t, o, h1 T locs X eT t h2, h3⟩
theorem own_more {k' q' : Nat} {g : JFrame} (hk : k ≤ k') (hq : q ≤ q') (r : own_Run p l e R s m args below meth c n0 Kf h k' q' g) : own_Run p l e R s m args below meth c n0 Kf h k q g := fun T locs X eT N => r T locs (X.more hk hq) eT N
theorem own_iloadN (C : own_Ctx p s m meth c Z own nm bytes maxL ret) {i : Fin 4} {v : Int32} (hd : decode bytes pc = .ok (.iload_n i, 1)) (hp : pc + 1 = pc') (hl : Ls[i.val]? = some (.val (.int v))) (r : own_Run p l e R s m args below meth c n0 Kf h k q (mkF m pc' Ls (.int v :: rest))) : own_Run p l e R s m args below meth c n0 Kf h k q (mkF m pc Ls (rest)) :=
  own_st (fun T locs X eT t kk => by subst hp; exact Jvm.Free.XS.iloadN X.here C.g_x rfl (hb C.g_by hd) hl kk) r
theorem own_iload (C : own_Ctx p s m meth c Z own nm bytes maxL ret) {i : Nat} {v : Int32} (hd : decode bytes pc = .ok (.iload i, 2)) (hp : pc + 2 = pc') (hl : Ls[i]? = some (.val (.int v))) (r : own_Run p l e R s m args below meth c n0 Kf h k q (mkF m pc' Ls (.int v :: rest))) : own_Run p l e R s m args below meth c n0 Kf h k q (mkF m pc Ls (rest)) :=
  own_st (fun T locs X eT t kk => by subst hp; exact Jvm.Free.XS.iload X.here C.g_x rfl (hb C.g_by hd) hl kk) r
theorem own_lloadN (C : own_Ctx p s m meth c Z own nm bytes maxL ret) {i : Fin 4} {v : Int64} (hd : decode bytes pc = .ok (.lload_n i, 1)) (hp : pc + 1 = pc') (hl : Ls[i.val]? = some (.val (.long v))) (r : own_Run p l e R s m args below meth c n0 Kf h k q (mkF m pc' Ls (.long v :: rest))) : own_Run p l e R s m args below meth c n0 Kf h k q (mkF m pc Ls (rest)) :=
  own_st (fun T locs X eT t kk => by subst hp; exact Jvm.Free.XT.lloadN X.here C.g_x rfl (hb C.g_by hd) hl kk) r
theorem own_lload (C : own_Ctx p s m meth c Z own nm bytes maxL ret) {i : Nat} {v : Int64} (hd : decode bytes pc = .ok (.lload i, 2)) (hp : pc + 2 = pc') (hl : Ls[i]? = some (.val (.long v))) (r : own_Run p l e R s m args below meth c n0 Kf h k q (mkF m pc' Ls (.long v :: rest))) : own_Run p l e R s m args below meth c n0 Kf h k q (mkF m pc Ls (rest)) :=
  own_st (fun T locs X eT t kk => by subst hp; exact Jvm.Free.XT.lload X.here C.g_x rfl (hb C.g_by hd) hl kk) r
theorem own_aloadN (C : own_Ctx p s m meth c Z own nm bytes maxL ret) {i : Fin 4} {v : Value} (hd : decode bytes pc = .ok (.aload_n i, 1)) (hp : pc + 1 = pc') (hl : Ls[i.val]? = some (.val v)) (hv : v.isRef = true) (r : own_Run p l e R s m args below meth c n0 Kf h k q (mkF m pc' Ls (v :: rest))) : own_Run p l e R s m args below meth c n0 Kf h k q (mkF m pc Ls (rest)) :=
  own_st (fun T locs X eT t kk => by subst hp; exact Jvm.Free.XS.aloadN X.here C.g_x rfl (hb C.g_by hd) hl hv kk) r
theorem own_aload (C : own_Ctx p s m meth c Z own nm bytes maxL ret) {i : Nat} {v : Value} (hd : decode bytes pc = .ok (.aload i, 2)) (hp : pc + 2 = pc') (hl : Ls[i]? = some (.val v)) (hv : v.isRef = true) (r : own_Run p l e R s m args below meth c n0 Kf h k q (mkF m pc' Ls (v :: rest))) : own_Run p l e R s m args below meth c n0 Kf h k q (mkF m pc Ls (rest)) :=
  own_st (fun T locs X eT t kk => by subst hp; exact Jvm.Free.XS.aload X.here C.g_x rfl (hb C.g_by hd) hl hv kk) r
theorem own_istoreN (C : own_Ctx p s m meth c Z own nm bytes maxL ret) {i : Fin 4} {v : Int32} (hd : decode bytes pc = .ok (.istore_n i, 1)) (hp : pc + 1 = pc') (hl : storeLocals Ls i.val (.int v) = some Ls') (r : own_Run p l e R s m args below meth c n0 Kf h k q (mkF m pc' Ls' (rest))) : own_Run p l e R s m args below meth c n0 Kf h k q (mkF m pc Ls (.int v :: rest)) :=
  own_st (fun T locs X eT t kk => by subst hp; exact Jvm.Free.XS.istoreN X.here C.g_x rfl (hb C.g_by hd) rfl hl kk) r
theorem own_istore (C : own_Ctx p s m meth c Z own nm bytes maxL ret) {i : Nat} {v : Int32} (hd : decode bytes pc = .ok (.istore i, 2)) (hp : pc + 2 = pc') (hl : storeLocals Ls i (.int v) = some Ls') (r : own_Run p l e R s m args below meth c n0 Kf h k q (mkF m pc' Ls' (rest))) : own_Run p l e R s m args below meth c n0 Kf h k q (mkF m pc Ls (.int v :: rest)) :=
  own_st (fun T locs X eT t kk => by subst hp; exact Jvm.Free.XS.istore X.here C.g_x rfl (hb C.g_by hd) rfl hl kk) r
theorem own_lstoreN (C : own_Ctx p s m meth c Z own nm bytes maxL ret) {i : Fin 4} {v : Int64} (hd : decode bytes pc = .ok (.lstore_n i, 1)) (hp : pc + 1 = pc') (hl : storeLocals Ls i.val (.long v) = some Ls') (r : own_Run p l e R s m args below meth c n0 Kf h k q (mkF m pc' Ls' (rest))) : own_Run p l e R s m args below meth c n0 Kf h k q (mkF m pc Ls (.long v :: rest)) :=
  own_st (fun T locs X eT t kk => by subst hp; exact Jvm.Free.XT.lstoreN X.here C.g_x rfl (hb C.g_by hd) rfl hl kk) r
theorem own_lstore (C : own_Ctx p s m meth c Z own nm bytes maxL ret) {i : Nat} {v : Int64} (hd : decode bytes pc = .ok (.lstore i, 2)) (hp : pc + 2 = pc') (hl : storeLocals Ls i (.long v) = some Ls') (r : own_Run p l e R s m args below meth c n0 Kf h k q (mkF m pc' Ls' (rest))) : own_Run p l e R s m args below meth c n0 Kf h k q (mkF m pc Ls (.long v :: rest)) :=
  own_st (fun T locs X eT t kk => by subst hp; exact Jvm.Free.XT.lstore X.here C.g_x rfl (hb C.g_by hd) rfl hl kk) r
theorem own_astoreN (C : own_Ctx p s m meth c Z own nm bytes maxL ret) {i : Fin 4} {v : Value} (hd : decode bytes pc = .ok (.astore_n i, 1)) (hp : pc + 1 = pc') (hv : v.isRef = true) (hl : storeLocals Ls i.val v = some Ls') (r : own_Run p l e R s m args below meth c n0 Kf h k q (mkF m pc' Ls' (rest))) : own_Run p l e R s m args below meth c n0 Kf h k q (mkF m pc Ls (v :: rest)) :=
  own_st (fun T locs X eT t kk => by subst hp; exact Jvm.Free.XS.astoreN X.here C.g_x rfl (hb C.g_by hd) rfl hv hl kk) r
theorem own_astore (C : own_Ctx p s m meth c Z own nm bytes maxL ret) {i : Nat} {v : Value} (hd : decode bytes pc = .ok (.astore i, 2)) (hp : pc + 2 = pc') (hv : v.isRef = true) (hl : storeLocals Ls i v = some Ls') (r : own_Run p l e R s m args below meth c n0 Kf h k q (mkF m pc' Ls' (rest))) : own_Run p l e R s m args below meth c n0 Kf h k q (mkF m pc Ls (v :: rest)) :=
  own_st (fun T locs X eT t kk => by subst hp; exact Jvm.Free.XS.astore X.here C.g_x rfl (hb C.g_by hd) rfl hv hl kk) r
theorem own_iinc (C : own_Ctx p s m meth c Z own nm bytes maxL ret) {i : Nat} {cst : Int} {v w : Int32} (hd : decode bytes pc = .ok (.iinc i cst, 3)) (hp : pc + 3 = pc') (hv : Int32.ofInt cst = w) (hl : Ls[i]? = some (.val (.int v))) (hl' : storeLocals Ls i (.int (v + w)) = some Ls') (r : own_Run p l e R s m args below meth c n0 Kf h k q (mkF m pc' Ls' (rest))) : own_Run p l e R s m args below meth c n0 Kf h k q (mkF m pc Ls (rest)) :=
  own_st (fun T locs X eT t kk => by subst hp; exact Jvm.Free.XT.iincV X.here C.g_x rfl w (hb C.g_by hd) hv hl hl' kk) r
theorem own_iincV (C : own_Ctx p s m meth c Z own nm bytes maxL ret) {i : Nat} {cst : Int} {v w x : Int32} (hd : decode bytes pc = .ok (.iinc i cst, 3)) (hp : pc + 3 = pc') (hv : Int32.ofInt cst = w) (hs : v + w = x) (hl : Ls[i]? = some (.val (.int v))) (hl' : storeLocals Ls i (.int x) = some Ls') (r : own_Run p l e R s m args below meth c n0 Kf h k q (mkF m pc' Ls' (rest))) : own_Run p l e R s m args below meth c n0 Kf h k q (mkF m pc Ls (rest)) :=
  own_st (fun T locs X eT t kk => by subst hp; exact Jvm.Free.XT.iincV X.here C.g_x rfl w (hb C.g_by hd) hv hl (by rw [hs]; exact hl') kk) r
theorem own_iconst (C : own_Ctx p s m meth c Z own nm bytes maxL ret) {i : Int} {v : Int32} (hd : decode bytes pc = .ok (.iconst i, 1)) (hp : pc + 1 = pc') (hv : Int32.ofInt i = v) (r : own_Run p l e R s m args below meth c n0 Kf h k q (mkF m pc' Ls (.int v :: rest))) : own_Run p l e R s m args below meth c n0 Kf h k q (mkF m pc Ls (rest)) :=
  own_st (fun T locs X eT t kk => by subst hp; exact Jvm.Free.XT.iconstV X.here C.g_x rfl v (hb C.g_by hd) hv kk) r
theorem own_bipush (C : own_Ctx p s m meth c Z own nm bytes maxL ret) {i : Int} {v : Int32} (hd : decode bytes pc = .ok (.bipush i, 2)) (hp : pc + 2 = pc') (hv : (Int8.ofInt i).toInt32 = v) (r : own_Run p l e R s m args below meth c n0 Kf h k q (mkF m pc' Ls (.int v :: rest))) : own_Run p l e R s m args below meth c n0 Kf h k q (mkF m pc Ls (rest)) :=
  own_st (fun T locs X eT t kk => by subst hp; exact Jvm.Free.XT.bipushV X.here C.g_x rfl v (hb C.g_by hd) hv kk) r
theorem own_sipush (C : own_Ctx p s m meth c Z own nm bytes maxL ret) {i : Int} {v : Int32} (hd : decode bytes pc = .ok (.sipush i, 3)) (hp : pc + 3 = pc') (hv : (Int16.ofInt i).toInt32 = v) (r : own_Run p l e R s m args below meth c n0 Kf h k q (mkF m pc' Ls (.int v :: rest))) : own_Run p l e R s m args below meth c n0 Kf h k q (mkF m pc Ls (rest)) :=
  own_st (fun T locs X eT t kk => by subst hp; exact Jvm.Free.XT.sipushV X.here C.g_x rfl v (hb C.g_by hd) hv kk) r
theorem own_lconst (C : own_Ctx p s m meth c Z own nm bytes maxL ret) {i : Fin 2} {v : Int64} (hd : decode bytes pc = .ok (.lconst i, 1)) (hp : pc + 1 = pc') (hv : Int64.ofNat i = v) (r : own_Run p l e R s m args below meth c n0 Kf h k q (mkF m pc' Ls (.long v :: rest))) : own_Run p l e R s m args below meth c n0 Kf h k q (mkF m pc Ls (rest)) :=
  own_st (fun T locs X eT t kk => by subst hp; exact Jvm.Free.XT.lconstV X.here C.g_x rfl v (hb C.g_by hd) hv kk) r
theorem own_aconst (C : own_Ctx p s m meth c Z own nm bytes maxL ret)  (hd : decode bytes pc = .ok (.aconst_null, 1)) (hp : pc + 1 = pc')  (r : own_Run p l e R s m args below meth c n0 Kf h k q (mkF m pc' Ls (.null :: rest))) : own_Run p l e R s m args below meth c n0 Kf h k q (mkF m pc Ls (rest)) :=
  own_st (fun T locs X eT t kk => by subst hp; exact Jvm.Free.XS.aconstNull X.here C.g_x rfl (hb C.g_by hd) kk) r
theorem own_ldc (C : own_Ctx p s m meth c Z own nm bytes maxL ret) {i : Nat} {v : Int32} (hd : decode bytes pc = .ok (.ldc i, 2)) (hp : pc + 2 = pc') (hc : (Jvm.Cond.constant own i v).before a0 Z = true) (r : own_Run p l e R s m args below meth c n0 Kf h k q (mkF m pc' Ls (.int v :: rest))) : own_Run p l e R s m args below meth c n0 Kf h k q (mkF m pc Ls (rest)) :=
  own_st (fun T locs X eT t kk => by subst hp; exact X.ldcI C.g_x C.g_own (mvT C.g_z hc) rfl (hb C.g_by hd) kk) r
theorem own_ldc2 (C : own_Ctx p s m meth c Z own nm bytes maxL ret) {i : Nat} {v : Int64} (hd : decode bytes pc = .ok (.ldc2_w i, 3)) (hp : pc + 3 = pc') (hc : (Jvm.Cond.constantLong own i v).before a0 Z = true) (r : own_Run p l e R s m args below meth c n0 Kf h k q (mkF m pc' Ls (.long v :: rest))) : own_Run p l e R s m args below meth c n0 Kf h k q (mkF m pc Ls (rest)) :=
  own_st (fun T locs X eT t kk => by subst hp; exact X.ldc2J C.g_x C.g_own (mvT C.g_z hc) rfl (hb C.g_by hd) kk) r
theorem own_dup (C : own_Ctx p s m meth c Z own nm bytes maxL ret) {v : Value} (hd : decode bytes pc = .ok (.dup, 1)) (hp : pc + 1 = pc') (hc : v.category = 1) (r : own_Run p l e R s m args below meth c n0 Kf h k q (mkF m pc' Ls (v :: v :: rest))) : own_Run p l e R s m args below meth c n0 Kf h k q (mkF m pc Ls (v :: rest)) :=
  own_st (fun T locs X eT t kk => by subst hp; exact Jvm.Free.XS.dup X.here C.g_x rfl (hb C.g_by hd) rfl hc kk) r
theorem own_pop (C : own_Ctx p s m meth c Z own nm bytes maxL ret) {v : Value} (hd : decode bytes pc = .ok (.pop, 1)) (hp : pc + 1 = pc') (hc : v.category = 1) (r : own_Run p l e R s m args below meth c n0 Kf h k q (mkF m pc' Ls (rest))) : own_Run p l e R s m args below meth c n0 Kf h k q (mkF m pc Ls (v :: rest)) :=
  own_st (fun T locs X eT t kk => by subst hp; exact Jvm.Free.XT.pop X.here C.g_x rfl (hb C.g_by hd) rfl hc kk) r
theorem own_dupX1 (C : own_Ctx p s m meth c Z own nm bytes maxL ret) {v w : Value} (hd : decode bytes pc = .ok (.dup_x1, 1)) (hp : pc + 1 = pc') (hc : v.category = 1) (hc' : w.category = 1) (r : own_Run p l e R s m args below meth c n0 Kf h k q (mkF m pc' Ls (v :: w :: v :: rest))) : own_Run p l e R s m args below meth c n0 Kf h k q (mkF m pc Ls (v :: w :: rest)) :=
  own_st (fun T locs X eT t kk => by subst hp; exact Jvm.Free.XT.dupX1 X.here C.g_x rfl (hb C.g_by hd) rfl hc hc' kk) r
theorem own_dup2 (C : own_Ctx p s m meth c Z own nm bytes maxL ret) {v w : Value} (hd : decode bytes pc = .ok (.dup2, 1)) (hp : pc + 1 = pc') (hc : v.category = 1) (hc' : w.category = 1) (r : own_Run p l e R s m args below meth c n0 Kf h k q (mkF m pc' Ls (v :: w :: v :: w :: rest))) : own_Run p l e R s m args below meth c n0 Kf h k q (mkF m pc Ls (v :: w :: rest)) :=
  own_st (fun T locs X eT t kk => by subst hp; exact Jvm.Free.XT.dup2 X.here C.g_x rfl (hb C.g_by hd) rfl hc hc' kk) r
theorem own_iadd (C : own_Ctx p s m meth c Z own nm bytes maxL ret) {x y : Int32} (hd : decode bytes pc = .ok (.iadd, 1)) (hp : pc + 1 = pc')  (r : own_Run p l e R s m args below meth c n0 Kf h k q (mkF m pc' Ls (.int (x + y) :: rest))) : own_Run p l e R s m args below meth c n0 Kf h k q (mkF m pc Ls (.int y :: .int x :: rest)) :=
  own_st (fun T locs X eT t kk => by subst hp; exact Jvm.Free.XS.iadd X.here C.g_x rfl (hb C.g_by hd) rfl kk) r
theorem own_isub (C : own_Ctx p s m meth c Z own nm bytes maxL ret) {x y : Int32} (hd : decode bytes pc = .ok (.isub, 1)) (hp : pc + 1 = pc')  (r : own_Run p l e R s m args below meth c n0 Kf h k q (mkF m pc' Ls (.int (x - y) :: rest))) : own_Run p l e R s m args below meth c n0 Kf h k q (mkF m pc Ls (.int y :: .int x :: rest)) :=
  own_st (fun T locs X eT t kk => by subst hp; exact Jvm.Free.XS.isub X.here C.g_x rfl (hb C.g_by hd) rfl kk) r
theorem own_iand (C : own_Ctx p s m meth c Z own nm bytes maxL ret) {x y : Int32} (hd : decode bytes pc = .ok (.iand, 1)) (hp : pc + 1 = pc')  (r : own_Run p l e R s m args below meth c n0 Kf h k q (mkF m pc' Ls (.int (x &&& y) :: rest))) : own_Run p l e R s m args below meth c n0 Kf h k q (mkF m pc Ls (.int y :: .int x :: rest)) :=
  own_st (fun T locs X eT t kk => by subst hp; exact Jvm.Free.XS.iand X.here C.g_x rfl (hb C.g_by hd) rfl kk) r
theorem own_imul (C : own_Ctx p s m meth c Z own nm bytes maxL ret) {x y : Int32} (hd : decode bytes pc = .ok (.imul, 1)) (hp : pc + 1 = pc')  (r : own_Run p l e R s m args below meth c n0 Kf h k q (mkF m pc' Ls (.int (x * y) :: rest))) : own_Run p l e R s m args below meth c n0 Kf h k q (mkF m pc Ls (.int y :: .int x :: rest)) :=
  own_st (fun T locs X eT t kk => by subst hp; exact Jvm.Free.XS.imul X.here C.g_x rfl (hb C.g_by hd) rfl kk) r
theorem own_ior (C : own_Ctx p s m meth c Z own nm bytes maxL ret) {x y : Int32} (hd : decode bytes pc = .ok (.ior, 1)) (hp : pc + 1 = pc')  (r : own_Run p l e R s m args below meth c n0 Kf h k q (mkF m pc' Ls (.int (x ||| y) :: rest))) : own_Run p l e R s m args below meth c n0 Kf h k q (mkF m pc Ls (.int y :: .int x :: rest)) :=
  own_st (fun T locs X eT t kk => by subst hp; exact Jvm.Free.XT.ior X.here C.g_x rfl (hb C.g_by hd) rfl kk) r
theorem own_ixor (C : own_Ctx p s m meth c Z own nm bytes maxL ret) {x y : Int32} (hd : decode bytes pc = .ok (.ixor, 1)) (hp : pc + 1 = pc')  (r : own_Run p l e R s m args below meth c n0 Kf h k q (mkF m pc' Ls (.int (x ^^^ y) :: rest))) : own_Run p l e R s m args below meth c n0 Kf h k q (mkF m pc Ls (.int y :: .int x :: rest)) :=
  own_st (fun T locs X eT t kk => by subst hp; exact Jvm.Free.XT.ixor X.here C.g_x rfl (hb C.g_by hd) rfl kk) r
theorem own_ishl (C : own_Ctx p s m meth c Z own nm bytes maxL ret) {x y : Int32} (hd : decode bytes pc = .ok (.ishl, 1)) (hp : pc + 1 = pc')  (r : own_Run p l e R s m args below meth c n0 Kf h k q (mkF m pc' Ls (.int (x <<< (y &&& 31)) :: rest))) : own_Run p l e R s m args below meth c n0 Kf h k q (mkF m pc Ls (.int y :: .int x :: rest)) :=
  own_st (fun T locs X eT t kk => by subst hp; exact Jvm.Free.XT.ishl X.here C.g_x rfl (hb C.g_by hd) rfl kk) r
theorem own_ishr (C : own_Ctx p s m meth c Z own nm bytes maxL ret) {x y : Int32} (hd : decode bytes pc = .ok (.ishr, 1)) (hp : pc + 1 = pc')  (r : own_Run p l e R s m args below meth c n0 Kf h k q (mkF m pc' Ls (.int (x >>> (y &&& 31)) :: rest))) : own_Run p l e R s m args below meth c n0 Kf h k q (mkF m pc Ls (.int y :: .int x :: rest)) :=
  own_st (fun T locs X eT t kk => by subst hp; exact Jvm.Free.XT.ishr X.here C.g_x rfl (hb C.g_by hd) rfl kk) r
theorem own_iushr (C : own_Ctx p s m meth c Z own nm bytes maxL ret) {x y : Int32} (hd : decode bytes pc = .ok (.iushr, 1)) (hp : pc + 1 = pc')  (r : own_Run p l e R s m args below meth c n0 Kf h k q (mkF m pc' Ls (.int (Jvm.Free.XT.ushr x y) :: rest))) : own_Run p l e R s m args below meth c n0 Kf h k q (mkF m pc Ls (.int y :: .int x :: rest)) :=
  own_st (fun T locs X eT t kk => by subst hp; exact Jvm.Free.XT.iushr X.here C.g_x rfl (hb C.g_by hd) rfl kk) r
theorem own_irem (C : own_Ctx p s m meth c Z own nm bytes maxL ret) {x y : Int32} (hd : decode bytes pc = .ok (.irem, 1)) (hp : pc + 1 = pc') (hy : y ≠ 0) (r : own_Run p l e R s m args below meth c n0 Kf h k q (mkF m pc' Ls (.int (x % y) :: rest))) : own_Run p l e R s m args below meth c n0 Kf h k q (mkF m pc Ls (.int y :: .int x :: rest)) :=
  own_st (fun T locs X eT t kk => by subst hp; exact iremM X C.g_x rfl (hb C.g_by hd) rfl hy kk) r
theorem own_idivV (C : own_Ctx p s m meth c Z own nm bytes maxL ret) {x y v : Int32} (hd : decode bytes pc = .ok (.idiv, 1)) (hp : pc + 1 = pc') (hy : y ≠ 0) (hv : x / y = v) (r : own_Run p l e R s m args below meth c n0 Kf h k q (mkF m pc' Ls (.int v :: rest))) : own_Run p l e R s m args below meth c n0 Kf h k q (mkF m pc Ls (.int y :: .int x :: rest)) :=
  own_st (fun T locs X eT t kk => by subst hp; exact Jvm.Free.XS.idiv X.here C.g_x rfl (hb C.g_by hd) rfl hy (by rw [hv]; exact kk)) r
theorem own_ineg (C : own_Ctx p s m meth c Z own nm bytes maxL ret) {x : Int32} (hd : decode bytes pc = .ok (.ineg, 1)) (hp : pc + 1 = pc')  (r : own_Run p l e R s m args below meth c n0 Kf h k q (mkF m pc' Ls (.int (-x) :: rest))) : own_Run p l e R s m args below meth c n0 Kf h k q (mkF m pc Ls (.int x :: rest)) :=
  own_st (fun T locs X eT t kk => by subst hp; exact Jvm.Free.XS.ineg X.here C.g_x rfl (hb C.g_by hd) rfl kk) r
theorem own_ladd (C : own_Ctx p s m meth c Z own nm bytes maxL ret) {x y : Int64} (hd : decode bytes pc = .ok (.ladd, 1)) (hp : pc + 1 = pc')  (r : own_Run p l e R s m args below meth c n0 Kf h k q (mkF m pc' Ls (.long (x + y) :: rest))) : own_Run p l e R s m args below meth c n0 Kf h k q (mkF m pc Ls (.long y :: .long x :: rest)) :=
  own_st (fun T locs X eT t kk => by subst hp; exact Jvm.Free.XT.ladd X.here C.g_x rfl (hb C.g_by hd) rfl kk) r
theorem own_lsub (C : own_Ctx p s m meth c Z own nm bytes maxL ret) {x y : Int64} (hd : decode bytes pc = .ok (.lsub, 1)) (hp : pc + 1 = pc')  (r : own_Run p l e R s m args below meth c n0 Kf h k q (mkF m pc' Ls (.long (x - y) :: rest))) : own_Run p l e R s m args below meth c n0 Kf h k q (mkF m pc Ls (.long y :: .long x :: rest)) :=
  own_st (fun T locs X eT t kk => by subst hp; exact Jvm.Free.XT.lsub X.here C.g_x rfl (hb C.g_by hd) rfl kk) r
theorem own_land (C : own_Ctx p s m meth c Z own nm bytes maxL ret) {x y : Int64} (hd : decode bytes pc = .ok (.land, 1)) (hp : pc + 1 = pc')  (r : own_Run p l e R s m args below meth c n0 Kf h k q (mkF m pc' Ls (.long (x &&& y) :: rest))) : own_Run p l e R s m args below meth c n0 Kf h k q (mkF m pc Ls (.long y :: .long x :: rest)) :=
  own_st (fun T locs X eT t kk => by subst hp; exact Jvm.Free.XT.land X.here C.g_x rfl (hb C.g_by hd) rfl kk) r
theorem own_lor (C : own_Ctx p s m meth c Z own nm bytes maxL ret) {x y : Int64} (hd : decode bytes pc = .ok (.lor, 1)) (hp : pc + 1 = pc')  (r : own_Run p l e R s m args below meth c n0 Kf h k q (mkF m pc' Ls (.long (x ||| y) :: rest))) : own_Run p l e R s m args below meth c n0 Kf h k q (mkF m pc Ls (.long y :: .long x :: rest)) :=
  own_st (fun T locs X eT t kk => by subst hp; exact Jvm.Free.XT.lor X.here C.g_x rfl (hb C.g_by hd) rfl kk) r
theorem own_lxor (C : own_Ctx p s m meth c Z own nm bytes maxL ret) {x y : Int64} (hd : decode bytes pc = .ok (.lxor, 1)) (hp : pc + 1 = pc')  (r : own_Run p l e R s m args below meth c n0 Kf h k q (mkF m pc' Ls (.long (x ^^^ y) :: rest))) : own_Run p l e R s m args below meth c n0 Kf h k q (mkF m pc Ls (.long y :: .long x :: rest)) :=
  own_st (fun T locs X eT t kk => by subst hp; exact Jvm.Free.XT.lxor X.here C.g_x rfl (hb C.g_by hd) rfl kk) r
theorem own_lmul (C : own_Ctx p s m meth c Z own nm bytes maxL ret) {x y : Int64} (hd : decode bytes pc = .ok (.lmul, 1)) (hp : pc + 1 = pc')  (r : own_Run p l e R s m args below meth c n0 Kf h k q (mkF m pc' Ls (.long (x * y) :: rest))) : own_Run p l e R s m args below meth c n0 Kf h k q (mkF m pc Ls (.long y :: .long x :: rest)) :=
  own_st (fun T locs X eT t kk => by subst hp; exact Jvm.Free.XT.lmul X.here C.g_x rfl (hb C.g_by hd) rfl kk) r
theorem own_lcmp (C : own_Ctx p s m meth c Z own nm bytes maxL ret) {x y : Int64} (hd : decode bytes pc = .ok (.lcmp, 1)) (hp : pc + 1 = pc')  (r : own_Run p l e R s m args below meth c n0 Kf h k q (mkF m pc' Ls (.int (Jvm.Free.XT.cmpL x y) :: rest))) : own_Run p l e R s m args below meth c n0 Kf h k q (mkF m pc Ls (.long y :: .long x :: rest)) :=
  own_st (fun T locs X eT t kk => by subst hp; exact Jvm.Free.XT.lcmp X.here C.g_x rfl (hb C.g_by hd) rfl kk) r
theorem own_lshl (C : own_Ctx p s m meth c Z own nm bytes maxL ret) {x : Int64} {y : Int32} (hd : decode bytes pc = .ok (.lshl, 1)) (hp : pc + 1 = pc')  (r : own_Run p l e R s m args below meth c n0 Kf h k q (mkF m pc' Ls (.long (x <<< (y.toInt64 &&& 63)) :: rest))) : own_Run p l e R s m args below meth c n0 Kf h k q (mkF m pc Ls (.int y :: .long x :: rest)) :=
  own_st (fun T locs X eT t kk => by subst hp; exact Jvm.Free.XT.lshl X.here C.g_x rfl (hb C.g_by hd) rfl kk) r
theorem own_i2l (C : own_Ctx p s m meth c Z own nm bytes maxL ret) {x : Int32} (hd : decode bytes pc = .ok (.i2l, 1)) (hp : pc + 1 = pc')  (r : own_Run p l e R s m args below meth c n0 Kf h k q (mkF m pc' Ls (.long (x.toInt64) :: rest))) : own_Run p l e R s m args below meth c n0 Kf h k q (mkF m pc Ls (.int x :: rest)) :=
  own_st (fun T locs X eT t kk => by subst hp; exact Jvm.Free.XT.i2l X.here C.g_x rfl (hb C.g_by hd) rfl kk) r
theorem own_l2i (C : own_Ctx p s m meth c Z own nm bytes maxL ret) {x : Int64} (hd : decode bytes pc = .ok (.l2i, 1)) (hp : pc + 1 = pc')  (r : own_Run p l e R s m args below meth c n0 Kf h k q (mkF m pc' Ls (.int (x.toInt32) :: rest))) : own_Run p l e R s m args below meth c n0 Kf h k q (mkF m pc Ls (.long x :: rest)) :=
  own_st (fun T locs X eT t kk => by subst hp; exact Jvm.Free.XT.l2i X.here C.g_x rfl (hb C.g_by hd) rfl kk) r
theorem own_i2b (C : own_Ctx p s m meth c Z own nm bytes maxL ret) {x : Int32} (hd : decode bytes pc = .ok (.i2b, 1)) (hp : pc + 1 = pc')  (r : own_Run p l e R s m args below meth c n0 Kf h k q (mkF m pc' Ls (.int (x.toInt8.toInt32) :: rest))) : own_Run p l e R s m args below meth c n0 Kf h k q (mkF m pc Ls (.int x :: rest)) :=
  own_st (fun T locs X eT t kk => by subst hp; exact Jvm.Free.XT.i2b X.here C.g_x rfl (hb C.g_by hd) rfl kk) r
theorem own_i2c (C : own_Ctx p s m meth c Z own nm bytes maxL ret) {x : Int32} (hd : decode bytes pc = .ok (.i2c, 1)) (hp : pc + 1 = pc')  (r : own_Run p l e R s m args below meth c n0 Kf h k q (mkF m pc' Ls (.int (x.toUInt32.toUInt16.toUInt32.toInt32) :: rest))) : own_Run p l e R s m args below meth c n0 Kf h k q (mkF m pc Ls (.int x :: rest)) :=
  own_st (fun T locs X eT t kk => by subst hp; exact Jvm.Free.XT.i2c X.here C.g_x rfl (hb C.g_by hd) rfl kk) r
theorem own_iaddV (C : own_Ctx p s m meth c Z own nm bytes maxL ret) {x y v : Int32} (hd : decode bytes pc = .ok (.iadd, 1)) (hp : pc + 1 = pc') (hv : x + y = v) (r : own_Run p l e R s m args below meth c n0 Kf h k q (mkF m pc' Ls (.int v :: rest))) : own_Run p l e R s m args below meth c n0 Kf h k q (mkF m pc Ls (.int y :: .int x :: rest)) :=
  own_st (fun T locs X eT t kk => by subst hp; exact Jvm.Free.XS.iadd X.here C.g_x rfl (hb C.g_by hd) rfl (by rw [hv]; exact kk)) r
theorem own_isubV (C : own_Ctx p s m meth c Z own nm bytes maxL ret) {x y v : Int32} (hd : decode bytes pc = .ok (.isub, 1)) (hp : pc + 1 = pc') (hv : x - y = v) (r : own_Run p l e R s m args below meth c n0 Kf h k q (mkF m pc' Ls (.int v :: rest))) : own_Run p l e R s m args below meth c n0 Kf h k q (mkF m pc Ls (.int y :: .int x :: rest)) :=
  own_st (fun T locs X eT t kk => by subst hp; exact Jvm.Free.XS.isub X.here C.g_x rfl (hb C.g_by hd) rfl (by rw [hv]; exact kk)) r
theorem own_imulV (C : own_Ctx p s m meth c Z own nm bytes maxL ret) {x y v : Int32} (hd : decode bytes pc = .ok (.imul, 1)) (hp : pc + 1 = pc') (hv : x * y = v) (r : own_Run p l e R s m args below meth c n0 Kf h k q (mkF m pc' Ls (.int v :: rest))) : own_Run p l e R s m args below meth c n0 Kf h k q (mkF m pc Ls (.int y :: .int x :: rest)) :=
  own_st (fun T locs X eT t kk => by subst hp; exact Jvm.Free.XS.imul X.here C.g_x rfl (hb C.g_by hd) rfl (by rw [hv]; exact kk)) r
theorem own_iandV (C : own_Ctx p s m meth c Z own nm bytes maxL ret) {x y v : Int32} (hd : decode bytes pc = .ok (.iand, 1)) (hp : pc + 1 = pc') (hv : x &&& y = v) (r : own_Run p l e R s m args below meth c n0 Kf h k q (mkF m pc' Ls (.int v :: rest))) : own_Run p l e R s m args below meth c n0 Kf h k q (mkF m pc Ls (.int y :: .int x :: rest)) :=
  own_st (fun T locs X eT t kk => by subst hp; exact Jvm.Free.XS.iand X.here C.g_x rfl (hb C.g_by hd) rfl (by rw [hv]; exact kk)) r
theorem own_goto (C : own_Ctx p s m meth c Z own nm bytes maxL ret) {o : Int} {st : List Value} (hd : decode bytes pc = .ok (.goto o, 3)) (ho : (pc : Int) + o = (pc' : Int)) (r : own_Run p l e R s m args below meth c n0 Kf h k q (mkF m pc' Ls st)) : own_Run p l e R s m args below meth c n0 Kf h k q (mkF m pc Ls st) :=
  own_st (fun T locs X eT t kk => Jvm.Free.XS.goto X.here C.g_x rfl (pc0 := pc) (pc' := pc') rfl (hb C.g_by hd) (by omega) (by omega) kk) r
theorem own_ii_eq (C : own_Ctx p s m meth c Z own nm bytes maxL ret) {o : Int} {x y : Int32} (hd : decode bytes pc = .ok (.if_icmp .eq o, 3)) (ho : (pc : Int) + o = (pc1 : Int)) (hp : pc + 3 = pc2) (r1 : x = y → own_Run p l e R s m args below meth c n0 Kf h k q (mkF m pc1 Ls rest)) (r2 : ¬ x = y → own_Run p l e R s m args below meth c n0 Kf h k q (mkF m pc2 Ls rest)) : own_Run p l e R s m args below meth c n0 Kf h k q (mkF m pc Ls (.int y :: .int x :: rest)) := by
  by_cases hc : x = y
  · exact own_st (fun T locs X eT t kk => Jvm.Free.XS.icmpYes X.here C.g_x rfl (pc0 := pc) (pc' := pc1) rfl (hb C.g_by hd) rfl (Jvm.Free.XT.ii_eq_t hc) (by omega) (by omega) kk) (r1 hc)
  · subst hp; exact own_st (fun T locs X eT t kk => Jvm.Free.XS.icmpNo X.here C.g_x rfl (hb C.g_by hd) rfl (Jvm.Free.XT.ii_eq_f hc) kk) (r2 hc)
theorem own_i0_eq (C : own_Ctx p s m meth c Z own nm bytes maxL ret) {o : Int} {x : Int32} (hd : decode bytes pc = .ok (.ifCond .eq o, 3)) (ho : (pc : Int) + o = (pc1 : Int)) (hp : pc + 3 = pc2) (r1 : x = 0 → own_Run p l e R s m args below meth c n0 Kf h k q (mkF m pc1 Ls rest)) (r2 : ¬ x = 0 → own_Run p l e R s m args below meth c n0 Kf h k q (mkF m pc2 Ls rest)) : own_Run p l e R s m args below meth c n0 Kf h k q (mkF m pc Ls (.int x :: rest)) := by
  by_cases hc : x = 0
  · exact own_st (fun T locs X eT t kk => Jvm.Free.XS.ifYes X.here C.g_x rfl (pc0 := pc) (pc' := pc1) rfl (hb C.g_by hd) rfl (Jvm.Free.XT.i0_eq_t hc) (by omega) (by omega) kk) (r1 hc)
  · subst hp; exact own_st (fun T locs X eT t kk => Jvm.Free.XS.ifNo X.here C.g_x rfl (hb C.g_by hd) rfl (Jvm.Free.XT.i0_eq_f hc) kk) (r2 hc)
theorem own_ll_eq (C : own_Ctx p s m meth c Z own nm bytes maxL ret) {o : Int} {x y : Int64} (hd : decode bytes pc = .ok (.ifCond .eq o, 3)) (ho : (pc : Int) + o = (pc1 : Int)) (hp : pc + 3 = pc2) (r1 : x = y → own_Run p l e R s m args below meth c n0 Kf h k q (mkF m pc1 Ls rest)) (r2 : ¬ x = y → own_Run p l e R s m args below meth c n0 Kf h k q (mkF m pc2 Ls rest)) : own_Run p l e R s m args below meth c n0 Kf h k q (mkF m pc Ls (.int (Jvm.Free.XT.cmpL x y) :: rest)) := by
  by_cases hc : x = y
  · exact own_st (fun T locs X eT t kk => Jvm.Free.XS.ifYes X.here C.g_x rfl (pc0 := pc) (pc' := pc1) rfl (hb C.g_by hd) rfl (Jvm.Free.XT.ll_eq_t hc) (by omega) (by omega) kk) (r1 hc)
  · subst hp; exact own_st (fun T locs X eT t kk => Jvm.Free.XS.ifNo X.here C.g_x rfl (hb C.g_by hd) rfl (Jvm.Free.XT.ll_eq_f hc) kk) (r2 hc)
theorem own_ii_ne (C : own_Ctx p s m meth c Z own nm bytes maxL ret) {o : Int} {x y : Int32} (hd : decode bytes pc = .ok (.if_icmp .ne o, 3)) (ho : (pc : Int) + o = (pc1 : Int)) (hp : pc + 3 = pc2) (r1 : ¬ x = y → own_Run p l e R s m args below meth c n0 Kf h k q (mkF m pc1 Ls rest)) (r2 : x = y → own_Run p l e R s m args below meth c n0 Kf h k q (mkF m pc2 Ls rest)) : own_Run p l e R s m args below meth c n0 Kf h k q (mkF m pc Ls (.int y :: .int x :: rest)) := by
  by_cases hc : x = y
  · subst hp; exact own_st (fun T locs X eT t kk => Jvm.Free.XS.icmpNo X.here C.g_x rfl (hb C.g_by hd) rfl (Jvm.Free.XT.ii_ne_f hc) kk) (r2 hc)
  · exact own_st (fun T locs X eT t kk => Jvm.Free.XS.icmpYes X.here C.g_x rfl (pc0 := pc) (pc' := pc1) rfl (hb C.g_by hd) rfl (Jvm.Free.XT.ii_ne_t hc) (by omega) (by omega) kk) (r1 hc)
theorem own_i0_ne (C : own_Ctx p s m meth c Z own nm bytes maxL ret) {o : Int} {x : Int32} (hd : decode bytes pc = .ok (.ifCond .ne o, 3)) (ho : (pc : Int) + o = (pc1 : Int)) (hp : pc + 3 = pc2) (r1 : ¬ x = 0 → own_Run p l e R s m args below meth c n0 Kf h k q (mkF m pc1 Ls rest)) (r2 : x = 0 → own_Run p l e R s m args below meth c n0 Kf h k q (mkF m pc2 Ls rest)) : own_Run p l e R s m args below meth c n0 Kf h k q (mkF m pc Ls (.int x :: rest)) := by
  by_cases hc : x = 0
  · subst hp; exact own_st (fun T locs X eT t kk => Jvm.Free.XS.ifNo X.here C.g_x rfl (hb C.g_by hd) rfl (Jvm.Free.XT.i0_ne_f hc) kk) (r2 hc)
  · exact own_st (fun T locs X eT t kk => Jvm.Free.XS.ifYes X.here C.g_x rfl (pc0 := pc) (pc' := pc1) rfl (hb C.g_by hd) rfl (Jvm.Free.XT.i0_ne_t hc) (by omega) (by omega) kk) (r1 hc)
theorem own_ll_ne (C : own_Ctx p s m meth c Z own nm bytes maxL ret) {o : Int} {x y : Int64} (hd : decode bytes pc = .ok (.ifCond .ne o, 3)) (ho : (pc : Int) + o = (pc1 : Int)) (hp : pc + 3 = pc2) (r1 : ¬ x = y → own_Run p l e R s m args below meth c n0 Kf h k q (mkF m pc1 Ls rest)) (r2 : x = y → own_Run p l e R s m args below meth c n0 Kf h k q (mkF m pc2 Ls rest)) : own_Run p l e R s m args below meth c n0 Kf h k q (mkF m pc Ls (.int (Jvm.Free.XT.cmpL x y) :: rest)) := by
  by_cases hc : x = y
  · subst hp; exact own_st (fun T locs X eT t kk => Jvm.Free.XS.ifNo X.here C.g_x rfl (hb C.g_by hd) rfl (Jvm.Free.XT.ll_ne_f hc) kk) (r2 hc)
  · exact own_st (fun T locs X eT t kk => Jvm.Free.XS.ifYes X.here C.g_x rfl (pc0 := pc) (pc' := pc1) rfl (hb C.g_by hd) rfl (Jvm.Free.XT.ll_ne_t hc) (by omega) (by omega) kk) (r1 hc)
theorem own_ii_lt (C : own_Ctx p s m meth c Z own nm bytes maxL ret) {o : Int} {x y : Int32} (hd : decode bytes pc = .ok (.if_icmp .lt o, 3)) (ho : (pc : Int) + o = (pc1 : Int)) (hp : pc + 3 = pc2) (r1 : x < y → own_Run p l e R s m args below meth c n0 Kf h k q (mkF m pc1 Ls rest)) (r2 : ¬ x < y → own_Run p l e R s m args below meth c n0 Kf h k q (mkF m pc2 Ls rest)) : own_Run p l e R s m args below meth c n0 Kf h k q (mkF m pc Ls (.int y :: .int x :: rest)) := by
  by_cases hc : x < y
  · exact own_st (fun T locs X eT t kk => Jvm.Free.XS.icmpYes X.here C.g_x rfl (pc0 := pc) (pc' := pc1) rfl (hb C.g_by hd) rfl (Jvm.Free.XT.ii_lt_t hc) (by omega) (by omega) kk) (r1 hc)
  · subst hp; exact own_st (fun T locs X eT t kk => Jvm.Free.XS.icmpNo X.here C.g_x rfl (hb C.g_by hd) rfl (Jvm.Free.XT.ii_lt_f hc) kk) (r2 hc)
theorem own_i0_lt (C : own_Ctx p s m meth c Z own nm bytes maxL ret) {o : Int} {x : Int32} (hd : decode bytes pc = .ok (.ifCond .lt o, 3)) (ho : (pc : Int) + o = (pc1 : Int)) (hp : pc + 3 = pc2) (r1 : x < 0 → own_Run p l e R s m args below meth c n0 Kf h k q (mkF m pc1 Ls rest)) (r2 : ¬ x < 0 → own_Run p l e R s m args below meth c n0 Kf h k q (mkF m pc2 Ls rest)) : own_Run p l e R s m args below meth c n0 Kf h k q (mkF m pc Ls (.int x :: rest)) := by
  by_cases hc : x < 0
  · exact own_st (fun T locs X eT t kk => Jvm.Free.XS.ifYes X.here C.g_x rfl (pc0 := pc) (pc' := pc1) rfl (hb C.g_by hd) rfl (Jvm.Free.XT.i0_lt_t hc) (by omega) (by omega) kk) (r1 hc)
  · subst hp; exact own_st (fun T locs X eT t kk => Jvm.Free.XS.ifNo X.here C.g_x rfl (hb C.g_by hd) rfl (Jvm.Free.XT.i0_lt_f hc) kk) (r2 hc)
theorem own_ll_lt (C : own_Ctx p s m meth c Z own nm bytes maxL ret) {o : Int} {x y : Int64} (hd : decode bytes pc = .ok (.ifCond .lt o, 3)) (ho : (pc : Int) + o = (pc1 : Int)) (hp : pc + 3 = pc2) (r1 : x < y → own_Run p l e R s m args below meth c n0 Kf h k q (mkF m pc1 Ls rest)) (r2 : ¬ x < y → own_Run p l e R s m args below meth c n0 Kf h k q (mkF m pc2 Ls rest)) : own_Run p l e R s m args below meth c n0 Kf h k q (mkF m pc Ls (.int (Jvm.Free.XT.cmpL x y) :: rest)) := by
  by_cases hc : x < y
  · exact own_st (fun T locs X eT t kk => Jvm.Free.XS.ifYes X.here C.g_x rfl (pc0 := pc) (pc' := pc1) rfl (hb C.g_by hd) rfl (Jvm.Free.XT.ll_lt_t hc) (by omega) (by omega) kk) (r1 hc)
  · subst hp; exact own_st (fun T locs X eT t kk => Jvm.Free.XS.ifNo X.here C.g_x rfl (hb C.g_by hd) rfl (Jvm.Free.XT.ll_lt_f hc) kk) (r2 hc)
theorem own_ii_ge (C : own_Ctx p s m meth c Z own nm bytes maxL ret) {o : Int} {x y : Int32} (hd : decode bytes pc = .ok (.if_icmp .ge o, 3)) (ho : (pc : Int) + o = (pc1 : Int)) (hp : pc + 3 = pc2) (r1 : ¬ x < y → own_Run p l e R s m args below meth c n0 Kf h k q (mkF m pc1 Ls rest)) (r2 : x < y → own_Run p l e R s m args below meth c n0 Kf h k q (mkF m pc2 Ls rest)) : own_Run p l e R s m args below meth c n0 Kf h k q (mkF m pc Ls (.int y :: .int x :: rest)) := by
  by_cases hc : x < y
  · subst hp; exact own_st (fun T locs X eT t kk => Jvm.Free.XS.icmpNo X.here C.g_x rfl (hb C.g_by hd) rfl (Jvm.Free.XT.ii_ge_f hc) kk) (r2 hc)
  · exact own_st (fun T locs X eT t kk => Jvm.Free.XS.icmpYes X.here C.g_x rfl (pc0 := pc) (pc' := pc1) rfl (hb C.g_by hd) rfl (Jvm.Free.XT.ii_ge_t hc) (by omega) (by omega) kk) (r1 hc)
theorem own_i0_ge (C : own_Ctx p s m meth c Z own nm bytes maxL ret) {o : Int} {x : Int32} (hd : decode bytes pc = .ok (.ifCond .ge o, 3)) (ho : (pc : Int) + o = (pc1 : Int)) (hp : pc + 3 = pc2) (r1 : ¬ x < 0 → own_Run p l e R s m args below meth c n0 Kf h k q (mkF m pc1 Ls rest)) (r2 : x < 0 → own_Run p l e R s m args below meth c n0 Kf h k q (mkF m pc2 Ls rest)) : own_Run p l e R s m args below meth c n0 Kf h k q (mkF m pc Ls (.int x :: rest)) := by
  by_cases hc : x < 0
  · subst hp; exact own_st (fun T locs X eT t kk => Jvm.Free.XS.ifNo X.here C.g_x rfl (hb C.g_by hd) rfl (Jvm.Free.XT.i0_ge_f hc) kk) (r2 hc)
  · exact own_st (fun T locs X eT t kk => Jvm.Free.XS.ifYes X.here C.g_x rfl (pc0 := pc) (pc' := pc1) rfl (hb C.g_by hd) rfl (Jvm.Free.XT.i0_ge_t hc) (by omega) (by omega) kk) (r1 hc)
theorem own_ll_ge (C : own_Ctx p s m meth c Z own nm bytes maxL ret) {o : Int} {x y : Int64} (hd : decode bytes pc = .ok (.ifCond .ge o, 3)) (ho : (pc : Int) + o = (pc1 : Int)) (hp : pc + 3 = pc2) (r1 : ¬ x < y → own_Run p l e R s m args below meth c n0 Kf h k q (mkF m pc1 Ls rest)) (r2 : x < y → own_Run p l e R s m args below meth c n0 Kf h k q (mkF m pc2 Ls rest)) : own_Run p l e R s m args below meth c n0 Kf h k q (mkF m pc Ls (.int (Jvm.Free.XT.cmpL x y) :: rest)) := by
  by_cases hc : x < y
  · subst hp; exact own_st (fun T locs X eT t kk => Jvm.Free.XS.ifNo X.here C.g_x rfl (hb C.g_by hd) rfl (Jvm.Free.XT.ll_ge_f hc) kk) (r2 hc)
  · exact own_st (fun T locs X eT t kk => Jvm.Free.XS.ifYes X.here C.g_x rfl (pc0 := pc) (pc' := pc1) rfl (hb C.g_by hd) rfl (Jvm.Free.XT.ll_ge_t hc) (by omega) (by omega) kk) (r1 hc)
theorem own_ii_gt (C : own_Ctx p s m meth c Z own nm bytes maxL ret) {o : Int} {x y : Int32} (hd : decode bytes pc = .ok (.if_icmp .gt o, 3)) (ho : (pc : Int) + o = (pc1 : Int)) (hp : pc + 3 = pc2) (r1 : y < x → own_Run p l e R s m args below meth c n0 Kf h k q (mkF m pc1 Ls rest)) (r2 : ¬ y < x → own_Run p l e R s m args below meth c n0 Kf h k q (mkF m pc2 Ls rest)) : own_Run p l e R s m args below meth c n0 Kf h k q (mkF m pc Ls (.int y :: .int x :: rest)) := by
  by_cases hc : y < x
  · exact own_st (fun T locs X eT t kk => Jvm.Free.XS.icmpYes X.here C.g_x rfl (pc0 := pc) (pc' := pc1) rfl (hb C.g_by hd) rfl (Jvm.Free.XT.ii_gt_t hc) (by omega) (by omega) kk) (r1 hc)
  · subst hp; exact own_st (fun T locs X eT t kk => Jvm.Free.XS.icmpNo X.here C.g_x rfl (hb C.g_by hd) rfl (Jvm.Free.XT.ii_gt_f hc) kk) (r2 hc)
theorem own_i0_gt (C : own_Ctx p s m meth c Z own nm bytes maxL ret) {o : Int} {x : Int32} (hd : decode bytes pc = .ok (.ifCond .gt o, 3)) (ho : (pc : Int) + o = (pc1 : Int)) (hp : pc + 3 = pc2) (r1 : 0 < x → own_Run p l e R s m args below meth c n0 Kf h k q (mkF m pc1 Ls rest)) (r2 : ¬ 0 < x → own_Run p l e R s m args below meth c n0 Kf h k q (mkF m pc2 Ls rest)) : own_Run p l e R s m args below meth c n0 Kf h k q (mkF m pc Ls (.int x :: rest)) := by
  by_cases hc : 0 < x
  · exact own_st (fun T locs X eT t kk => Jvm.Free.XS.ifYes X.here C.g_x rfl (pc0 := pc) (pc' := pc1) rfl (hb C.g_by hd) rfl (Jvm.Free.XT.i0_gt_t hc) (by omega) (by omega) kk) (r1 hc)
  · subst hp; exact own_st (fun T locs X eT t kk => Jvm.Free.XS.ifNo X.here C.g_x rfl (hb C.g_by hd) rfl (Jvm.Free.XT.i0_gt_f hc) kk) (r2 hc)
theorem own_ll_gt (C : own_Ctx p s m meth c Z own nm bytes maxL ret) {o : Int} {x y : Int64} (hd : decode bytes pc = .ok (.ifCond .gt o, 3)) (ho : (pc : Int) + o = (pc1 : Int)) (hp : pc + 3 = pc2) (r1 : y < x → own_Run p l e R s m args below meth c n0 Kf h k q (mkF m pc1 Ls rest)) (r2 : ¬ y < x → own_Run p l e R s m args below meth c n0 Kf h k q (mkF m pc2 Ls rest)) : own_Run p l e R s m args below meth c n0 Kf h k q (mkF m pc Ls (.int (Jvm.Free.XT.cmpL x y) :: rest)) := by
  by_cases hc : y < x
  · exact own_st (fun T locs X eT t kk => Jvm.Free.XS.ifYes X.here C.g_x rfl (pc0 := pc) (pc' := pc1) rfl (hb C.g_by hd) rfl (Jvm.Free.XT.ll_gt_t hc) (by omega) (by omega) kk) (r1 hc)
  · subst hp; exact own_st (fun T locs X eT t kk => Jvm.Free.XS.ifNo X.here C.g_x rfl (hb C.g_by hd) rfl (Jvm.Free.XT.ll_gt_f hc) kk) (r2 hc)
theorem own_ii_le (C : own_Ctx p s m meth c Z own nm bytes maxL ret) {o : Int} {x y : Int32} (hd : decode bytes pc = .ok (.if_icmp .le o, 3)) (ho : (pc : Int) + o = (pc1 : Int)) (hp : pc + 3 = pc2) (r1 : ¬ y < x → own_Run p l e R s m args below meth c n0 Kf h k q (mkF m pc1 Ls rest)) (r2 : y < x → own_Run p l e R s m args below meth c n0 Kf h k q (mkF m pc2 Ls rest)) : own_Run p l e R s m args below meth c n0 Kf h k q (mkF m pc Ls (.int y :: .int x :: rest)) := by
  by_cases hc : y < x
  · subst hp; exact own_st (fun T locs X eT t kk => Jvm.Free.XS.icmpNo X.here C.g_x rfl (hb C.g_by hd) rfl (Jvm.Free.XT.ii_le_f hc) kk) (r2 hc)
  · exact own_st (fun T locs X eT t kk => Jvm.Free.XS.icmpYes X.here C.g_x rfl (pc0 := pc) (pc' := pc1) rfl (hb C.g_by hd) rfl (Jvm.Free.XT.ii_le_t hc) (by omega) (by omega) kk) (r1 hc)
theorem own_i0_le (C : own_Ctx p s m meth c Z own nm bytes maxL ret) {o : Int} {x : Int32} (hd : decode bytes pc = .ok (.ifCond .le o, 3)) (ho : (pc : Int) + o = (pc1 : Int)) (hp : pc + 3 = pc2) (r1 : ¬ 0 < x → own_Run p l e R s m args below meth c n0 Kf h k q (mkF m pc1 Ls rest)) (r2 : 0 < x → own_Run p l e R s m args below meth c n0 Kf h k q (mkF m pc2 Ls rest)) : own_Run p l e R s m args below meth c n0 Kf h k q (mkF m pc Ls (.int x :: rest)) := by
  by_cases hc : 0 < x
  · subst hp; exact own_st (fun T locs X eT t kk => Jvm.Free.XS.ifNo X.here C.g_x rfl (hb C.g_by hd) rfl (Jvm.Free.XT.i0_le_f hc) kk) (r2 hc)
  · exact own_st (fun T locs X eT t kk => Jvm.Free.XS.ifYes X.here C.g_x rfl (pc0 := pc) (pc' := pc1) rfl (hb C.g_by hd) rfl (Jvm.Free.XT.i0_le_t hc) (by omega) (by omega) kk) (r1 hc)
theorem own_ll_le (C : own_Ctx p s m meth c Z own nm bytes maxL ret) {o : Int} {x y : Int64} (hd : decode bytes pc = .ok (.ifCond .le o, 3)) (ho : (pc : Int) + o = (pc1 : Int)) (hp : pc + 3 = pc2) (r1 : ¬ y < x → own_Run p l e R s m args below meth c n0 Kf h k q (mkF m pc1 Ls rest)) (r2 : y < x → own_Run p l e R s m args below meth c n0 Kf h k q (mkF m pc2 Ls rest)) : own_Run p l e R s m args below meth c n0 Kf h k q (mkF m pc Ls (.int (Jvm.Free.XT.cmpL x y) :: rest)) := by
  by_cases hc : y < x
  · subst hp; exact own_st (fun T locs X eT t kk => Jvm.Free.XS.ifNo X.here C.g_x rfl (hb C.g_by hd) rfl (Jvm.Free.XT.ll_le_f hc) kk) (r2 hc)
  · exact own_st (fun T locs X eT t kk => Jvm.Free.XS.ifYes X.here C.g_x rfl (pc0 := pc) (pc' := pc1) rfl (hb C.g_by hd) rfl (Jvm.Free.XT.ll_le_t hc) (by omega) (by omega) kk) (r1 hc)
theorem own_aa_eq (C : own_Ctx p s m meth c Z own nm bytes maxL ret) {o : Int} {x y : Value} (hx1 : x.isRef = true) (hy1 : y.isRef = true) (hd : decode bytes pc = .ok (.if_acmp .eq o, 3)) (ho : (pc : Int) + o = (pc1 : Int)) (hp : pc + 3 = pc2) (r1 : x = y → own_Run p l e R s m args below meth c n0 Kf h k q (mkF m pc1 Ls rest)) (r2 : ¬ x = y → own_Run p l e R s m args below meth c n0 Kf h k q (mkF m pc2 Ls rest)) : own_Run p l e R s m args below meth c n0 Kf h k q (mkF m pc Ls (y :: x :: rest)) := by
  by_cases hc : x = y
  · exact own_st (fun T locs X eT t kk => Jvm.Free.XT.acmpYes X.here C.g_x rfl (pc0 := pc) (pc' := pc1) rfl (hb C.g_by hd) rfl hx1 hy1 (Jvm.Free.XT.aa_eq_t hc) (by omega) (by omega) kk) (r1 hc)
  · subst hp; exact own_st (fun T locs X eT t kk => Jvm.Free.XT.acmpNo X.here C.g_x rfl (hb C.g_by hd) rfl hx1 hy1 (Jvm.Free.XT.aa_eq_f hc) kk) (r2 hc)
theorem own_aa_ne (C : own_Ctx p s m meth c Z own nm bytes maxL ret) {o : Int} {x y : Value} (hx1 : x.isRef = true) (hy1 : y.isRef = true) (hd : decode bytes pc = .ok (.if_acmp .ne o, 3)) (ho : (pc : Int) + o = (pc1 : Int)) (hp : pc + 3 = pc2) (r1 : ¬ x = y → own_Run p l e R s m args below meth c n0 Kf h k q (mkF m pc1 Ls rest)) (r2 : x = y → own_Run p l e R s m args below meth c n0 Kf h k q (mkF m pc2 Ls rest)) : own_Run p l e R s m args below meth c n0 Kf h k q (mkF m pc Ls (y :: x :: rest)) := by
  by_cases hc : x = y
  · subst hp; exact own_st (fun T locs X eT t kk => Jvm.Free.XT.acmpNo X.here C.g_x rfl (hb C.g_by hd) rfl hx1 hy1 (Jvm.Free.XT.aa_ne_f hc) kk) (r2 hc)
  · exact own_st (fun T locs X eT t kk => Jvm.Free.XT.acmpYes X.here C.g_x rfl (pc0 := pc) (pc' := pc1) rfl (hb C.g_by hd) rfl hx1 hy1 (Jvm.Free.XT.aa_ne_t hc) (by omega) (by omega) kk) (r1 hc)
theorem own_nullNo (C : own_Ctx p s m meth c Z own nm bytes maxL ret) {o : Int} {a : Addr} (hd : decode bytes pc = .ok (.ifnull o, 3)) (hp : pc + 3 = pc') (r : own_Run p l e R s m args below meth c n0 Kf h k q (mkF m pc' Ls rest)) : own_Run p l e R s m args below meth c n0 Kf h k q (mkF m pc Ls (.ref a :: rest)) :=
  own_st (fun T locs X eT t kk => by subst hp; exact Jvm.Free.XS.ifnullNo X.here C.g_x rfl (hb C.g_by hd) rfl kk) r
theorem own_getF (C : own_Ctx p s m meth c Z own nm bytes maxL ret) {i : Nat} {O n d : String} {a : Addr} {v : Value} (w : (Jvm.Cond.fieldLink own i O n d).before a0 Z = true) (F : Fld Z h a O n d v) (hd : decode bytes pc = .ok (.getfield i, 3)) (hp : pc + 3 = pc') (r : own_Run p l e R s m args below meth c n0 Kf h k q (mkF m pc' Ls (v :: rest))) : own_Run p l e R s m args below meth c n0 Kf h k q (mkF m pc Ls (.ref a :: rest)) := fun T locs X eT N => by
  subst hp
  obtain ⟨T1, X1, e1, st1⟩ := getF X C.g_x C.g_z C.g_own (host := "") (Or.inl w) Via.refl eT F (g := mkF m pc Ls (.ref a :: rest)) rfl rfl (hb C.g_by hd)
  obtain ⟨t, o, h1, h2⟩ := r T1 locs X1 e1 N
  exact ⟨t, o, st1 _ h1, h2⟩
theorem own_putF (C : own_Ctx p s m meth c Z own nm bytes maxL ret) {i kk : Nat} {O n d K : String} {a : Addr} {v old : Value} {ty : FieldType} (w : (Jvm.Cond.fieldLink own i O n d).before a0 Z = true) (F : Fld Z h a O n d old) (E : Exa Z h a K) (L : (Jvm.Cond.lays K O n d).before a0 Z = true ∨ ((Jvm.Cond.laysFinal K O n d).before a0 Z = true ∧ own = O ∧ nm = "<init>")) (wi : (Jvm.Cond.instantiable K kk).before a0 Z = true) (hty : parseFieldDescriptor d = some ty) (hn : narrow ty v = v) (hf : fits ty v = true) (ga : n0 ≤ a) (hd : decode bytes pc = .ok (.putfield i, 3)) (hp : pc + 3 = pc')
    (r : ∀ h', Wr h h' a (Jvm.RoadKit.slotOf Z O n d) v → own_Run p l e R s m args below meth c n0 Kf h' k q (mkF m pc' Ls rest)) : own_Run p l e R s m args below meth c n0 Kf h k q (mkF m pc Ls (v :: .ref a :: rest)) := fun T locs X eT N => by
  subst hp
  obtain ⟨T1, h1, X1, e1, W1, st1⟩ := putF X C.g_x C.g_z C.g_own (host := "") (Or.inl w) Via.refl eT F E (L.imp id fun x => ⟨x.1, x.2.1, C.g_nm.trans x.2.2⟩) wi hty hn hf (g := mkF m pc Ls (v :: .ref a :: rest)) rfl rfl (hb C.g_by hd)
  obtain ⟨t, o, h2, h3⟩ := r h1 W1 T1 _ X1 e1 (Fr.snoc X1 N ga)
  exact ⟨t, o, st1 _ h2, h3⟩
theorem own_getS (C : own_Ctx p s m meth c Z own nm bytes maxL ret) {i : Nat} {O n d : String} {v : Value} (w : (Jvm.Cond.fieldLink own i O n d).before a0 Z = true) (F : Sta Z h O n d v) (hd : decode bytes pc = .ok (.getstatic i, 3)) (hp : pc + 3 = pc') (r : own_Run p l e R s m args below meth c n0 Kf h k q (mkF m pc' Ls (v :: rest))) : own_Run p l e R s m args below meth c n0 Kf h k q (mkF m pc Ls rest) := fun T locs X eT N => by
  subst hp
  obtain ⟨T1, X1, e1, st1⟩ := getS (host := "") X C.g_x C.g_z C.g_own w Via.refl eT F (g := mkF m pc Ls rest) rfl (hb C.g_by hd)
  obtain ⟨t, o, h1, h2⟩ := r T1 locs X1 e1 N
  exact ⟨t, o, st1 _ h1, h2⟩
theorem own_new (C : own_Ctx p s m meth c Z own nm bytes maxL ret) {i n : Nat} {K : String} (w : (Jvm.Cond.classLink own i K).before a0 Z = true) (wi : (Jvm.Cond.instantiable K n).before a0 Z = true) (wz : (Jvm.Cond.initialized K).before a0 Z = true) (Z0 : n0 ≤ h.size) (hd : decode bytes pc = .ok (.new i, 3)) (hp : pc + 3 = pc') (hc : k + 1 ≤ R.cells) (hs : q + n ≤ R.slots)
    (r : ∀ h' a, a = h.size → n0 ≤ a → n0 ≤ h'.size → Ext h h' → Exa Z h' a K → (∀ {O nm d : String} {ty : FieldType}, Laid Z a0 K O nm d → parseFieldDescriptor d = some ty → Fld Z h' a O nm d (defaultValue ty)) → own_Run p l e R s m args below meth c n0 Kf h' (k + 1) (q + n) (mkF m pc' Ls (.ref a :: rest))) : own_Run p l e R s m args below meth c n0 Kf h k q (mkF m pc Ls rest) := fun T locs X eT N => by
  subst hp
  obtain ⟨T1, h1, X1, e1, E1, A1, D1, -, st1⟩ := newO X C.g_x C.g_z C.g_own w wi wz eT (g := mkF m pc Ls rest) rfl (hb C.g_by hd) hc hs
  obtain ⟨t, o, h2, h3⟩ := r h1 h.size rfl Z0 (Nat.le_trans Z0 E1.1) E1 A1 (fun L ht => D1 L ht) T1 _ X1 e1 N
  exact ⟨t, o, st1 _ h2, h3⟩
theorem own_initO (C : own_Ctx p s m meth c Z own nm bytes maxL ret) {i : Nat} {a : Addr} {W : Nat} (w1 : (Jvm.Cond.methodLink own i Lib.objectInit).before a0 Z = true) (w2 : (Jvm.Cond.instanceMethod Lib.objectInit).before a0 Z = true) (w3 : (Jvm.Cond.code Lib.objectInit ⟨#[0xb1]⟩ 1 none).before a0 Z = true) (hd : decode bytes pc = .ok (.invokespecial i, 3)) (hp : pc + 3 = pc') (hsz : Ls.size = maxL) (hf : 1 ≤ R.frames) (hW : 0 + (rest.map fun v => v.category).sum ≤ W) (hl : W + 12 ≤ R.locals)
    (r : own_Run p l e R s m args below meth c n0 Kf h k q (mkF m pc' Ls rest)) : own_Run p l e R s m args below meth c n0 Kf h k q (mkF m pc Ls (.ref a :: rest)) := fun T locs X eT N => by
  subst hp
  obtain ⟨T1, X1, e1, st1⟩ := initO X C.g_x C.g_z C.g_own w1 w2 w3 eT (g := mkF m pc Ls (.ref a :: rest)) rfl (by rw [C.g_ml]; exact hsz) rfl (hb C.g_by hd) hf (W := W) (by show 2 * 0 + _ ≤ _; exact hW) hl
  obtain ⟨t, o, h1, h2⟩ := r T1 locs X1 e1 N
  exact ⟨t, o, st1 _ h1, h2⟩
theorem own_callN (C : own_Ctx p s m meth c Z own nm bytes maxL ret) {i : Nat} {y : MethodName} {cb : ByteArray} {cm : Nat} {rm : Room} {a : Addr} {argsL : List Value} {Q' : Option Value → Heap → Prop} (W : Nat) (hy1 : y.name = "<init>") (w1 : (Jvm.Cond.methodLink own i y).before a0 Z = true) (w2 : (Jvm.Cond.instanceMethod y).before a0 Z = true) (w3 : (Jvm.Cond.code y cb cm none).before a0 Z = true) (w4 : (Jvm.Cond.initialized y.cls).before a0 Z = true) (hy : y.cls ≠ "java/lang/invoke/MethodHandle" ∧ y.cls ≠ "java/lang/invoke/VarHandle")
    (hM : own_Met l Z n0 y cb cm none rm [] (.ref a :: argsL).toArray h Q') (hf : rm.frames + 1 ≤ R.frames) (hl : W + (cm + 11) + rm.locals ≤ R.locals) (hlen : ∀ sig, parseMethodDescriptor y.desc = some sig → argsL.length = sig.parameters.length) {st : List Value} (hst : st = argsL.reverse ++ .ref a :: rest) (hW : 0 + (rest.map fun v => v.category).sum ≤ W) (hd : decode bytes pc = .ok (.invokespecial i, 3)) (hp : pc + 3 = pc') (hsz : Ls.size = maxL) (hc : k + rm.cells ≤ R.cells) (hs : q + rm.slots ≤ R.slots)
    (r : ∀ v h', Q' v h' → own_Run p l e R s m args below meth c n0 Kf h' (k + rm.cells) (q + rm.slots) (mkF m pc' Ls (v.toList ++ rest))) : own_Run p l e R s m args below meth c n0 Kf h k q (mkF m pc Ls st) := fun T locs X eT N => by
  subst hp
  obtain ⟨v, _, ⟨T1, L1, k1, n1⟩, -, X1, ⟨Lc1, hQ1, l1, y1, z1⟩, st1⟩ := X.specialBack C.g_x (y := y) hy1 C.g_own (mvT C.g_z w1) (mvT C.g_z w2) (mvT C.g_z w3) hy (backOf (W := W) (Q := fun v h L => Fr n0 L ∧ Q' v h) hM C.g_z w3 w4 hf hl) (g := mkF m pc Ls st) rfl (by rw [C.g_ml]; exact hsz) (Steps.refl _) (a := a) (argsL := argsL) (rest := rest) hlen hst (by show 2 * 0 + _ ≤ _; exact hW) (hb C.g_by hd) (fun _ _ => ⟨rfl, eT, hc, hs⟩)
  dsimp only [Pt.U, Pt.locs, Pt.cells, Pt.slots] at X1 l1 y1 z1 st1 hQ1
  subst l1 y1 z1
  obtain ⟨t, o, h2, h3⟩ := r v T1.heap hQ1.2 T1 _ X1 rfl (Fr.app N hQ1.1)
  exact ⟨t, o, st1.trans h2, h3⟩
theorem own_callV (C : own_Ctx p s m meth c Z own nm bytes maxL ret) {i : Nat} {y : MethodName} {cb : ByteArray} {cm : Nat} {cret : Option FieldType} {rm : Room} {a : Addr} {argsL : List Value} {Q' : Option Value → Heap → Prop} (W : Nat) (E : Exa Z h a y.cls) (w1 : (Jvm.Cond.methodLink own i y).before a0 Z = true) (w2 : (Jvm.Cond.declares y).before a0 Z = true) (w3 : (Jvm.Cond.selects y.cls y y).before a0 Z = true) (w4 : (Jvm.Cond.instanceMethod y).before a0 Z = true) (w5 : (Jvm.Cond.code y cb cm cret).before a0 Z = true) (w6 : (Jvm.Cond.initialized y.cls).before a0 Z = true) (hy : y.cls ≠ "java/lang/invoke/MethodHandle" ∧ y.cls ≠ "java/lang/invoke/VarHandle")
    (hM : own_Met l Z n0 y cb cm cret rm [] (.ref a :: argsL).toArray h Q') (hf : rm.frames + 1 ≤ R.frames) (hl : W + (cm + 11) + rm.locals ≤ R.locals) (hlen : ∀ sig, parseMethodDescriptor y.desc = some sig → argsL.length = sig.parameters.length) {st : List Value} (hst : st = argsL.reverse ++ .ref a :: rest) (hW : 0 + (rest.map fun v => v.category).sum ≤ W) (hd : decode bytes pc = .ok (.invokevirtual i, 3)) (hp : pc + 3 = pc') (hsz : Ls.size = maxL) (hc : k + rm.cells ≤ R.cells) (hs : q + rm.slots ≤ R.slots)
    (r : ∀ v h', Q' v h' → own_Run p l e R s m args below meth c n0 Kf h' (k + rm.cells) (q + rm.slots) (mkF m pc' Ls (v.toList ++ rest))) : own_Run p l e R s m args below meth c n0 Kf h k q (mkF m pc Ls st) := fun T locs X eT N => by
  subst hp
  obtain ⟨cq, kq, qa, qb, qc⟩ := isOf C.g_z eT E
  obtain ⟨v, _, ⟨T1, L1, k1, n1⟩, -, X1, ⟨Lc1, hQ1, l1, y1, z1⟩, st1⟩ := X.virtualBack C.g_x (y := y) (z := y) C.g_own (mvT C.g_z w1) (mvT C.g_z w2) (notFace_of_selects (args := #[]) (mvT C.g_z w3)) (mvT C.g_z w3) (mvT C.g_z w4) hy (backOf (W := W) (Q := fun v h L => Fr n0 L ∧ Q' v h) hM C.g_z w5 w6 hf hl) qa qc (g := mkF m pc Ls st) rfl (by rw [C.g_ml]; exact hsz) (Steps.refl _) (argsL := argsL) (rest := rest) hlen hst (by show 2 * 0 + _ ≤ _; exact hW) (hb C.g_by hd) (fun _ _ => ⟨rfl, eT, hc, hs⟩)
  dsimp only [Pt.U, Pt.locs, Pt.cells, Pt.slots] at X1 l1 y1 z1 st1 hQ1
  subst l1 y1 z1
  obtain ⟨t, o, h2, h3⟩ := r v T1.heap hQ1.2 T1 _ X1 rfl (Fr.app N hQ1.1)
  exact ⟨t, o, st1.trans h2, h3⟩
theorem own_callS (C : own_Ctx p s m meth c Z own nm bytes maxL ret) {i : Nat} {y : MethodName} {cb : ByteArray} {cm : Nat} {cret : Option FieldType} {rm : Room} {argsL : List Value} {Q' : Option Value → Heap → Prop} (W : Nat) (w1 : (Jvm.Cond.methodLink own i y).before a0 Z = true) (w2 : (Jvm.Cond.static y).before a0 Z = true) (w3 : (Jvm.Cond.initialized y.cls).before a0 Z = true) (w4 : (Jvm.Cond.code y cb cm cret).before a0 Z = true) (hy : y.cls ≠ "java/lang/invoke/MethodHandle" ∧ y.cls ≠ "java/lang/invoke/VarHandle")
    (hM : own_Met l Z n0 y cb cm cret rm [] argsL.toArray h Q') (hf : rm.frames + 1 ≤ R.frames) (hl : W + (cm + 11) + rm.locals ≤ R.locals) (hlen : ∀ sig, parseMethodDescriptor y.desc = some sig → argsL.length = sig.parameters.length) {st : List Value} (hst : st = argsL.reverse ++ rest) (hW : 0 + (rest.map fun v => v.category).sum ≤ W) (hd : decode bytes pc = .ok (.invokestatic i, 3)) (hp : pc + 3 = pc') (hsz : Ls.size = maxL) (hc : k + rm.cells ≤ R.cells) (hs : q + rm.slots ≤ R.slots)
    (r : ∀ v h', Q' v h' → own_Run p l e R s m args below meth c n0 Kf h' (k + rm.cells) (q + rm.slots) (mkF m pc' Ls (v.toList ++ rest))) : own_Run p l e R s m args below meth c n0 Kf h k q (mkF m pc Ls st) := fun T locs X eT N => by
  subst hp
  obtain ⟨v, _, ⟨T1, L1, k1, n1⟩, -, X1, ⟨Lc1, hQ1, l1, y1, z1⟩, st1⟩ := Jvm.LawKit.callS X C.g_x (y := y) C.g_own (mvT C.g_z w1) (mvT C.g_z w2) (mvT C.g_z w3) (mvT C.g_z w4) hy (backOf (W := W) (Q := fun v h L => Fr n0 L ∧ Q' v h) hM C.g_z w4 w3 hf hl) (g := mkF m pc Ls st) rfl (by rw [C.g_ml]; exact hsz) (argsL := argsL) (rest := rest) hlen hst (by show 2 * 0 + _ ≤ _; exact hW) (hb C.g_by hd) (fun _ _ => ⟨rfl, eT, hc, hs⟩)
  dsimp only [Pt.U, Pt.locs, Pt.cells, Pt.slots] at X1 l1 y1 z1 st1 hQ1
  subst l1 y1 z1
  obtain ⟨t, o, h2, h3⟩ := r v T1.heap hQ1.2 T1 _ X1 rfl (Fr.app N hQ1.1)
  exact ⟨t, o, st1 _ h2, h3⟩
theorem own_callP (C : own_Ctx p s m meth c Z own nm bytes maxL ret) {i nf : Nat} {y : MethodName} {cb : ByteArray} {cm : Nat} {cret : Option FieldType} {rm : Room} {a : Addr} {argsL : List Value} {K : String} {Q' : Option Value → Heap → Prop} (W : Nat) (E : Exa Z h a K) (w1 : (Jvm.Cond.methodLink own i y).before a0 Z = true) (w2 : (Jvm.Cond.instanceMethod y).before a0 Z = true) (w3 : (Jvm.Cond.privateMethod y).before a0 Z = true) (w4 : (Jvm.Cond.instantiable y.cls nf).before a0 Z = true) (w5 : (Jvm.Cond.code y cb cm cret).before a0 Z = true) (w6 : (Jvm.Cond.initialized y.cls).before a0 Z = true) (hy : y.cls ≠ "java/lang/invoke/MethodHandle" ∧ y.cls ≠ "java/lang/invoke/VarHandle")
    (hM : own_Met l Z n0 y cb cm cret rm [] (.ref a :: argsL).toArray h Q') (hf : rm.frames + 1 ≤ R.frames) (hl : W + (cm + 11) + rm.locals ≤ R.locals) (hlen : ∀ sig, parseMethodDescriptor y.desc = some sig → argsL.length = sig.parameters.length) {st : List Value} (hst : st = argsL.reverse ++ .ref a :: rest) (hW : 0 + (rest.map fun v => v.category).sum ≤ W) (hd : decode bytes pc = .ok (.invokevirtual i, 3)) (hp : pc + 3 = pc') (hsz : Ls.size = maxL) (hc : k + rm.cells ≤ R.cells) (hs : q + rm.slots ≤ R.slots)
    (r : ∀ v h', Q' v h' → own_Run p l e R s m args below meth c n0 Kf h' (k + rm.cells) (q + rm.slots) (mkF m pc' Ls (v.toList ++ rest))) : own_Run p l e R s m args below meth c n0 Kf h k q (mkF m pc Ls st) := fun T locs X eT N => by
  subst hp
  have hK := backOf (l := l) (R := R) (p := p) (e := e) (s := s) (below := below) (args := args) (len := 3) (W := W) (Q := fun v h L => Fr n0 L ∧ Q' v h) hM C.g_z w5 w6 hf hl
  obtain ⟨mk, mM, hnamed, hmM, hsta, hab⟩ := Cond.instanceMethod_spec (mvT (args := args) C.g_z w2)
  obtain ⟨mM', cM, hmM', -, -, -, -, -, -, hsig⟩ := Cond.code_spec hnamed (mvT (args := args) C.g_z w5)
  cases hmM.symm.trans hmM'
  obtain ⟨cI, kI, i1, i2, -, i4, -⟩ := Cond.instantiable_spec (mvT (args := args) C.g_z w4)
  cases i1.symm.trans (findClass_of_methodNamed hnamed)
  have hni : kI.isInterface = false := (Bool.or_eq_false_iff.mp i4).1
  obtain ⟨cell, hc1, hc2⟩ := E.cell
  have hsel := selectMethod_private (p := e.platform) (c := cell.cls) hmM (Cond.privateMethod_at (mvP C.g_z w3 (args := #[])) mk mM hnamed hmM)
  obtain ⟨vm1, X1, st1⟩ := X.invokevirtual C.g_x C.g_own (mvT C.g_z w1) hnamed hmM hsta i2 hni hy (a := a) (cell := cell) (by rw [eT]; exact hc1) hc2 hsel hmM hab i2 hni (g := mkF m pc Ls st) rfl (argsL := argsL) (rest := rest) (hlen _ hsig) hst (hb C.g_by hd)
  obtain ⟨v, ⟨T1, L1, k1, n1⟩, X2, ⟨Lc1, hQ1, l1, y1, z1⟩, st2⟩ := hK m meth c ⟨T.setVm vm1, locs, k, q⟩ (mkF m pc Ls rest) (.invokevirtual i) mk (.ref a :: argsL).toArray X1 rfl (by rw [C.g_ml]; exact hsz) (hb C.g_by hd) (by show 2 * 0 + _ ≤ _; exact hW) (X1.named hnamed) ⟨rfl, eT, hc, hs⟩
  dsimp only [Pt.U, Pt.locs, Pt.cells, Pt.slots] at X2 l1 y1 z1 st2 hQ1
  subst l1 y1 z1
  obtain ⟨t, o, h2, h3⟩ := r v T1.heap hQ1.2 T1 _ X2 rfl (Fr.app N hQ1.1)
  exact ⟨t, o, st1 _ fun acts => by rw [doInvoke_state]; exact st2.trans h2, h3⟩
theorem own_ret (C : own_Ctx p s m meth c Z own nm bytes maxL ret) {v : Value} {t : FieldType} {i : Instr} (hret : ret = some t) (hn : narrow t v = v)
    (hi : (i = .ireturn ∧ (t = .int ∨ t = .boolean ∨ t = .byte ∨ t = .char ∨ t = .short) ∧ ∃ z, v = .int z) ∨ (i = .lreturn ∧ t = .long ∧ ∃ z, v = .long z) ∨ (i = .dreturn ∧ t = .double ∧ ∃ z, v = .double z) ∨ (i = .freturn ∧ t = .float ∧ ∃ z, v = .float z) ∨ (i = .areturn ∧ t.isReference = true ∧ v.isRef = true))
    (hd : decode bytes pc = .ok (i, 1)) (hc : k ≤ R.cells) (hs : q ≤ R.slots) (hQ : Q (some v) h) : own_Run p l e R s m args below meth c n0 (own_K below R s n0 Q) h k q (mkF m pc Ls (v :: rest)) := fun T locs X eT N => by
  have hlocks := C.g_lk
  obtain ⟨fs, hr, hrun, hended, hW, hsame⟩ := X.leave (v := some v) (fun hh => by rw [C.g_rt, hret] at hh; cases hh) hlocks
  refine ⟨_, _, retOut X C.g_x (C.g_rt.trans hret) hn hi (hb C.g_by hd) hr, hrun, hended, _, _, rfl, ⟨N, ?_⟩, ⟨_, rfl⟩, hW, hsame.mono hc hs⟩
  show Q (some v) T.heap
  rw [eT]; exact hQ
theorem own_retV (C : own_Ctx p s m meth c Z own nm bytes maxL ret) (hret : ret = none) (hd : decode bytes pc = .ok (.return_, 1)) (hc : k ≤ R.cells) (hs : q ≤ R.slots) (hQ : Q none h) : own_Run p l e R s m args below meth c n0 (own_K below R s n0 Q) h k q (mkF m pc Ls []) := fun T locs X eT N => by
  have hlocks := C.g_lk
  obtain ⟨fs, hr, hrun, hended, hW, hsame⟩ := X.leave (v := none) (fun _ => rfl) hlocks
  refine ⟨_, _, X.returnOut C.g_x (C.g_rt.trans hret) (hb C.g_by hd) hr, hrun, hended, _, _, rfl, ⟨N, ?_⟩, ⟨_, rfl⟩, hW, hsame.mono hc hs⟩
  show Q none T.heap
  rw [eT]; exact hQ
theorem own_refne {a b : Addr} (hn : a ≠ b) : ¬ (Value.ref a = Value.ref b) := fun e => hn (Value.ref.inj e)
theorem own_nb {v : Int32} (hv : v = 0 ∨ v = 1) : narrow .boolean (.int v) = .int v := by rcases hv with rfl | rfl <;> rfl
theorem own_fb {v : Int32} (hv : v = 0 ∨ v = 1) : fits .boolean (.int v) = true := by rcases hv with rfl | rfl <;> rfl
theorem own_join {α : Type} {g : JFrame} (P : α → Prop) (F : α → JFrame) (j : ∀ v, P v → own_Run p l e R s m args below meth c n0 Kf h k q (F v)) (r : (∀ v, P v → own_Run p l e R s m args below meth c n0 Kf h k q (F v)) → own_Run p l e R s m args below meth c n0 Kf h k q g) : own_Run p l e R s m args below meth c n0 Kf h k q g := r j
theorem own_join2 {α β : Type} {g : JFrame} (P : α → β → Prop) (F : α → β → JFrame) (j : ∀ v w, P v w → own_Run p l e R s m args below meth c n0 Kf h k q (F v w)) (r : (∀ v w, P v w → own_Run p l e R s m args below meth c n0 Kf h k q (F v w)) → own_Run p l e R s m args below meth c n0 Kf h k q g) : own_Run p l e R s m args below meth c n0 Kf h k q g := r j
theorem own_join3 {α β γ : Type} {g : JFrame} (P : α → β → γ → Prop) (F : α → β → γ → JFrame) (j : ∀ v w x, P v w x → own_Run p l e R s m args below meth c n0 Kf h k q (F v w x)) (r : (∀ v w x, P v w x → own_Run p l e R s m args below meth c n0 Kf h k q (F v w x)) → own_Run p l e R s m args below meth c n0 Kf h k q g) : own_Run p l e R s m args below meth c n0 Kf h k q g := r j
def own_upd {α : Type} (f : Nat → α) (i : Nat) (x : α) : Nat → α := fun j => if j = i then x else f j
theorem own_upd_eq {α : Type} (f : Nat → α) (i : Nat) (x : α) : own_upd f i x i = x := if_pos rfl
theorem own_upd_ne {α : Type} (f : Nat → α) {i j : Nat} (x : α) (hne : j ≠ i) : own_upd f i x j = f j := if_neg hne
/-- an array: her length, and what each place holds -/
def own_A (Z : State) (h : Heap) (a : Addr) (ty : FieldType) (n : Nat) (f : Nat → Value) : Prop := n < 2 ^ 31 ∧ ∃ cl : Cell, Arr Z h a cl ty ∧ cl.slots.size = n ∧ ∀ j, j < n → cl.slots[j]? = some (f j)
abbrev own_AI (Z : State) (h : Heap) (a : Addr) (n : Nat) (f : Nat → Int32) : Prop := own_A Z h a .int n (fun j => .int (f j))
abbrev own_AB (Z : State) (h : Heap) (a : Addr) (n : Nat) (f : Nat → Int32) : Prop := own_A Z h a .byte n (fun j => .int (f j))
abbrev own_AZ (Z : State) (h : Heap) (a : Addr) (n : Nat) (f : Nat → Int32) : Prop := own_A Z h a .boolean n (fun j => .int (f j))
abbrev own_AJ (Z : State) (h : Heap) (a : Addr) (n : Nat) (f : Nat → Int64) : Prop := own_A Z h a .long n (fun j => .long (f j))
theorem own_A.lt {h : Heap} {a : Addr} {ty : FieldType} {n : Nat} {f : Nat → Value} (V : own_A Z h a ty n f) : a < h.size := by obtain ⟨_, cl, A, _⟩ := V; exact A.lt
theorem own_A.ext {h h' : Heap} {a : Addr} {ty : FieldType} {n : Nat} {f : Nat → Value} (V : own_A Z h a ty n f) (E : Ext h h') : own_A Z h' a ty n f := by obtain ⟨hn, cl, A, r⟩ := V; exact ⟨hn, cl, A.ext E, r⟩
theorem own_A.other {h h' : Heap} {a b : Addr} {sl : Nat} {w : Value} {ty : FieldType} {n : Nat} {f : Nat → Value} (V : own_A Z h b ty n f) (W : Wr h h' a sl w) (hne : b ≠ a) : own_A Z h' b ty n f := by obtain ⟨hn, cl, A, r⟩ := V; exact ⟨hn, cl, A.other W hne, r⟩
theorem own_A.keep {h h' : Heap} {a : Addr} {ws : List Addr} {ty : FieldType} {n : Nat} {f : Nat → Value} (V : own_A Z h a ty n f) (K : Keep h h' ws) (hne : a ∉ ws) : own_A Z h' a ty n f := by obtain ⟨hn, cl, A, r⟩ := V; exact ⟨hn, cl, ⟨K.2.1 a cl A.1 hne, A.2⟩, r⟩
theorem own_A.congr {h : Heap} {a : Addr} {ty : FieldType} {n : Nat} {f g : Nat → Value} (V : own_A Z h a ty n f) (e : ∀ j, j < n → f j = g j) : own_A Z h a ty n g := by obtain ⟨hn, cl, A, S, H⟩ := V; exact ⟨hn, cl, A, S, fun j hj => by rw [← e j hj]; exact H j hj⟩
theorem own_A.set {h h' : Heap} {a : Addr} {i : Nat} {w : Value} {ty : FieldType} {n : Nat} {f : Nat → Value} (V : own_A Z h a ty n f) (W : Wr h h' a i w) (hi : i < n) : own_A Z h' a ty n (own_upd f i w) := by
  obtain ⟨hn, cl, A, S, H⟩ := V
  refine ⟨hn, _, A.same W, by rw [sz_set]; exact S, fun j hj => ?_⟩
  by_cases e : j = i
  · subst e
    rw [own_upd_eq]; simp [Cell.setSlot, S, hj]
  · rw [own_upd_ne _ _ e]
    show (cl.slots.setIfInBounds i w)[j]? = _
    rw [Array.getElem?_setIfInBounds_ne (Ne.symm e)]; exact H j hj
theorem own_nat {j : Int32} {i : Nat} (hj : j.toInt = (i : Int)) : ¬ j < 0 ∧ j.toNatClampNeg = i := by
  have z : (0 : Int32).toInt = 0 := rfl
  refine ⟨?_, ?_⟩
  · rw [Int32.lt_iff_toInt_lt]; omega
  · simp only [Int32.toNatClampNeg]; omega
theorem own_inb {j : Int32} {i : Nat} {cl : Cell} {n : Nat} (hj : j.toInt = (i : Int)) (S : cl.slots.size = n) (hi : i < n) : ¬ (j < 0 ∨ cl.slots.size ≤ j.toNatClampNeg) := by
  obtain ⟨h1, h2⟩ := own_nat hj
  rw [S, h2]; exact fun hh => hh.elim h1 (Nat.not_le.mpr hi)
theorem own_newA (C : own_Ctx p s m meth c Z own nm bytes maxL ret) {aty : ArrayType} (w : (Jvm.Cond.arrayClass (newarray.typeOf aty)).before a0 Z = true) (Z0 : n0 ≤ h.size) (hd : decode bytes pc = .ok (.newarray aty, 2)) (hp : pc + 2 = pc') {n : Int32} {nn cap : Nat} (hn : n.toInt = (nn : Int)) (hcap : nn ≤ cap) (hbig : cap * 8 ≤ 536870912) (hc : k + 1 ≤ R.cells) (hl : q + cap ≤ R.slots)
    (r : ∀ h' a, a = h.size → n0 ≤ a → n0 ≤ h'.size → Ext h h' → own_A Z h' a (newarray.typeOf aty) nn (fun _ => defaultValue (newarray.typeOf aty)) → own_Run p l e R s m args below meth c n0 Kf h' (k + 1) (q + cap) (mkF m pc' Ls (.ref a :: rest))) : own_Run p l e R s m args below meth c n0 Kf h k q (mkF m pc Ls (.int n :: rest)) := fun T locs X eT N => by
  subst hp
  obtain ⟨p1, p2⟩ := own_nat hn
  obtain ⟨T1, h1, cA, X1, e1, E1, A1, st1⟩ := newP X C.g_x C.g_z w eT (g := mkF m pc Ls (.int n :: rest)) rfl (hb C.g_by hd) rfl p1 (cap := cap) (by rw [p2]; exact hcap) hbig hc hl
  have V : own_A Z h1 h.size (newarray.typeOf aty) nn (fun _ => defaultValue (newarray.typeOf aty)) := by
    refine ⟨by have := Int32.toInt_lt n; omega, _, A1, by rw [sz_new, p2], fun j hj => ?_⟩
    simp [newA, p2, hj]
  obtain ⟨t, o, h2, h3⟩ := r h1 h.size rfl Z0 (Nat.le_trans Z0 E1.1) E1 V T1 _ X1 e1 N
  exact ⟨t, o, st1 _ h2, h3⟩
theorem own_newAI (C : own_Ctx p s m meth c Z own nm bytes maxL ret) (w : (Jvm.Cond.arrayClass .int).before a0 Z = true) (Z0 : n0 ≤ h.size) (hd : decode bytes pc = .ok (.newarray .int, 2)) (hp : pc + 2 = pc') {n : Int32} {nn cap : Nat} (hn : n.toInt = (nn : Int)) (hcap : nn ≤ cap) (hbig : cap * 8 ≤ 536870912) (hc : k + 1 ≤ R.cells) (hl : q + cap ≤ R.slots)
    (r : ∀ h' a, a = h.size → n0 ≤ a → n0 ≤ h'.size → Ext h h' → own_AI Z h' a nn (fun _ => (0 : Int32)) → own_Run p l e R s m args below meth c n0 Kf h' (k + 1) (q + cap) (mkF m pc' Ls (.ref a :: rest))) : own_Run p l e R s m args below meth c n0 Kf h k q (mkF m pc Ls (.int n :: rest)) := own_newA C (aty := .int) w Z0 hd hp hn hcap hbig hc hl r
theorem own_stI (C : own_Ctx p s m meth c Z own nm bytes maxL ret) {a : Addr} {n : Nat} {f : Nat → Int32} (V : own_AI Z h a n f) {j : Int32} {i : Nat} {x : Int32} (hj : j.toInt = (i : Int)) (hi : i < n) (ga : n0 ≤ a) (hd : decode bytes pc = .ok (.iastore, 1)) (hp : pc + 1 = pc')
    (r : ∀ h', Wr h h' a i (.int x) → own_AI Z h' a n (own_upd f i x) → own_Run p l e R s m args below meth c n0 Kf h' k q (mkF m pc' Ls rest)) : own_Run p l e R s m args below meth c n0 Kf h k q (mkF m pc Ls (.int x :: .int j :: .ref a :: rest)) := fun T locs X eT N => by
  subst hp
  obtain ⟨p1, p2⟩ := own_nat hj
  obtain ⟨hn, cl, A, S, H⟩ := id V
  obtain ⟨T1, h1, X1, e1, W1, st1⟩ := stI X C.g_x C.g_z eT A (own_inb hj S hi) (g := mkF m pc Ls (.int x :: .int j :: .ref a :: rest)) rfl rfl (hb C.g_by hd)
  have W2 : Wr h h1 a i (.int x) := by rw [← p2]; exact W1
  obtain ⟨t, o, h2, h3⟩ := r h1 W2 ((own_A.set V W2 hi).congr fun j hj => by by_cases e : j = i <;> simp [own_upd, e]) T1 _ X1 e1 (Fr.snoc X1 N ga)
  exact ⟨t, o, st1 _ h2, h3⟩
theorem own_lenI (C : own_Ctx p s m meth c Z own nm bytes maxL ret) {a : Addr} {n : Nat} {f : Nat → Int32} (V : own_AI Z h a n f) (hd : decode bytes pc = .ok (.arraylength, 1)) (hp : pc + 1 = pc') (r : own_Run p l e R s m args below meth c n0 Kf h k q (mkF m pc' Ls (.int (Nat.toInt32 n) :: rest))) : own_Run p l e R s m args below meth c n0 Kf h k q (mkF m pc Ls (.ref a :: rest)) := by
  obtain ⟨hn, cl, A, S, H⟩ := V
  subst hp
  rw [← S] at r
  exact own_st (fun T locs X eT t kk => X.arraylength C.g_x (by rw [eT]; exact A.1) (State.isArrayOf_alike C.g_z.alike A.2.1) (g := mkF m pc Ls (.ref a :: rest)) rfl rfl (hb C.g_by hd) t kk) r
theorem own_ldI (C : own_Ctx p s m meth c Z own nm bytes maxL ret) {a : Addr} {n : Nat} {f : Nat → Int32} (V : own_AI Z h a n f) {j : Int32} {i : Nat} (hj : j.toInt = (i : Int)) (hi : i < n) (hd : decode bytes pc = .ok (.iaload, 1)) (hp : pc + 1 = pc') (r : own_Run p l e R s m args below meth c n0 Kf h k q (mkF m pc' Ls (.int (f i) :: rest))) : own_Run p l e R s m args below meth c n0 Kf h k q (mkF m pc Ls (.int j :: .ref a :: rest)) := by
  obtain ⟨p1, p2⟩ := own_nat hj
  obtain ⟨hn, cl, A, S, H⟩ := V
  subst hp
  exact own_st (fun T locs X eT t kk => X.iaload C.g_x (by rw [eT]; exact A.1) (State.isArrayOf_alike C.g_z.alike A.2.1) A.2.2 (own_inb hj S hi) (by rw [p2]; exact H i hi) (g := mkF m pc Ls (.int j :: .ref a :: rest)) rfl rfl (hb C.g_by hd) t kk) r
theorem own_ldIV (C : own_Ctx p s m meth c Z own nm bytes maxL ret) {a : Addr} {n : Nat} {f : Nat → Int32} (V : own_AI Z h a n f) {j : Int32} {i : Nat} {v : Int32} (hj : j.toInt = (i : Int)) (hi : i < n) (hv : f i = v) (hd : decode bytes pc = .ok (.iaload, 1)) (hp : pc + 1 = pc') (r : own_Run p l e R s m args below meth c n0 Kf h k q (mkF m pc' Ls (.int v :: rest))) : own_Run p l e R s m args below meth c n0 Kf h k q (mkF m pc Ls (.int j :: .ref a :: rest)) := by
  subst hv; exact own_ldI C V hj hi hd hp r
theorem own_newAB (C : own_Ctx p s m meth c Z own nm bytes maxL ret) (w : (Jvm.Cond.arrayClass .byte).before a0 Z = true) (Z0 : n0 ≤ h.size) (hd : decode bytes pc = .ok (.newarray .byte, 2)) (hp : pc + 2 = pc') {n : Int32} {nn cap : Nat} (hn : n.toInt = (nn : Int)) (hcap : nn ≤ cap) (hbig : cap * 8 ≤ 536870912) (hc : k + 1 ≤ R.cells) (hl : q + cap ≤ R.slots)
    (r : ∀ h' a, a = h.size → n0 ≤ a → n0 ≤ h'.size → Ext h h' → own_AB Z h' a nn (fun _ => (0 : Int32)) → own_Run p l e R s m args below meth c n0 Kf h' (k + 1) (q + cap) (mkF m pc' Ls (.ref a :: rest))) : own_Run p l e R s m args below meth c n0 Kf h k q (mkF m pc Ls (.int n :: rest)) := own_newA C (aty := .byte) w Z0 hd hp hn hcap hbig hc hl r
theorem own_stB (C : own_Ctx p s m meth c Z own nm bytes maxL ret) {a : Addr} {n : Nat} {f : Nat → Int32} (V : own_AB Z h a n f) {j : Int32} {i : Nat} {x : Int32} (hj : j.toInt = (i : Int)) (hi : i < n) (ga : n0 ≤ a) (hd : decode bytes pc = .ok (.bastore, 1)) (hp : pc + 1 = pc')
    (r : ∀ h', Wr h h' a i (.int (x.toInt8.toInt32)) → own_AB Z h' a n (own_upd f i (x.toInt8.toInt32)) → own_Run p l e R s m args below meth c n0 Kf h' k q (mkF m pc' Ls rest)) : own_Run p l e R s m args below meth c n0 Kf h k q (mkF m pc Ls (.int x :: .int j :: .ref a :: rest)) := fun T locs X eT N => by
  subst hp
  obtain ⟨p1, p2⟩ := own_nat hj
  obtain ⟨hn, cl, A, S, H⟩ := id V
  obtain ⟨T1, h1, X1, e1, W1, st1⟩ := stB X C.g_x C.g_z eT A (own_inb hj S hi) (g := mkF m pc Ls (.int x :: .int j :: .ref a :: rest)) rfl rfl (hb C.g_by hd)
  have W2 : Wr h h1 a i (.int (x.toInt8.toInt32)) := by rw [← p2]; exact W1
  obtain ⟨t, o, h2, h3⟩ := r h1 W2 ((own_A.set V W2 hi).congr fun j hj => by by_cases e : j = i <;> simp [own_upd, e]) T1 _ X1 e1 (Fr.snoc X1 N ga)
  exact ⟨t, o, st1 _ h2, h3⟩
theorem own_lenB (C : own_Ctx p s m meth c Z own nm bytes maxL ret) {a : Addr} {n : Nat} {f : Nat → Int32} (V : own_AB Z h a n f) (hd : decode bytes pc = .ok (.arraylength, 1)) (hp : pc + 1 = pc') (r : own_Run p l e R s m args below meth c n0 Kf h k q (mkF m pc' Ls (.int (Nat.toInt32 n) :: rest))) : own_Run p l e R s m args below meth c n0 Kf h k q (mkF m pc Ls (.ref a :: rest)) := by
  obtain ⟨hn, cl, A, S, H⟩ := V
  subst hp
  rw [← S] at r
  exact own_st (fun T locs X eT t kk => X.arraylength C.g_x (by rw [eT]; exact A.1) (State.isArrayOf_alike C.g_z.alike A.2.1) (g := mkF m pc Ls (.ref a :: rest)) rfl rfl (hb C.g_by hd) t kk) r
theorem own_ldB (C : own_Ctx p s m meth c Z own nm bytes maxL ret) {a : Addr} {n : Nat} {f : Nat → Int32} (V : own_AB Z h a n f) {j : Int32} {i : Nat} (hj : j.toInt = (i : Int)) (hi : i < n) (hd : decode bytes pc = .ok (.baload, 1)) (hp : pc + 1 = pc') (r : own_Run p l e R s m args below meth c n0 Kf h k q (mkF m pc' Ls (.int (f i) :: rest))) : own_Run p l e R s m args below meth c n0 Kf h k q (mkF m pc Ls (.int j :: .ref a :: rest)) := by
  obtain ⟨p1, p2⟩ := own_nat hj
  obtain ⟨hn, cl, A, S, H⟩ := V
  subst hp
  exact own_st (fun T locs X eT t kk => X.baloadBytes C.g_x (by rw [eT]; exact A.1) (State.isArrayOf_alike C.g_z.alike A.2.1) A.2.2 (own_inb hj S hi) (by rw [p2]; exact H i hi) (g := mkF m pc Ls (.int j :: .ref a :: rest)) rfl rfl (hb C.g_by hd) t kk) r
theorem own_ldBV (C : own_Ctx p s m meth c Z own nm bytes maxL ret) {a : Addr} {n : Nat} {f : Nat → Int32} (V : own_AB Z h a n f) {j : Int32} {i : Nat} {v : Int32} (hj : j.toInt = (i : Int)) (hi : i < n) (hv : f i = v) (hd : decode bytes pc = .ok (.baload, 1)) (hp : pc + 1 = pc') (r : own_Run p l e R s m args below meth c n0 Kf h k q (mkF m pc' Ls (.int v :: rest))) : own_Run p l e R s m args below meth c n0 Kf h k q (mkF m pc Ls (.int j :: .ref a :: rest)) := by
  subst hv; exact own_ldB C V hj hi hd hp r
theorem own_newAZ (C : own_Ctx p s m meth c Z own nm bytes maxL ret) (w : (Jvm.Cond.arrayClass .boolean).before a0 Z = true) (Z0 : n0 ≤ h.size) (hd : decode bytes pc = .ok (.newarray .boolean, 2)) (hp : pc + 2 = pc') {n : Int32} {nn cap : Nat} (hn : n.toInt = (nn : Int)) (hcap : nn ≤ cap) (hbig : cap * 8 ≤ 536870912) (hc : k + 1 ≤ R.cells) (hl : q + cap ≤ R.slots)
    (r : ∀ h' a, a = h.size → n0 ≤ a → n0 ≤ h'.size → Ext h h' → own_AZ Z h' a nn (fun _ => (0 : Int32)) → own_Run p l e R s m args below meth c n0 Kf h' (k + 1) (q + cap) (mkF m pc' Ls (.ref a :: rest))) : own_Run p l e R s m args below meth c n0 Kf h k q (mkF m pc Ls (.int n :: rest)) := own_newA C (aty := .boolean) w Z0 hd hp hn hcap hbig hc hl r
theorem own_stZ (C : own_Ctx p s m meth c Z own nm bytes maxL ret) {a : Addr} {n : Nat} {f : Nat → Int32} (V : own_AZ Z h a n f) {j : Int32} {i : Nat} {x : Int32} (hj : j.toInt = (i : Int)) (hi : i < n) (ga : n0 ≤ a) (hd : decode bytes pc = .ok (.bastore, 1)) (hp : pc + 1 = pc')
    (r : ∀ h', Wr h h' a i (.int (x &&& 1)) → own_AZ Z h' a n (own_upd f i (x &&& 1)) → own_Run p l e R s m args below meth c n0 Kf h' k q (mkF m pc' Ls rest)) : own_Run p l e R s m args below meth c n0 Kf h k q (mkF m pc Ls (.int x :: .int j :: .ref a :: rest)) := fun T locs X eT N => by
  subst hp
  obtain ⟨p1, p2⟩ := own_nat hj
  obtain ⟨hn, cl, A, S, H⟩ := id V
  obtain ⟨T1, h1, X1, e1, W1, st1⟩ := stZ X C.g_x C.g_z eT A (own_inb hj S hi) (g := mkF m pc Ls (.int x :: .int j :: .ref a :: rest)) rfl rfl (hb C.g_by hd)
  have W2 : Wr h h1 a i (.int (x &&& 1)) := by rw [← p2]; exact W1
  obtain ⟨t, o, h2, h3⟩ := r h1 W2 ((own_A.set V W2 hi).congr fun j hj => by by_cases e : j = i <;> simp [own_upd, e]) T1 _ X1 e1 (Fr.snoc X1 N ga)
  exact ⟨t, o, st1 _ h2, h3⟩
theorem own_lenZ (C : own_Ctx p s m meth c Z own nm bytes maxL ret) {a : Addr} {n : Nat} {f : Nat → Int32} (V : own_AZ Z h a n f) (hd : decode bytes pc = .ok (.arraylength, 1)) (hp : pc + 1 = pc') (r : own_Run p l e R s m args below meth c n0 Kf h k q (mkF m pc' Ls (.int (Nat.toInt32 n) :: rest))) : own_Run p l e R s m args below meth c n0 Kf h k q (mkF m pc Ls (.ref a :: rest)) := by
  obtain ⟨hn, cl, A, S, H⟩ := V
  subst hp
  rw [← S] at r
  exact own_st (fun T locs X eT t kk => X.arraylength C.g_x (by rw [eT]; exact A.1) (State.isArrayOf_alike C.g_z.alike A.2.1) (g := mkF m pc Ls (.ref a :: rest)) rfl rfl (hb C.g_by hd) t kk) r
theorem own_newAJ (C : own_Ctx p s m meth c Z own nm bytes maxL ret) (w : (Jvm.Cond.arrayClass .long).before a0 Z = true) (Z0 : n0 ≤ h.size) (hd : decode bytes pc = .ok (.newarray .long, 2)) (hp : pc + 2 = pc') {n : Int32} {nn cap : Nat} (hn : n.toInt = (nn : Int)) (hcap : nn ≤ cap) (hbig : cap * 8 ≤ 536870912) (hc : k + 1 ≤ R.cells) (hl : q + cap ≤ R.slots)
    (r : ∀ h' a, a = h.size → n0 ≤ a → n0 ≤ h'.size → Ext h h' → own_AJ Z h' a nn (fun _ => (0 : Int64)) → own_Run p l e R s m args below meth c n0 Kf h' (k + 1) (q + cap) (mkF m pc' Ls (.ref a :: rest))) : own_Run p l e R s m args below meth c n0 Kf h k q (mkF m pc Ls (.int n :: rest)) := own_newA C (aty := .long) w Z0 hd hp hn hcap hbig hc hl r
theorem own_stJ (C : own_Ctx p s m meth c Z own nm bytes maxL ret) {a : Addr} {n : Nat} {f : Nat → Int64} (V : own_AJ Z h a n f) {j : Int32} {i : Nat} {x : Int64} (hj : j.toInt = (i : Int)) (hi : i < n) (ga : n0 ≤ a) (hd : decode bytes pc = .ok (.lastore, 1)) (hp : pc + 1 = pc')
    (r : ∀ h', Wr h h' a i (.long x) → own_AJ Z h' a n (own_upd f i x) → own_Run p l e R s m args below meth c n0 Kf h' k q (mkF m pc' Ls rest)) : own_Run p l e R s m args below meth c n0 Kf h k q (mkF m pc Ls (.long x :: .int j :: .ref a :: rest)) := fun T locs X eT N => by
  subst hp
  obtain ⟨p1, p2⟩ := own_nat hj
  obtain ⟨hn, cl, A, S, H⟩ := id V
  obtain ⟨T1, h1, X1, e1, W1, st1⟩ := stJ X C.g_x C.g_z eT A (own_inb hj S hi) (g := mkF m pc Ls (.long x :: .int j :: .ref a :: rest)) rfl rfl (hb C.g_by hd)
  have W2 : Wr h h1 a i (.long x) := by rw [← p2]; exact W1
  obtain ⟨t, o, h2, h3⟩ := r h1 W2 ((own_A.set V W2 hi).congr fun j hj => by by_cases e : j = i <;> simp [own_upd, e]) T1 _ X1 e1 (Fr.snoc X1 N ga)
  exact ⟨t, o, st1 _ h2, h3⟩
theorem own_lenJ (C : own_Ctx p s m meth c Z own nm bytes maxL ret) {a : Addr} {n : Nat} {f : Nat → Int64} (V : own_AJ Z h a n f) (hd : decode bytes pc = .ok (.arraylength, 1)) (hp : pc + 1 = pc') (r : own_Run p l e R s m args below meth c n0 Kf h k q (mkF m pc' Ls (.int (Nat.toInt32 n) :: rest))) : own_Run p l e R s m args below meth c n0 Kf h k q (mkF m pc Ls (.ref a :: rest)) := by
  obtain ⟨hn, cl, A, S, H⟩ := V
  subst hp
  rw [← S] at r
  exact own_st (fun T locs X eT t kk => X.arraylength C.g_x (by rw [eT]; exact A.1) (State.isArrayOf_alike C.g_z.alike A.2.1) (g := mkF m pc Ls (.ref a :: rest)) rfl rfl (hb C.g_by hd) t kk) r
end Own

theorem own_succ (i : Nat) : Nat.toInt32 i + (1 : Int32) = Nat.toInt32 (i + 1) := by
  show Int32.ofNat i + Int32.ofNat 1 = Int32.ofNat (i + 1)
  rw [Int32.ofNat_add]
theorem own_ti {i : Nat} (hi : i < 2 ^ 31) : (Nat.toInt32 i).toInt = (i : Int) := len_toInt hi
theorem own_tlt {i n : Nat} (hi : i < 2 ^ 31) (hn : n < 2 ^ 31) : Nat.toInt32 i < Nat.toInt32 n ↔ i < n := by
  rw [Int32.lt_iff_toInt_lt, own_ti hi, own_ti hn]; omega
theorem own_nz {n : Int32} {N : Nat} (hn : n.toInt = (N : Int)) (h0 : 0 < N) : n ≠ 0 := by
  intro e; subst e
  have z : (0 : Int32).toInt = 0 := rfl
  omega
theorem own_pos (p : Int32) : ∃ P : Nat, (p &&& (2147483647 : Int32)).toInt = (P : Int) ∧ P < 2147483648 := by
  have h1 := (Jvm.RoadKit.c_andS p (2147483647 : Int32)).2.2 (by decide)
  have h2 := Int32.toInt_lt (p &&& (2147483647 : Int32))
  exact ⟨(p &&& (2147483647 : Int32)).toInt.toNat, by omega, by omega⟩
theorem own_mod {x n : Int32} {X N : Nat} (hx : x.toInt = (X : Int)) (hn : n.toInt = (N : Int)) (h0 : 0 < N) : (x % n).toInt = ((X % N : Nat) : Int) := by
  have h := Int32.toInt_lt n
  rw [Int32.toInt_mod, hx, hn, Int.tmod_eq_emod_of_nonneg (by omega)]
  rfl
theorem own_rem (p : Int32) {n : Int32} {N : Nat} (hn : n.toInt = (N : Int)) (h0 : 0 < N) : ∃ A : Nat, A < N ∧ ((p &&& (2147483647 : Int32)) % n).toInt = (A : Int) := by
  obtain ⟨P, hP, _⟩ := own_pos p
  exact ⟨P % N, Nat.mod_lt _ h0, own_mod hP hn h0⟩
theorem own_add {x y : Int32} {X Y : Nat} (hx : x.toInt = (X : Int)) (hy : y.toInt = (Y : Int)) (hb : X + Y < 2147483648) : (x + y).toInt = ((X + Y : Nat) : Int) := by
  rw [Jvm.Free.XT.add32 ⟨by rw [hx, hy]; omega, by rw [hx, hy]; omega⟩, hx, hy]; omega
theorem own_sub1 {x : Int32} {X : Nat} (hx : x.toInt = (X : Int)) (h0 : 0 < X) : (x - (1 : Int32)).toInt = ((X - 1 : Nat) : Int) := by
  have h := Int32.toInt_lt x
  have o : (1 : Int32).toInt = 1 := rfl
  rw [Jvm.Free.XT.sub32 ⟨by rw [hx, o]; omega, by rw [hx, o]; omega⟩, hx, o]; omega
theorem own_inj {x y : Int32} {X Y : Nat} (hx : x.toInt = (X : Int)) (hy : y.toInt = (Y : Int)) : x = y ↔ X = Y := by
  rw [← Int32.toInt_inj, hx, hy]; omega
theorem own_md3 (p : Int32) : (p &&& (2147483647 : Int32)) % (3 : Int32) = 0 ∨ (p &&& (2147483647 : Int32)) % (3 : Int32) = 1 ∨ (p &&& (2147483647 : Int32)) % (3 : Int32) = 2 := by
  obtain ⟨A, hA, e⟩ := own_rem p (n := (3 : Int32)) (N := 3) (by decide) (by decide)
  have t : A = 0 ∨ A = 1 ∨ A = 2 := by omega
  rcases t with rfl | rfl | rfl
  · exact Or.inl (Int32.toInt_inj.mp e)
  · exact Or.inr (Or.inl (Int32.toInt_inj.mp e))
  · exact Or.inr (Or.inr (Int32.toInt_inj.mp e))
theorem own_md2 (p : Int32) : (p &&& (2147483647 : Int32)) % (2 : Int32) = 0 ∨ (p &&& (2147483647 : Int32)) % (2 : Int32) = 1 := by
  obtain ⟨A, hA, e⟩ := own_rem p (n := (2 : Int32)) (N := 2) (by decide) (by decide)
  have t : A = 0 ∨ A = 1 := by omega
  rcases t with rfl | rfl
  · exact Or.inl (Int32.toInt_inj.mp e)
  · exact Or.inr (Int32.toInt_inj.mp e)
theorem own_md1 (p : Int32) : (p &&& (2147483647 : Int32)) % (1 : Int32) = 0 := by
  obtain ⟨A, hA, e⟩ := own_rem p (n := (1 : Int32)) (N := 1) (by decide) (by decide)
  have t : A = 0 := by omega
  subst t; exact Int32.toInt_inj.mp e
theorem own_k3 (p : Int32) : ((p &&& (2147483647 : Int32)) % (3 : Int32)) + (1 : Int32) = 1 ∨ ((p &&& (2147483647 : Int32)) % (3 : Int32)) + (1 : Int32) = 2 ∨ ((p &&& (2147483647 : Int32)) % (3 : Int32)) + (1 : Int32) = 3 := by
  rcases own_md3 p with e | e | e <;> rw [e] <;> decide
theorem own_r1 {r : Int32} {N : Nat} (hr : r.toInt = (N : Int)) (hb : N < 3) : ((r + (1 : Int32)) % (3 : Int32)).toInt = (((N + 1) % 3 : Nat) : Int) :=
  own_mod (own_add hr (rfl : (1 : Int32).toInt = ((1 : Nat) : Int)) (by omega)) rfl (by decide)
theorem own_r2 {r : Int32} {N : Nat} (hr : r.toInt = (N : Int)) (hb : N < 3) : ((r + (2 : Int32)) % (3 : Int32)).toInt = (((N + 2) % 3 : Nat) : Int) :=
  own_mod (own_add hr (rfl : (2 : Int32).toInt = ((2 : Nat) : Int)) (by omega)) rfl (by decide)

theorem own_d1_0 : decode method_2_code 0 = .ok (.iload_n 0, 1) := by decide +kernel
theorem own_d1_1 : decode method_2_code 1 = .ok (.ldc 7, 2) := by decide +kernel
theorem own_d1_3 : decode method_2_code 3 = .ok (.iand, 1) := by decide +kernel
theorem own_d1_4 : decode method_2_code 4 = .ok (.iload_n 1, 1) := by decide +kernel
theorem own_d1_5 : decode method_2_code 5 = .ok (.irem, 1) := by decide +kernel
theorem own_d1_6 : decode method_2_code 6 = .ok (.ireturn, 1) := by decide +kernel
theorem own_d2_0 : decode prog_28_method_1_code 0 = .ok (.aload_n 0, 1) := by decide +kernel
theorem own_d2_1 : decode prog_28_method_1_code 1 = .ok (.invokespecial 1, 3) := by decide +kernel
theorem own_d2_4 : decode prog_28_method_1_code 4 = .ok (.aload_n 0, 1) := by decide +kernel
theorem own_d2_5 : decode prog_28_method_1_code 5 = .ok (.iload_n 1, 1) := by decide +kernel
theorem own_d2_6 : decode prog_28_method_1_code 6 = .ok (.newarray .int, 2) := by decide +kernel
theorem own_d2_8 : decode prog_28_method_1_code 8 = .ok (.putfield 7, 3) := by decide +kernel
theorem own_d2_11 : decode prog_28_method_1_code 11 = .ok (.aload_n 0, 1) := by decide +kernel
theorem own_d2_12 : decode prog_28_method_1_code 12 = .ok (.iload_n 1, 1) := by decide +kernel
theorem own_d2_13 : decode prog_28_method_1_code 13 = .ok (.newarray .int, 2) := by decide +kernel
theorem own_d2_15 : decode prog_28_method_1_code 15 = .ok (.putfield 13, 3) := by decide +kernel
theorem own_d2_18 : decode prog_28_method_1_code 18 = .ok (.aload_n 0, 1) := by decide +kernel
theorem own_d2_19 : decode prog_28_method_1_code 19 = .ok (.getfield 13, 3) := by decide +kernel
theorem own_d2_22 : decode prog_28_method_1_code 22 = .ok (.iconst (-1), 1) := by decide +kernel
theorem own_d2_23 : decode prog_28_method_1_code 23 = .ok (.invokestatic 16, 3) := by decide +kernel
theorem own_d2_26 : decode prog_28_method_1_code 26 = .ok (.return_, 1) := by decide +kernel
theorem own_d4_0 : decode jdk_65_method_103_code 0 = .ok (.iconst 0, 1) := by decide +kernel
theorem own_d4_1 : decode jdk_65_method_103_code 1 = .ok (.istore_n 2, 1) := by decide +kernel
theorem own_d4_2 : decode jdk_65_method_103_code 2 = .ok (.aload_n 0, 1) := by decide +kernel
theorem own_d4_3 : decode jdk_65_method_103_code 3 = .ok (.arraylength, 1) := by decide +kernel
theorem own_d4_4 : decode jdk_65_method_103_code 4 = .ok (.istore_n 3, 1) := by decide +kernel
theorem own_d4_5 : decode jdk_65_method_103_code 5 = .ok (.iload_n 2, 1) := by decide +kernel
theorem own_d4_6 : decode jdk_65_method_103_code 6 = .ok (.iload_n 3, 1) := by decide +kernel
theorem own_d4_7 : decode jdk_65_method_103_code 7 = .ok (.if_icmp .ge 13, 3) := by decide +kernel
theorem own_d4_10 : decode jdk_65_method_103_code 10 = .ok (.aload_n 0, 1) := by decide +kernel
theorem own_d4_11 : decode jdk_65_method_103_code 11 = .ok (.iload_n 2, 1) := by decide +kernel
theorem own_d4_12 : decode jdk_65_method_103_code 12 = .ok (.iload_n 1, 1) := by decide +kernel
theorem own_d4_13 : decode jdk_65_method_103_code 13 = .ok (.iastore, 1) := by decide +kernel
theorem own_d4_14 : decode jdk_65_method_103_code 14 = .ok (.iinc 2 1, 3) := by decide +kernel
theorem own_d4_17 : decode jdk_65_method_103_code 17 = .ok (.goto (-12), 3) := by decide +kernel
theorem own_d4_20 : decode jdk_65_method_103_code 20 = .ok (.return_, 1) := by decide +kernel
theorem own_d5_0 : decode prog_28_method_5_code 0 = .ok (.aload_n 0, 1) := by decide +kernel
theorem own_d5_1 : decode prog_28_method_5_code 1 = .ok (.getfield 13, 3) := by decide +kernel
theorem own_d5_4 : decode prog_28_method_5_code 4 = .ok (.iload_n 1, 1) := by decide +kernel
theorem own_d5_5 : decode prog_28_method_5_code 5 = .ok (.aload_n 0, 1) := by decide +kernel
theorem own_d5_6 : decode prog_28_method_5_code 6 = .ok (.getfield 22, 3) := by decide +kernel
theorem own_d5_9 : decode prog_28_method_5_code 9 = .ok (.iastore, 1) := by decide +kernel
theorem own_d5_10 : decode prog_28_method_5_code 10 = .ok (.aload_n 0, 1) := by decide +kernel
theorem own_d5_11 : decode prog_28_method_5_code 11 = .ok (.getfield 7, 3) := by decide +kernel
theorem own_d5_14 : decode prog_28_method_5_code 14 = .ok (.aload_n 0, 1) := by decide +kernel
theorem own_d5_15 : decode prog_28_method_5_code 15 = .ok (.dup, 1) := by decide +kernel
theorem own_d5_16 : decode prog_28_method_5_code 16 = .ok (.getfield 22, 3) := by decide +kernel
theorem own_d5_19 : decode prog_28_method_5_code 19 = .ok (.dup_x1, 1) := by decide +kernel
theorem own_d5_20 : decode prog_28_method_5_code 20 = .ok (.iconst 1, 1) := by decide +kernel
theorem own_d5_21 : decode prog_28_method_5_code 21 = .ok (.iadd, 1) := by decide +kernel
theorem own_d5_22 : decode prog_28_method_5_code 22 = .ok (.putfield 22, 3) := by decide +kernel
theorem own_d5_25 : decode prog_28_method_5_code 25 = .ok (.iload_n 1, 1) := by decide +kernel
theorem own_d5_26 : decode prog_28_method_5_code 26 = .ok (.iastore, 1) := by decide +kernel
theorem own_d5_27 : decode prog_28_method_5_code 27 = .ok (.return_, 1) := by decide +kernel
theorem own_d6_0 : decode prog_28_method_6_code 0 = .ok (.aload_n 0, 1) := by decide +kernel
theorem own_d6_1 : decode prog_28_method_6_code 1 = .ok (.getfield 13, 3) := by decide +kernel
theorem own_d6_4 : decode prog_28_method_6_code 4 = .ok (.iload_n 1, 1) := by decide +kernel
theorem own_d6_5 : decode prog_28_method_6_code 5 = .ok (.iaload, 1) := by decide +kernel
theorem own_d6_6 : decode prog_28_method_6_code 6 = .ok (.istore_n 2, 1) := by decide +kernel
theorem own_d6_7 : decode prog_28_method_6_code 7 = .ok (.aload_n 0, 1) := by decide +kernel
theorem own_d6_8 : decode prog_28_method_6_code 8 = .ok (.getfield 7, 3) := by decide +kernel
theorem own_d6_11 : decode prog_28_method_6_code 11 = .ok (.aload_n 0, 1) := by decide +kernel
theorem own_d6_12 : decode prog_28_method_6_code 12 = .ok (.dup, 1) := by decide +kernel
theorem own_d6_13 : decode prog_28_method_6_code 13 = .ok (.getfield 22, 3) := by decide +kernel
theorem own_d6_16 : decode prog_28_method_6_code 16 = .ok (.iconst 1, 1) := by decide +kernel
theorem own_d6_17 : decode prog_28_method_6_code 17 = .ok (.isub, 1) := by decide +kernel
theorem own_d6_18 : decode prog_28_method_6_code 18 = .ok (.dup_x1, 1) := by decide +kernel
theorem own_d6_19 : decode prog_28_method_6_code 19 = .ok (.putfield 22, 3) := by decide +kernel
theorem own_d6_22 : decode prog_28_method_6_code 22 = .ok (.iaload, 1) := by decide +kernel
theorem own_d6_23 : decode prog_28_method_6_code 23 = .ok (.istore_n 3, 1) := by decide +kernel
theorem own_d6_24 : decode prog_28_method_6_code 24 = .ok (.aload_n 0, 1) := by decide +kernel
theorem own_d6_25 : decode prog_28_method_6_code 25 = .ok (.getfield 7, 3) := by decide +kernel
theorem own_d6_28 : decode prog_28_method_6_code 28 = .ok (.iload_n 2, 1) := by decide +kernel
theorem own_d6_29 : decode prog_28_method_6_code 29 = .ok (.iload_n 3, 1) := by decide +kernel
theorem own_d6_30 : decode prog_28_method_6_code 30 = .ok (.iastore, 1) := by decide +kernel
theorem own_d6_31 : decode prog_28_method_6_code 31 = .ok (.aload_n 0, 1) := by decide +kernel
theorem own_d6_32 : decode prog_28_method_6_code 32 = .ok (.getfield 13, 3) := by decide +kernel
theorem own_d6_35 : decode prog_28_method_6_code 35 = .ok (.iload_n 3, 1) := by decide +kernel
theorem own_d6_36 : decode prog_28_method_6_code 36 = .ok (.iload_n 2, 1) := by decide +kernel
theorem own_d6_37 : decode prog_28_method_6_code 37 = .ok (.iastore, 1) := by decide +kernel
theorem own_d6_38 : decode prog_28_method_6_code 38 = .ok (.aload_n 0, 1) := by decide +kernel
theorem own_d6_39 : decode prog_28_method_6_code 39 = .ok (.getfield 13, 3) := by decide +kernel
theorem own_d6_42 : decode prog_28_method_6_code 42 = .ok (.iload_n 1, 1) := by decide +kernel
theorem own_d6_43 : decode prog_28_method_6_code 43 = .ok (.iconst (-1), 1) := by decide +kernel
theorem own_d6_44 : decode prog_28_method_6_code 44 = .ok (.iastore, 1) := by decide +kernel
theorem own_d6_45 : decode prog_28_method_6_code 45 = .ok (.return_, 1) := by decide +kernel
theorem own_d7_0 : decode prog_28_method_3_code 0 = .ok (.aload_n 0, 1) := by decide +kernel
theorem own_d7_1 : decode prog_28_method_3_code 1 = .ok (.getfield 13, 3) := by decide +kernel
theorem own_d7_4 : decode prog_28_method_3_code 4 = .ok (.iload_n 1, 1) := by decide +kernel
theorem own_d7_5 : decode prog_28_method_3_code 5 = .ok (.iaload, 1) := by decide +kernel
theorem own_d7_6 : decode prog_28_method_3_code 6 = .ok (.ifCond .lt 7, 3) := by decide +kernel
theorem own_d7_9 : decode prog_28_method_3_code 9 = .ok (.iconst 1, 1) := by decide +kernel
theorem own_d7_10 : decode prog_28_method_3_code 10 = .ok (.goto 4, 3) := by decide +kernel
theorem own_d7_13 : decode prog_28_method_3_code 13 = .ok (.iconst 0, 1) := by decide +kernel
theorem own_d7_14 : decode prog_28_method_3_code 14 = .ok (.ireturn, 1) := by decide +kernel
theorem own_d8_0 : decode prog_28_method_2_code 0 = .ok (.aload_n 0, 1) := by decide +kernel
theorem own_d8_1 : decode prog_28_method_2_code 1 = .ok (.getfield 22, 3) := by decide +kernel
theorem own_d8_4 : decode prog_28_method_2_code 4 = .ok (.ireturn, 1) := by decide +kernel
theorem own_d9_0 : decode prog_28_method_4_code 0 = .ok (.aload_n 0, 1) := by decide +kernel
theorem own_d9_1 : decode prog_28_method_4_code 1 = .ok (.getfield 7, 3) := by decide +kernel
theorem own_d9_4 : decode prog_28_method_4_code 4 = .ok (.iload_n 1, 1) := by decide +kernel
theorem own_d9_5 : decode prog_28_method_4_code 5 = .ok (.iaload, 1) := by decide +kernel
theorem own_d9_6 : decode prog_28_method_4_code 6 = .ok (.ireturn, 1) := by decide +kernel
theorem own_pn0 : plainName "com/example/murmuration/murmuration/search/IndexedSetRemovePinLaw" = true := by first | (simp [plainName, overriddenIn]; done) | decide +kernel
theorem own_pn1 : plainName "java/util/Arrays" = true := by first | (simp [plainName, overriddenIn]; done) | decide +kernel
theorem own_pn2 : plainName "com/example/murmuration/murmuration/search/IndexedSet" = true := by first | (simp [plainName, overriddenIn]; done) | decide +kernel
theorem own_pd0 : parseMethodDescriptor "([II)V" = some ⟨[(.array .int), .int], none⟩ := by decide +kernel
theorem own_pd1 : parseMethodDescriptor "(II)I" = some ⟨[.int, .int], some .int⟩ := by decide +kernel
theorem own_pd2 : parseMethodDescriptor "(I)V" = some ⟨[.int], none⟩ := by decide +kernel
theorem own_pd3 : parseMethodDescriptor "(I)Z" = some ⟨[.int], some .boolean⟩ := by decide +kernel
theorem own_pd4 : parseMethodDescriptor "()I" = some ⟨[], some .int⟩ := by decide +kernel
theorem own_pd5 : parseMethodDescriptor "(I)I" = some ⟨[.int], some .int⟩ := by decide +kernel
set_option maxRecDepth 65536 in
set_option maxHeartbeats 40000000 in
theorem own_m1 {l : Launch} {Z : State} {a0 : Array Value} (hw : ∀ d ∈ tables_1, d.before a0 Z = true) {n0 : Nat} {ws : List Jvm.Cond} {h : Heap} (x : Int32) (m : Int32) (hm : m ≠ 0) :
    own_Met l Z n0 (⟨"com/example/murmuration/murmuration/search/IndexedSetRemovePinLaw", "mod", "(II)I"⟩ : MethodName) method_2_code 2 (some .int) ({ frames := 0, cells := 0, slots := 0, locals := 0 } : Room) ws #[(.int x), (.int m)] h (fun v h' => (v = some (.int ((x &&& (2147483647 : Int32)) % m))) ∧ (h = h')) := by
  refine own_met own_pn0 #[.val (.int x), .val (.int m)] (fun m => by first | (simp [entryFrame, mkF, argsToLocals, Value.category]; done) | rfl) ?_
  intro p_ e_ s_ m_ b_ mt_ c_ C
  replace C : own_Ctx p_ s_ m_ mt_ c_ Z "com/example/murmuration/murmuration/search/IndexedSetRemovePinLaw" "mod" method_2_code 2 (some .int) := C
  refine own_iloadN C (pc' := 1) own_d1_0 rfl rfl ?_
  refine own_ldc C (pc' := 3) (v := (2147483647 : Int32)) own_d1_1 rfl (hw _ (List.mem_of_getElem? (i := 4) rfl)) ?_
  refine own_iand C (pc' := 4) own_d1_3 rfl ?_
  refine own_iloadN C (pc' := 5) own_d1_4 rfl rfl ?_
  refine own_irem C (pc' := 6) own_d1_5 rfl (by assumption) ?_
  exact own_ret C (t := .int) rfl rfl (Or.inl ⟨rfl, by simp, _, rfl⟩) own_d1_6 (by decide) (by decide) (⟨rfl, rfl⟩)
set_option maxRecDepth 65536 in
set_option maxHeartbeats 40000000 in
theorem own_m4 {l : Launch} {Z : State} {a0 : Array Value} (hw : ∀ d ∈ tables_1, d.before a0 Z = true) {n0 : Nat} {ws : List Jvm.Cond} {h : Heap} (a : Addr) (x : Int32) (n : Nat) (f : Nat → Int32) (Z0 : n0 ≤ h.size) (f0 : n0 ≤ a) (f1 : own_AI Z h a n f) :
    own_Met l Z n0 (⟨"java/util/Arrays", "fill", "([II)V"⟩ : MethodName) jdk_65_method_103_code 4 none ({ frames := 0, cells := 0, slots := 0, locals := 0 } : Room) ws #[(.ref a), (.int x)] h (fun v h' => (v = none) ∧ (Keep h h' [a]) ∧ (own_AI Z h' a n (fun _ => x))) := by
  refine own_met own_pn1 #[.val (.ref a), .val (.int x), .unset, .unset] (fun m => by first | (simp [entryFrame, mkF, argsToLocals, Value.category]; done) | rfl) ?_
  intro p_ e_ s_ m_ b_ mt_ c_ C
  replace C : own_Ctx p_ s_ m_ mt_ c_ Z "java/util/Arrays" "fill" jdk_65_method_103_code 4 none := C
  have K0 : Keep h h [a] := Keep.refl _ _
  refine own_iconst C (pc' := 1) (v := (0 : Int32)) own_d4_0 rfl (by decide) ?_
  refine own_istoreN C (pc' := 2) (Ls' := #[.val (.ref a), .val (.int x), .val (.int (0 : Int32)), .unset]) own_d4_1 rfl rfl ?_
  refine own_aloadN C (pc' := 3) own_d4_2 rfl rfl rfl ?_
  refine own_lenI C (pc' := 4) f1 own_d4_3 rfl ?_
  refine own_istoreN C (pc' := 5) (Ls' := #[.val (.ref a), .val (.int x), .val (.int (0 : Int32)), .val (.int (Nat.toInt32 n))]) own_d4_4 rfl rfl ?_
  have hn : n < 2 ^ 31 := f1.1
  have loop : ∀ (t i : Nat) (hh : Heap) (g : Nat → Int32), t + i = n → own_AI Z hh a n g → (∀ j, j < i → g j = x) → Keep h hh [a] → n0 ≤ hh.size → own_Run p_ l e_ ({ frames := 0, cells := 0, slots := 0, locals := 0 } : Room) s_ m_ #[(.ref a), (.int x)] b_ mt_ c_ n0 (own_K b_ ({ frames := 0, cells := 0, slots := 0, locals := 0 } : Room) s_ n0 (fun v h' => (v = none) ∧ (Keep h h' [a]) ∧ (own_AI Z h' a n (fun _ => x)))) hh 0 0 (mkF m_ 5 #[.val (.ref a), .val (.int x), .val (.int (Nat.toInt32 i)), .val (.int (Nat.toInt32 n))] []) := by
    intro t; induction t with
    | zero =>
      intro i hh g ht V hg K Z1
      refine own_iloadN C (pc' := 6) own_d4_5 rfl rfl ?_
      refine own_iloadN C (pc' := 7) own_d4_6 rfl rfl ?_
      refine own_ii_ge C (pc1 := 20) (pc2 := 10) own_d4_7 rfl rfl (fun c1 => ?_) (fun c1 => absurd c1 (by rw [own_tlt (by omega) hn]; omega))
      exact own_retV C rfl own_d4_20 (by decide) (by decide) (⟨rfl, K, (own_A.congr V fun j hj => congrArg _ (hg j (by omega)))⟩)
    | succ t ih =>
      intro i hh g ht V hg K Z1
      refine own_iloadN C (pc' := 6) own_d4_5 rfl rfl ?_
      refine own_iloadN C (pc' := 7) own_d4_6 rfl rfl ?_
      refine own_ii_ge C (pc1 := 20) (pc2 := 10) own_d4_7 rfl rfl (fun c2 => absurd c2 (by rw [own_tlt (by omega) hn]; exact not_not_intro (by omega))) (fun c2 => ?_)
      refine own_aloadN C (pc' := 11) own_d4_10 rfl rfl rfl ?_
      refine own_iloadN C (pc' := 12) own_d4_11 rfl rfl ?_
      refine own_iloadN C (pc' := 13) own_d4_12 rfl rfl ?_
      refine own_stI C (pc' := 14) V (i := i) (own_ti (by omega)) (by omega) f0 own_d4_13 rfl (fun h3 W4 V5 => ?_)
      have Z6 : n0 ≤ h3.size := Nat.le_trans Z1 (Nat.le_of_eq (Wr.size W4).symm)
      have K7 := Keep.wr K W4 (Or.inl (List.mem_of_getElem? (i := 0) rfl))
      have F8 : own_AI Z h3 a n (own_upd g i x) := V5
      refine own_iinc C (pc' := 17) (w := (1 : Int32)) (Ls' := #[.val (.ref a), .val (.int x), .val (.int ((Nat.toInt32 i) + (1 : Int32))), .val (.int (Nat.toInt32 n))]) own_d4_14 rfl (by decide) rfl rfl ?_
      refine own_goto C (pc' := 5) own_d4_17 rfl ?_
      rw [own_succ]
      exact ih (i + 1) h3 (own_upd g i x) (by omega) F8 (fun j hj => by by_cases e : j = i <;> simp [own_upd, e] <;> exact hg j (by omega)) K7 Z6
  exact loop n 0 h f rfl f1 (fun j hj => absurd hj (Nat.not_lt_zero j)) K0 Z0
set_option maxRecDepth 65536 in
set_option maxHeartbeats 40000000 in
theorem own_m2 {l : Launch} {Z : State} {a0 : Array Value} (hw : ∀ d ∈ tables_1, d.before a0 Z = true) {n0 : Nat} {ws : List Jvm.Cond} {h : Heap} (a : Addr) (N : Int32) (nn : Nat) (Z0 : n0 ≤ h.size) (f0 : Exa Z h a "com/example/murmuration/murmuration/search/IndexedSet") (f1 : n0 ≤ a) (f2 : Fld Z h a "com/example/murmuration/murmuration/search/IndexedSet" "members" "[I" .null) (f3 : Fld Z h a "com/example/murmuration/murmuration/search/IndexedSet" "positions" "[I" .null) (f4 : Fld Z h a "com/example/murmuration/murmuration/search/IndexedSet" "size" "I" (.int (0 : Int32))) (hN : N.toInt = (nn : Int)) (hcap : nn ≤ 3) :
    own_Met l Z n0 (⟨"com/example/murmuration/murmuration/search/IndexedSet", "<init>", "(I)V"⟩ : MethodName) prog_28_method_1_code 2 none ({ frames := 1, cells := 2, slots := 6, locals := 15 } : Room) ws #[(.ref a), (.int N)] h (fun v h' => ∃ mem : Addr, ∃ pos : Addr, (v = none) ∧ (Keep h h' [a]) ∧ (n0 ≤ mem ∧ h.size ≤ mem) ∧ (n0 ≤ pos ∧ h.size ≤ pos) ∧ (Exa Z h' a "com/example/murmuration/murmuration/search/IndexedSet") ∧ (Fld Z h' a "com/example/murmuration/murmuration/search/IndexedSet" "members" "[I" (.ref mem)) ∧ (Fld Z h' a "com/example/murmuration/murmuration/search/IndexedSet" "positions" "[I" (.ref pos)) ∧ (Fld Z h' a "com/example/murmuration/murmuration/search/IndexedSet" "size" "I" (.int (0 : Int32))) ∧ (own_AI Z h' mem nn (fun _ => (0 : Int32))) ∧ (own_AI Z h' pos nn (fun _ => (-1 : Int32))) ∧ (a ≠ mem) ∧ (a ≠ pos) ∧ (mem ≠ pos)) := by
  refine own_met own_pn2 #[.val (.ref a), .val (.int N)] (fun m => by first | (simp [entryFrame, mkF, argsToLocals, Value.category]; done) | rfl) ?_
  intro p_ e_ s_ m_ b_ mt_ c_ C
  replace C : own_Ctx p_ s_ m_ mt_ c_ Z "com/example/murmuration/murmuration/search/IndexedSet" "<init>" prog_28_method_1_code 2 none := C
  have K0 : Keep h h [a] := Keep.refl _ _
  refine own_aloadN C (pc' := 1) own_d2_0 rfl rfl rfl ?_
  refine own_initO C (pc' := 4) (W := 0) (hw _ (List.mem_of_getElem? (i := 12) rfl)) (hw _ (List.mem_of_getElem? (i := 13) rfl)) (hw _ (List.mem_of_getElem? (i := 14) rfl)) own_d2_1 rfl rfl (by decide) (Nat.le_of_eq rfl) (by decide) ?_
  refine own_aloadN C (pc' := 5) own_d2_4 rfl rfl rfl ?_
  refine own_iloadN C (pc' := 6) own_d2_5 rfl rfl ?_
  refine own_newAI C (pc' := 8) (hw _ (List.mem_of_getElem? (i := 5) rfl)) Z0 own_d2_6 rfl (nn := nn) (cap := 3) hN hcap (by decide) (by decide) (by decide) (fun h9 a10 ea11 ga12 Z13 E14 V15 => ?_)
  have ne16 : a ≠ a10 := by rw [ea11]; exact Nat.ne_of_lt (Exa.lt f0)
  have F17 : Exa Z h9 a "com/example/murmuration/murmuration/search/IndexedSet" := Exa.ext E14 f0
  have F18 : Fld Z h9 a "com/example/murmuration/murmuration/search/IndexedSet" "members" "[I" .null := Fld.ext E14 f2
  have F19 : Fld Z h9 a "com/example/murmuration/murmuration/search/IndexedSet" "positions" "[I" .null := Fld.ext E14 f3
  have F20 : Fld Z h9 a "com/example/murmuration/murmuration/search/IndexedSet" "size" "I" (.int (0 : Int32)) := Fld.ext E14 f4
  have gk22 : h.size ≤ a10 := by rw [ea11]; exact K0.1
  have K21 := Keep.ext K0 E14
  refine own_putF C (pc' := 11) (hw _ (List.mem_of_getElem? (i := 15) rfl)) F18 F17 (Or.inr ⟨(hw _ (List.mem_of_getElem? (i := 16) rfl)), rfl, rfl⟩) (hw _ (List.mem_of_getElem? (i := 7) rfl)) (ty := (.array .int)) (by decide) rfl rfl f1 own_d2_8 rfl (fun h23 W24 => ?_)
  have Z25 : n0 ≤ h23.size := Nat.le_trans Z13 (Nat.le_of_eq (Wr.size W24).symm)
  have K26 := Keep.wr K21 W24 (Or.inl (List.mem_of_getElem? (i := 0) rfl))
  have F27 : Exa Z h23 a "com/example/murmuration/murmuration/search/IndexedSet" := Exa.wr W24 F17
  have F28 : Fld Z h23 a "com/example/murmuration/murmuration/search/IndexedSet" "members" "[I" (.ref a10) := Fld.same W24 F18
  have F29 : Fld Z h23 a "com/example/murmuration/murmuration/search/IndexedSet" "positions" "[I" .null := Fld.other W24 F19 (Or.inr (slot_ne (Or.inr (hw _ (List.mem_of_getElem? (i := 18) rfl))) (Or.inr (hw _ (List.mem_of_getElem? (i := 16) rfl))) (by decide) (t := (.array .int)) (t' := (.array .int)) (by decide) (by decide)))
  have F30 : Fld Z h23 a "com/example/murmuration/murmuration/search/IndexedSet" "size" "I" (.int (0 : Int32)) := Fld.other W24 F20 (Or.inr (slot_ne (Or.inl (hw _ (List.mem_of_getElem? (i := 29) rfl))) (Or.inr (hw _ (List.mem_of_getElem? (i := 16) rfl))) (by decide) (t := .int) (t' := (.array .int)) (by decide) (by decide)))
  have F31 : own_AI Z h23 a10 nn (fun _ => (0 : Int32)) := own_A.other V15 W24 (Ne.symm ne16)
  refine own_aloadN C (pc' := 12) own_d2_11 rfl rfl rfl ?_
  refine own_iloadN C (pc' := 13) own_d2_12 rfl rfl ?_
  refine own_newAI C (pc' := 15) (hw _ (List.mem_of_getElem? (i := 5) rfl)) Z25 own_d2_13 rfl (nn := nn) (cap := 3) hN hcap (by decide) (by decide) (by decide) (fun h32 a33 ea34 ga35 Z36 E37 V38 => ?_)
  have ne39 : a ≠ a33 := by rw [ea34]; exact Nat.ne_of_lt (Exa.lt F27)
  have ne40 : a10 ≠ a33 := by rw [ea34]; exact Nat.ne_of_lt (own_A.lt F31)
  have F41 : Exa Z h32 a "com/example/murmuration/murmuration/search/IndexedSet" := Exa.ext E37 F27
  have F42 : Fld Z h32 a "com/example/murmuration/murmuration/search/IndexedSet" "members" "[I" (.ref a10) := Fld.ext E37 F28
  have F43 : Fld Z h32 a "com/example/murmuration/murmuration/search/IndexedSet" "positions" "[I" .null := Fld.ext E37 F29
  have F44 : Fld Z h32 a "com/example/murmuration/murmuration/search/IndexedSet" "size" "I" (.int (0 : Int32)) := Fld.ext E37 F30
  have F45 : own_AI Z h32 a10 nn (fun _ => (0 : Int32)) := own_A.ext F31 E37
  have gk47 : h.size ≤ a33 := by rw [ea34]; exact K26.1
  have K46 := Keep.ext K26 E37
  refine own_putF C (pc' := 18) (hw _ (List.mem_of_getElem? (i := 17) rfl)) F43 F41 (Or.inr ⟨(hw _ (List.mem_of_getElem? (i := 18) rfl)), rfl, rfl⟩) (hw _ (List.mem_of_getElem? (i := 7) rfl)) (ty := (.array .int)) (by decide) rfl rfl f1 own_d2_15 rfl (fun h48 W49 => ?_)
  have Z50 : n0 ≤ h48.size := Nat.le_trans Z36 (Nat.le_of_eq (Wr.size W49).symm)
  have K51 := Keep.wr K46 W49 (Or.inl (List.mem_of_getElem? (i := 0) rfl))
  have F52 : Exa Z h48 a "com/example/murmuration/murmuration/search/IndexedSet" := Exa.wr W49 F41
  have F53 : Fld Z h48 a "com/example/murmuration/murmuration/search/IndexedSet" "members" "[I" (.ref a10) := Fld.other W49 F42 (Or.inr (slot_ne (Or.inr (hw _ (List.mem_of_getElem? (i := 16) rfl))) (Or.inr (hw _ (List.mem_of_getElem? (i := 18) rfl))) (by decide) (t := (.array .int)) (t' := (.array .int)) (by decide) (by decide)))
  have F54 : Fld Z h48 a "com/example/murmuration/murmuration/search/IndexedSet" "positions" "[I" (.ref a33) := Fld.same W49 F43
  have F55 : Fld Z h48 a "com/example/murmuration/murmuration/search/IndexedSet" "size" "I" (.int (0 : Int32)) := Fld.other W49 F44 (Or.inr (slot_ne (Or.inl (hw _ (List.mem_of_getElem? (i := 29) rfl))) (Or.inr (hw _ (List.mem_of_getElem? (i := 18) rfl))) (by decide) (t := .int) (t' := (.array .int)) (by decide) (by decide)))
  have F56 : own_AI Z h48 a10 nn (fun _ => (0 : Int32)) := own_A.other F45 W49 (Ne.symm ne16)
  have F57 : own_AI Z h48 a33 nn (fun _ => (0 : Int32)) := own_A.other V38 W49 (Ne.symm ne39)
  refine own_aloadN C (pc' := 19) own_d2_18 rfl rfl rfl ?_
  refine own_getF C (pc' := 22) (hw _ (List.mem_of_getElem? (i := 17) rfl)) F54 own_d2_19 rfl ?_
  refine own_iconst C (pc' := 23) (v := (-1 : Int32)) own_d2_22 rfl (by decide) ?_
  refine own_callS C (pc' := 26) (y := (⟨"java/util/Arrays", "fill", "([II)V"⟩ : MethodName)) (argsL := [(.ref a33), (.int (-1 : Int32))]) (rest := []) 0 (hw _ (List.mem_of_getElem? (i := 19) rfl)) (hw _ (List.mem_of_getElem? (i := 20) rfl)) (hw _ (List.mem_of_getElem? (i := 21) rfl)) (hw _ (List.mem_of_getElem? (i := 22) rfl)) (by decide) (own_m4 hw a33 (-1 : Int32) nn (fun _ => (0 : Int32)) Z50 ga35 F57 ) (by decide) (by decide) (lenOf own_pd0 rfl) rfl (Nat.le_of_eq rfl) own_d2_23 rfl rfl (by decide) (by decide) (fun v58 h59 hq60 => ?_)
  obtain ⟨rfl, K61, F62⟩ := hq60
  have K64 := Keep.trans K51 K61 (allS (Or.inr gk47) all0)
  have Z65 : n0 ≤ h59.size := Nat.le_trans Z50 K61.1
  have F66 : Exa Z h59 a "com/example/murmuration/murmuration/search/IndexedSet" := Exa.keep F52 K61
  have F67 : Fld Z h59 a "com/example/murmuration/murmuration/search/IndexedSet" "members" "[I" (.ref a10) := Fld.keep F53 K61 (ninS ne39 nin0)
  have F68 : Fld Z h59 a "com/example/murmuration/murmuration/search/IndexedSet" "positions" "[I" (.ref a33) := Fld.keep F54 K61 (ninS ne39 nin0)
  have F69 : Fld Z h59 a "com/example/murmuration/murmuration/search/IndexedSet" "size" "I" (.int (0 : Int32)) := Fld.keep F55 K61 (ninS ne39 nin0)
  have F70 : own_AI Z h59 a10 nn (fun _ => (0 : Int32)) := own_A.keep F56 K61 (ninS ne40 nin0)
  show own_Run p_ l e_ _ s_ m_ _ b_ mt_ c_ n0 _ h59 _ _ (mkF m_ 26 #[.val (.ref a), .val (.int N)] [])
  exact own_retV C rfl own_d2_26 (by decide) (by decide) (⟨a10, a33, rfl, K64, ⟨ga12, gk22⟩, ⟨ga35, gk47⟩, F66, F67, F68, F69, F70, F62, ne16, ne39, ne40⟩)
set_option maxRecDepth 65536 in
set_option maxHeartbeats 40000000 in
theorem own_m5 {l : Launch} {Z : State} {a0 : Array Value} (hw : ∀ d ∈ tables_1, d.before a0 Z = true) {n0 : Nat} {ws : List Jvm.Cond} {h : Heap} (a : Addr) (mem : Addr) (pos : Addr) (n : Nat) (sz : Int32) (fm : Nat → Int32) (fp : Nat → Int32) (x : Int32) (xn : Nat) (sn : Nat) (sz' : Int32) (Z0 : n0 ≤ h.size) (f0 : Exa Z h a "com/example/murmuration/murmuration/search/IndexedSet") (f1 : n0 ≤ a) (f2 : n0 ≤ mem) (f3 : n0 ≤ pos) (f4 : a ≠ mem) (f5 : a ≠ pos) (f6 : mem ≠ pos) (f7 : Fld Z h a "com/example/murmuration/murmuration/search/IndexedSet" "members" "[I" (.ref mem)) (f8 : Fld Z h a "com/example/murmuration/murmuration/search/IndexedSet" "positions" "[I" (.ref pos)) (f9 : Fld Z h a "com/example/murmuration/murmuration/search/IndexedSet" "size" "I" (.int sz)) (f10 : own_AI Z h mem n fm) (f11 : own_AI Z h pos n fp) (hx : x.toInt = (xn : Int)) (hxn : xn < n) (hs : sz.toInt = (sn : Int)) (hsn : sn < n) (hsz : sz + (1 : Int32) = sz') :
    own_Met l Z n0 (⟨"com/example/murmuration/murmuration/search/IndexedSet", "add", "(I)V"⟩ : MethodName) prog_28_method_5_code 2 none ({ frames := 0, cells := 0, slots := 0, locals := 0 } : Room) ws #[(.ref a), (.int x)] h (fun v h' => (v = none) ∧ (Keep h h' [a, mem, pos]) ∧ (Exa Z h' a "com/example/murmuration/murmuration/search/IndexedSet") ∧ (Fld Z h' a "com/example/murmuration/murmuration/search/IndexedSet" "members" "[I" (.ref mem)) ∧ (Fld Z h' a "com/example/murmuration/murmuration/search/IndexedSet" "positions" "[I" (.ref pos)) ∧ (Fld Z h' a "com/example/murmuration/murmuration/search/IndexedSet" "size" "I" (.int sz')) ∧ (own_AI Z h' mem n (own_upd fm sn x)) ∧ (own_AI Z h' pos n (own_upd fp xn sz))) := by
  refine own_met own_pn2 #[.val (.ref a), .val (.int x)] (fun m => by first | (simp [entryFrame, mkF, argsToLocals, Value.category]; done) | rfl) ?_
  intro p_ e_ s_ m_ b_ mt_ c_ C
  replace C : own_Ctx p_ s_ m_ mt_ c_ Z "com/example/murmuration/murmuration/search/IndexedSet" "add" prog_28_method_5_code 2 none := C
  have K0 : Keep h h [a, mem, pos] := Keep.refl _ _
  refine own_aloadN C (pc' := 1) own_d5_0 rfl rfl rfl ?_
  refine own_getF C (pc' := 4) (hw _ (List.mem_of_getElem? (i := 17) rfl)) f8 own_d5_1 rfl ?_
  refine own_iloadN C (pc' := 5) own_d5_4 rfl rfl ?_
  refine own_aloadN C (pc' := 6) own_d5_5 rfl rfl rfl ?_
  refine own_getF C (pc' := 9) (hw _ (List.mem_of_getElem? (i := 28) rfl)) f9 own_d5_6 rfl ?_
  refine own_stI C (pc' := 10) f11 (i := xn) hx hxn f3 own_d5_9 rfl (fun h71 W72 V73 => ?_)
  have Z74 : n0 ≤ h71.size := Nat.le_trans Z0 (Nat.le_of_eq (Wr.size W72).symm)
  have K75 := Keep.wr K0 W72 (Or.inl (List.mem_of_getElem? (i := 2) rfl))
  have F76 : Exa Z h71 a "com/example/murmuration/murmuration/search/IndexedSet" := Exa.wr W72 f0
  have F77 : Fld Z h71 a "com/example/murmuration/murmuration/search/IndexedSet" "members" "[I" (.ref mem) := Fld.other W72 f7 (Or.inl f5)
  have F78 : Fld Z h71 a "com/example/murmuration/murmuration/search/IndexedSet" "positions" "[I" (.ref pos) := Fld.other W72 f8 (Or.inl f5)
  have F79 : Fld Z h71 a "com/example/murmuration/murmuration/search/IndexedSet" "size" "I" (.int sz) := Fld.other W72 f9 (Or.inl f5)
  have F80 : own_AI Z h71 mem n fm := own_A.other f10 W72 f6
  have F81 : own_AI Z h71 pos n (own_upd fp xn sz) := V73
  refine own_aloadN C (pc' := 11) own_d5_10 rfl rfl rfl ?_
  refine own_getF C (pc' := 14) (hw _ (List.mem_of_getElem? (i := 15) rfl)) F77 own_d5_11 rfl ?_
  refine own_aloadN C (pc' := 15) own_d5_14 rfl rfl rfl ?_
  refine own_dup C (pc' := 16) own_d5_15 rfl rfl ?_
  refine own_getF C (pc' := 19) (hw _ (List.mem_of_getElem? (i := 28) rfl)) F79 own_d5_16 rfl ?_
  refine own_dupX1 C (pc' := 20) own_d5_19 rfl rfl rfl ?_
  refine own_iconst C (pc' := 21) (v := (1 : Int32)) own_d5_20 rfl (by decide) ?_
  refine own_iadd C (pc' := 22) own_d5_21 rfl ?_
  refine own_putF C (pc' := 25) (hw _ (List.mem_of_getElem? (i := 28) rfl)) F79 F76 (Or.inl (hw _ (List.mem_of_getElem? (i := 29) rfl))) (hw _ (List.mem_of_getElem? (i := 7) rfl)) (ty := .int) (by decide) rfl rfl f1 own_d5_22 rfl (fun h82 W83 => ?_)
  have Z84 : n0 ≤ h82.size := Nat.le_trans Z74 (Nat.le_of_eq (Wr.size W83).symm)
  have K85 := Keep.wr K75 W83 (Or.inl (List.mem_of_getElem? (i := 0) rfl))
  have F86 : Exa Z h82 a "com/example/murmuration/murmuration/search/IndexedSet" := Exa.wr W83 F76
  have F87 : Fld Z h82 a "com/example/murmuration/murmuration/search/IndexedSet" "members" "[I" (.ref mem) := Fld.other W83 F77 (Or.inr (slot_ne (Or.inr (hw _ (List.mem_of_getElem? (i := 16) rfl))) (Or.inl (hw _ (List.mem_of_getElem? (i := 29) rfl))) (by decide) (t := (.array .int)) (t' := .int) (by decide) (by decide)))
  have F88 : Fld Z h82 a "com/example/murmuration/murmuration/search/IndexedSet" "positions" "[I" (.ref pos) := Fld.other W83 F78 (Or.inr (slot_ne (Or.inr (hw _ (List.mem_of_getElem? (i := 18) rfl))) (Or.inl (hw _ (List.mem_of_getElem? (i := 29) rfl))) (by decide) (t := (.array .int)) (t' := .int) (by decide) (by decide)))
  have F89 : Fld Z h82 a "com/example/murmuration/murmuration/search/IndexedSet" "size" "I" (.int (sz + (1 : Int32))) := Fld.same W83 F79
  have F90 : own_AI Z h82 mem n fm := own_A.other F80 W83 (Ne.symm f4)
  have F91 : own_AI Z h82 pos n (own_upd fp xn sz) := own_A.other F81 W83 (Ne.symm f5)
  refine own_iloadN C (pc' := 26) own_d5_25 rfl rfl ?_
  refine own_stI C (pc' := 27) F90 (i := sn) hs hsn f2 own_d5_26 rfl (fun h92 W93 V94 => ?_)
  have Z95 : n0 ≤ h92.size := Nat.le_trans Z84 (Nat.le_of_eq (Wr.size W93).symm)
  have K96 := Keep.wr K85 W93 (Or.inl (List.mem_of_getElem? (i := 1) rfl))
  have F97 : Exa Z h92 a "com/example/murmuration/murmuration/search/IndexedSet" := Exa.wr W93 F86
  have F98 : Fld Z h92 a "com/example/murmuration/murmuration/search/IndexedSet" "members" "[I" (.ref mem) := Fld.other W93 F87 (Or.inl f4)
  have F99 : Fld Z h92 a "com/example/murmuration/murmuration/search/IndexedSet" "positions" "[I" (.ref pos) := Fld.other W93 F88 (Or.inl f4)
  have F100 : Fld Z h92 a "com/example/murmuration/murmuration/search/IndexedSet" "size" "I" (.int (sz + (1 : Int32))) := Fld.other W93 F89 (Or.inl f4)
  have F101 : own_AI Z h92 mem n (own_upd fm sn x) := V94
  have F102 : own_AI Z h92 pos n (own_upd fp xn sz) := own_A.other F91 W93 (Ne.symm f6)
  exact own_retV C rfl own_d5_27 (by decide) (by decide) (⟨rfl, K96, F97, F98, F99, (by rw [← hsz]; exact F100), F101, F102⟩)
set_option maxRecDepth 65536 in
set_option maxHeartbeats 40000000 in
theorem own_m8 {l : Launch} {Z : State} {a0 : Array Value} (hw : ∀ d ∈ tables_1, d.before a0 Z = true) {n0 : Nat} {ws : List Jvm.Cond} {h : Heap} (a : Addr) (w : Int32) (Z0 : n0 ≤ h.size) (f0 : Fld Z h a "com/example/murmuration/murmuration/search/IndexedSet" "size" "I" (.int w)) :
    own_Met l Z n0 (⟨"com/example/murmuration/murmuration/search/IndexedSet", "size", "()I"⟩ : MethodName) prog_28_method_2_code 1 (some .int) ({ frames := 0, cells := 0, slots := 0, locals := 0 } : Room) ws #[(.ref a)] h (fun v h' => (v = some (.int w)) ∧ (h = h')) := by
  refine own_met own_pn2 #[.val (.ref a)] (fun m => by first | (simp [entryFrame, mkF, argsToLocals, Value.category]; done) | rfl) ?_
  intro p_ e_ s_ m_ b_ mt_ c_ C
  replace C : own_Ctx p_ s_ m_ mt_ c_ Z "com/example/murmuration/murmuration/search/IndexedSet" "size" prog_28_method_2_code 1 (some .int) := C
  refine own_aloadN C (pc' := 1) own_d8_0 rfl rfl rfl ?_
  refine own_getF C (pc' := 4) (hw _ (List.mem_of_getElem? (i := 28) rfl)) f0 own_d8_1 rfl ?_
  exact own_ret C (t := .int) rfl rfl (Or.inl ⟨rfl, by simp, _, rfl⟩) own_d8_4 (by decide) (by decide) (⟨rfl, rfl⟩)
set_option maxRecDepth 65536 in
set_option maxHeartbeats 40000000 in
theorem own_m9 {l : Launch} {Z : State} {a0 : Array Value} (hw : ∀ d ∈ tables_1, d.before a0 Z = true) {n0 : Nat} {ws : List Jvm.Cond} {h : Heap} (a : Addr) (mem : Addr) (n : Nat) (fm : Nat → Int32) (x : Int32) (xn : Nat) (r : Int32) (Z0 : n0 ≤ h.size) (f0 : Fld Z h a "com/example/murmuration/murmuration/search/IndexedSet" "members" "[I" (.ref mem)) (f1 : own_AI Z h mem n fm) (hx : x.toInt = (xn : Int)) (hxn : xn < n) (hr : fm xn = r) :
    own_Met l Z n0 (⟨"com/example/murmuration/murmuration/search/IndexedSet", "get", "(I)I"⟩ : MethodName) prog_28_method_4_code 2 (some .int) ({ frames := 0, cells := 0, slots := 0, locals := 0 } : Room) ws #[(.ref a), (.int x)] h (fun v h' => (v = some (.int r)) ∧ (h = h')) := by
  refine own_met own_pn2 #[.val (.ref a), .val (.int x)] (fun m => by first | (simp [entryFrame, mkF, argsToLocals, Value.category]; done) | rfl) ?_
  intro p_ e_ s_ m_ b_ mt_ c_ C
  replace C : own_Ctx p_ s_ m_ mt_ c_ Z "com/example/murmuration/murmuration/search/IndexedSet" "get" prog_28_method_4_code 2 (some .int) := C
  refine own_aloadN C (pc' := 1) own_d9_0 rfl rfl rfl ?_
  refine own_getF C (pc' := 4) (hw _ (List.mem_of_getElem? (i := 15) rfl)) f0 own_d9_1 rfl ?_
  refine own_iloadN C (pc' := 5) own_d9_4 rfl rfl ?_
  refine own_ldIV C (pc' := 6) f1 (i := xn) (v := r) hx hxn hr own_d9_5 rfl ?_
  exact own_ret C (t := .int) rfl rfl (Or.inl ⟨rfl, by simp, _, rfl⟩) own_d9_6 (by decide) (by decide) (⟨rfl, rfl⟩)
set_option maxRecDepth 65536 in
set_option maxHeartbeats 40000000 in
theorem own_m7 {l : Launch} {Z : State} {a0 : Array Value} (hw : ∀ d ∈ tables_1, d.before a0 Z = true) {n0 : Nat} {ws : List Jvm.Cond} {h : Heap} (a : Addr) (pos : Addr) (n : Nat) (fp : Nat → Int32) (x : Int32) (xn : Nat) (b : Int32) (Z0 : n0 ≤ h.size) (f0 : Fld Z h a "com/example/murmuration/murmuration/search/IndexedSet" "positions" "[I" (.ref pos)) (f1 : own_AI Z h pos n fp) (hx : x.toInt = (xn : Int)) (hxn : xn < n) (hb : (if (fp xn) < 0 then (0 : Int32) else (1 : Int32)) = b) :
    own_Met l Z n0 (⟨"com/example/murmuration/murmuration/search/IndexedSet", "contains", "(I)Z"⟩ : MethodName) prog_28_method_3_code 2 (some .boolean) ({ frames := 0, cells := 0, slots := 0, locals := 0 } : Room) ws #[(.ref a), (.int x)] h (fun v h' => (v = some (.int b)) ∧ (h = h')) := by
  refine own_met own_pn2 #[.val (.ref a), .val (.int x)] (fun m => by first | (simp [entryFrame, mkF, argsToLocals, Value.category]; done) | rfl) ?_
  intro p_ e_ s_ m_ b_ mt_ c_ C
  replace C : own_Ctx p_ s_ m_ mt_ c_ Z "com/example/murmuration/murmuration/search/IndexedSet" "contains" prog_28_method_3_code 2 (some .boolean) := C
  refine own_aloadN C (pc' := 1) own_d7_0 rfl rfl rfl ?_
  refine own_getF C (pc' := 4) (hw _ (List.mem_of_getElem? (i := 17) rfl)) f0 own_d7_1 rfl ?_
  refine own_iloadN C (pc' := 5) own_d7_4 rfl rfl ?_
  refine own_ldI C (pc' := 6) f1 (i := xn) hx hxn own_d7_5 rfl ?_
  refine own_i0_lt C (pc1 := 13) (pc2 := 9) own_d7_6 rfl rfl (fun c103 => ?_) (fun c103 => ?_)
  · skip
    refine own_iconst C (pc' := 14) (v := (0 : Int32)) own_d7_13 rfl (by decide) ?_
    exact own_ret C (t := .boolean) rfl rfl (Or.inl ⟨rfl, by simp, _, rfl⟩) own_d7_14 (by decide) (by decide) (⟨by rw [← hb, if_pos c103], rfl⟩)
  · skip
    refine own_iconst C (pc' := 10) (v := (1 : Int32)) own_d7_9 rfl (by decide) ?_
    refine own_goto C (pc' := 14) own_d7_10 rfl ?_
    exact own_ret C (t := .boolean) rfl rfl (Or.inl ⟨rfl, by simp, _, rfl⟩) own_d7_14 (by decide) (by decide) (⟨by rw [← hb, if_neg c103], rfl⟩)
set_option maxRecDepth 65536 in
set_option maxHeartbeats 40000000 in
theorem own_m6 {l : Launch} {Z : State} {a0 : Array Value} (hw : ∀ d ∈ tables_1, d.before a0 Z = true) {n0 : Nat} {ws : List Jvm.Cond} {h : Heap} (a : Addr) (mem : Addr) (pos : Addr) (n : Nat) (sz : Int32) (fm : Nat → Int32) (fp : Nat → Int32) (x : Int32) (xn : Nat) (ln : Nat) (pv : Int32) (lv : Int32) (ii : Nat) (li : Nat) (sz' : Int32) (Z0 : n0 ≤ h.size) (f0 : Exa Z h a "com/example/murmuration/murmuration/search/IndexedSet") (f1 : n0 ≤ a) (f2 : n0 ≤ mem) (f3 : n0 ≤ pos) (f4 : a ≠ mem) (f5 : a ≠ pos) (f6 : mem ≠ pos) (f7 : Fld Z h a "com/example/murmuration/murmuration/search/IndexedSet" "members" "[I" (.ref mem)) (f8 : Fld Z h a "com/example/murmuration/murmuration/search/IndexedSet" "positions" "[I" (.ref pos)) (f9 : Fld Z h a "com/example/murmuration/murmuration/search/IndexedSet" "size" "I" (.int sz)) (f10 : own_AI Z h mem n fm) (f11 : own_AI Z h pos n fp) (hx : x.toInt = (xn : Int)) (hxn : xn < n) (hpv : fp xn = pv) (hi : pv.toInt = (ii : Int)) (hin : ii < n) (hl : (sz - (1 : Int32)).toInt = (ln : Int)) (hln : ln < n) (hlv : fm ln = lv) (hli : lv.toInt = (li : Int)) (hlin : li < n) (hsz : sz - (1 : Int32) = sz') :
    own_Met l Z n0 (⟨"com/example/murmuration/murmuration/search/IndexedSet", "remove", "(I)V"⟩ : MethodName) prog_28_method_6_code 4 none ({ frames := 0, cells := 0, slots := 0, locals := 0 } : Room) ws #[(.ref a), (.int x)] h (fun v h' => (v = none) ∧ (Keep h h' [a, mem, pos]) ∧ (Exa Z h' a "com/example/murmuration/murmuration/search/IndexedSet") ∧ (Fld Z h' a "com/example/murmuration/murmuration/search/IndexedSet" "members" "[I" (.ref mem)) ∧ (Fld Z h' a "com/example/murmuration/murmuration/search/IndexedSet" "positions" "[I" (.ref pos)) ∧ (Fld Z h' a "com/example/murmuration/murmuration/search/IndexedSet" "size" "I" (.int sz')) ∧ (own_AI Z h' mem n (own_upd fm ii lv)) ∧ (own_AI Z h' pos n (own_upd (own_upd fp li pv) xn (-1 : Int32)))) := by
  refine own_met own_pn2 #[.val (.ref a), .val (.int x), .unset, .unset] (fun m => by first | (simp [entryFrame, mkF, argsToLocals, Value.category]; done) | rfl) ?_
  intro p_ e_ s_ m_ b_ mt_ c_ C
  replace C : own_Ctx p_ s_ m_ mt_ c_ Z "com/example/murmuration/murmuration/search/IndexedSet" "remove" prog_28_method_6_code 4 none := C
  have K0 : Keep h h [a, mem, pos] := Keep.refl _ _
  refine own_aloadN C (pc' := 1) own_d6_0 rfl rfl rfl ?_
  refine own_getF C (pc' := 4) (hw _ (List.mem_of_getElem? (i := 17) rfl)) f8 own_d6_1 rfl ?_
  refine own_iloadN C (pc' := 5) own_d6_4 rfl rfl ?_
  refine own_ldIV C (pc' := 6) f11 (i := xn) (v := pv) hx hxn hpv own_d6_5 rfl ?_
  refine own_istoreN C (pc' := 7) (Ls' := #[.val (.ref a), .val (.int x), .val (.int pv), .unset]) own_d6_6 rfl rfl ?_
  refine own_aloadN C (pc' := 8) own_d6_7 rfl rfl rfl ?_
  refine own_getF C (pc' := 11) (hw _ (List.mem_of_getElem? (i := 15) rfl)) f7 own_d6_8 rfl ?_
  refine own_aloadN C (pc' := 12) own_d6_11 rfl rfl rfl ?_
  refine own_dup C (pc' := 13) own_d6_12 rfl rfl ?_
  refine own_getF C (pc' := 16) (hw _ (List.mem_of_getElem? (i := 28) rfl)) f9 own_d6_13 rfl ?_
  refine own_iconst C (pc' := 17) (v := (1 : Int32)) own_d6_16 rfl (by decide) ?_
  refine own_isub C (pc' := 18) own_d6_17 rfl ?_
  refine own_dupX1 C (pc' := 19) own_d6_18 rfl rfl rfl ?_
  refine own_putF C (pc' := 22) (hw _ (List.mem_of_getElem? (i := 28) rfl)) f9 f0 (Or.inl (hw _ (List.mem_of_getElem? (i := 29) rfl))) (hw _ (List.mem_of_getElem? (i := 7) rfl)) (ty := .int) (by decide) rfl rfl f1 own_d6_19 rfl (fun h104 W105 => ?_)
  have Z106 : n0 ≤ h104.size := Nat.le_trans Z0 (Nat.le_of_eq (Wr.size W105).symm)
  have K107 := Keep.wr K0 W105 (Or.inl (List.mem_of_getElem? (i := 0) rfl))
  have F108 : Exa Z h104 a "com/example/murmuration/murmuration/search/IndexedSet" := Exa.wr W105 f0
  have F109 : Fld Z h104 a "com/example/murmuration/murmuration/search/IndexedSet" "members" "[I" (.ref mem) := Fld.other W105 f7 (Or.inr (slot_ne (Or.inr (hw _ (List.mem_of_getElem? (i := 16) rfl))) (Or.inl (hw _ (List.mem_of_getElem? (i := 29) rfl))) (by decide) (t := (.array .int)) (t' := .int) (by decide) (by decide)))
  have F110 : Fld Z h104 a "com/example/murmuration/murmuration/search/IndexedSet" "positions" "[I" (.ref pos) := Fld.other W105 f8 (Or.inr (slot_ne (Or.inr (hw _ (List.mem_of_getElem? (i := 18) rfl))) (Or.inl (hw _ (List.mem_of_getElem? (i := 29) rfl))) (by decide) (t := (.array .int)) (t' := .int) (by decide) (by decide)))
  have F111 : Fld Z h104 a "com/example/murmuration/murmuration/search/IndexedSet" "size" "I" (.int (sz - (1 : Int32))) := Fld.same W105 f9
  have F112 : own_AI Z h104 mem n fm := own_A.other f10 W105 (Ne.symm f4)
  have F113 : own_AI Z h104 pos n fp := own_A.other f11 W105 (Ne.symm f5)
  refine own_ldIV C (pc' := 23) F112 (i := ln) (v := lv) hl hln hlv own_d6_22 rfl ?_
  refine own_istoreN C (pc' := 24) (Ls' := #[.val (.ref a), .val (.int x), .val (.int pv), .val (.int lv)]) own_d6_23 rfl rfl ?_
  refine own_aloadN C (pc' := 25) own_d6_24 rfl rfl rfl ?_
  refine own_getF C (pc' := 28) (hw _ (List.mem_of_getElem? (i := 15) rfl)) F109 own_d6_25 rfl ?_
  refine own_iloadN C (pc' := 29) own_d6_28 rfl rfl ?_
  refine own_iloadN C (pc' := 30) own_d6_29 rfl rfl ?_
  refine own_stI C (pc' := 31) F112 (i := ii) hi hin f2 own_d6_30 rfl (fun h114 W115 V116 => ?_)
  have Z117 : n0 ≤ h114.size := Nat.le_trans Z106 (Nat.le_of_eq (Wr.size W115).symm)
  have K118 := Keep.wr K107 W115 (Or.inl (List.mem_of_getElem? (i := 1) rfl))
  have F119 : Exa Z h114 a "com/example/murmuration/murmuration/search/IndexedSet" := Exa.wr W115 F108
  have F120 : Fld Z h114 a "com/example/murmuration/murmuration/search/IndexedSet" "members" "[I" (.ref mem) := Fld.other W115 F109 (Or.inl f4)
  have F121 : Fld Z h114 a "com/example/murmuration/murmuration/search/IndexedSet" "positions" "[I" (.ref pos) := Fld.other W115 F110 (Or.inl f4)
  have F122 : Fld Z h114 a "com/example/murmuration/murmuration/search/IndexedSet" "size" "I" (.int (sz - (1 : Int32))) := Fld.other W115 F111 (Or.inl f4)
  have F123 : own_AI Z h114 mem n (own_upd fm ii lv) := V116
  have F124 : own_AI Z h114 pos n fp := own_A.other F113 W115 (Ne.symm f6)
  refine own_aloadN C (pc' := 32) own_d6_31 rfl rfl rfl ?_
  refine own_getF C (pc' := 35) (hw _ (List.mem_of_getElem? (i := 17) rfl)) F121 own_d6_32 rfl ?_
  refine own_iloadN C (pc' := 36) own_d6_35 rfl rfl ?_
  refine own_iloadN C (pc' := 37) own_d6_36 rfl rfl ?_
  refine own_stI C (pc' := 38) F124 (i := li) hli hlin f3 own_d6_37 rfl (fun h125 W126 V127 => ?_)
  have Z128 : n0 ≤ h125.size := Nat.le_trans Z117 (Nat.le_of_eq (Wr.size W126).symm)
  have K129 := Keep.wr K118 W126 (Or.inl (List.mem_of_getElem? (i := 2) rfl))
  have F130 : Exa Z h125 a "com/example/murmuration/murmuration/search/IndexedSet" := Exa.wr W126 F119
  have F131 : Fld Z h125 a "com/example/murmuration/murmuration/search/IndexedSet" "members" "[I" (.ref mem) := Fld.other W126 F120 (Or.inl f5)
  have F132 : Fld Z h125 a "com/example/murmuration/murmuration/search/IndexedSet" "positions" "[I" (.ref pos) := Fld.other W126 F121 (Or.inl f5)
  have F133 : Fld Z h125 a "com/example/murmuration/murmuration/search/IndexedSet" "size" "I" (.int (sz - (1 : Int32))) := Fld.other W126 F122 (Or.inl f5)
  have F134 : own_AI Z h125 mem n (own_upd fm ii lv) := own_A.other F123 W126 f6
  have F135 : own_AI Z h125 pos n (own_upd fp li pv) := V127
  refine own_aloadN C (pc' := 39) own_d6_38 rfl rfl rfl ?_
  refine own_getF C (pc' := 42) (hw _ (List.mem_of_getElem? (i := 17) rfl)) F132 own_d6_39 rfl ?_
  refine own_iloadN C (pc' := 43) own_d6_42 rfl rfl ?_
  refine own_iconst C (pc' := 44) (v := (-1 : Int32)) own_d6_43 rfl (by decide) ?_
  refine own_stI C (pc' := 45) F135 (i := xn) hx hxn f3 own_d6_44 rfl (fun h136 W137 V138 => ?_)
  have Z139 : n0 ≤ h136.size := Nat.le_trans Z128 (Nat.le_of_eq (Wr.size W137).symm)
  have K140 := Keep.wr K129 W137 (Or.inl (List.mem_of_getElem? (i := 2) rfl))
  have F141 : Exa Z h136 a "com/example/murmuration/murmuration/search/IndexedSet" := Exa.wr W137 F130
  have F142 : Fld Z h136 a "com/example/murmuration/murmuration/search/IndexedSet" "members" "[I" (.ref mem) := Fld.other W137 F131 (Or.inl f5)
  have F143 : Fld Z h136 a "com/example/murmuration/murmuration/search/IndexedSet" "positions" "[I" (.ref pos) := Fld.other W137 F132 (Or.inl f5)
  have F144 : Fld Z h136 a "com/example/murmuration/murmuration/search/IndexedSet" "size" "I" (.int (sz - (1 : Int32))) := Fld.other W137 F133 (Or.inl f5)
  have F145 : own_AI Z h136 mem n (own_upd fm ii lv) := own_A.other F134 W137 f6
  have F146 : own_AI Z h136 pos n (own_upd (own_upd fp li pv) xn (-1 : Int32)) := V138
  exact own_retV C rfl own_d6_45 (by decide) (by decide) (⟨rfl, K140, F141, F142, F143, (by rw [← hsz]; exact F144), F145, F146⟩)
set_option maxRecDepth 65536 in
set_option maxHeartbeats 40000000 in
theorem own_law {l : Launch} {Z : State} {a0 : Array Value} (hw : ∀ d ∈ tables_1, d.before a0 Z = true) {n0 : Nat} {ws : List Jvm.Cond} {h : Heap} (p0 : Int32) (p1 : Int32) (p2 : Int32) (p3 : Int32) (Z0 : n0 ≤ h.size) :
    own_Met l Z n0 x code maxLocals ret room_1 ws #[(.int p0), (.int p1), (.int p2), (.int p3)] h (fun v h' => v = some (.int 1)) := by
  refine own_met own_pn0 #[.val (.int p0), .val (.int p1), .val (.int p2), .val (.int p3), .unset, .unset, .unset, .unset, .unset, .unset, .unset, .unset, .unset, .unset, .unset] (fun m => by first | (simp [entryFrame, mkF, argsToLocals, Value.category, maxLocals]; done) | rfl) ?_
  intro p_ e_ s_ m_ b_ mt_ c_ C
  replace C : own_Ctx p_ s_ m_ mt_ c_ Z "com/example/murmuration/murmuration/search/IndexedSetRemovePinLaw" "law" code maxLocals ret := C
  refine own_iloadN C (pc' := 1) at_0 rfl rfl ?_
  refine own_iconst C (pc' := 2) (v := (3 : Int32)) at_1 rfl (by decide) ?_
  refine own_callS C (pc' := 5) (y := (⟨"com/example/murmuration/murmuration/search/IndexedSetRemovePinLaw", "mod", "(II)I"⟩ : MethodName)) (argsL := [(.int p0), (.int (3 : Int32))]) (rest := []) 0 (hw _ (List.mem_of_getElem? (i := 0) rfl)) (hw _ (List.mem_of_getElem? (i := 1) rfl)) (hw _ (List.mem_of_getElem? (i := 2) rfl)) (hw _ (List.mem_of_getElem? (i := 3) rfl)) (by decide) (own_m1 hw p0 (3 : Int32)   (by decide)) (by decide) (by decide) (lenOf own_pd1 rfl) rfl (Nat.le_of_eq rfl) at_2 rfl rfl (by decide) (by decide) (fun v147 h148 hq149 => ?_)
  obtain ⟨rfl, rfl⟩ := hq149
  show own_Run p_ l e_ _ s_ m_ _ b_ mt_ c_ n0 _ h _ _ (mkF m_ 5 #[.val (.int p0), .val (.int p1), .val (.int p2), .val (.int p3), .unset, .unset, .unset, .unset, .unset, .unset, .unset, .unset, .unset, .unset, .unset] [(.int ((p0 &&& (2147483647 : Int32)) % (3 : Int32)))])
  refine own_istore C (pc' := 7) (Ls' := #[.val (.int p0), .val (.int p1), .val (.int p2), .val (.int p3), .val (.int ((p0 &&& (2147483647 : Int32)) % (3 : Int32))), .unset, .unset, .unset, .unset, .unset, .unset, .unset, .unset, .unset, .unset]) at_5 rfl rfl ?_
  obtain ⟨R151, b152, hR153⟩ := own_rem p0 (n := (3 : Int32)) (N := 3) (by decide) (by decide)
  generalize ((p0 &&& (2147483647 : Int32)) % (3 : Int32)) = x150 at hR153 ⊢
  show own_Run p_ l e_ _ s_ m_ _ b_ mt_ c_ n0 _ h _ _ (mkF m_ 7 #[.val (.int p0), .val (.int p1), .val (.int p2), .val (.int p3), .val (.int x150), .unset, .unset, .unset, .unset, .unset, .unset, .unset, .unset, .unset, .unset] [])
  have J : ∀ (z5 : Int32) (hh : Heap) (a6 : Addr) (x0 x1 x2 : Int32) (A0 A1 A2 : Nat), own_AI Z hh a6 3 (own_upd (own_upd (own_upd (fun _ => (0 : Int32)) 0 x0) 1 x1) 2 x2) → n0 ≤ a6 → n0 ≤ hh.size → x0.toInt = (A0 : Int) → x1.toInt = (A1 : Int) → x2.toInt = (A2 : Int) → A0 < 3 → A1 < 3 → A2 < 3 → A0 ≠ A1 → A0 ≠ A2 → A1 ≠ A2 → own_Run p_ l e_ room_1 s_ m_ #[(.int p0), (.int p1), (.int p2), (.int p3)] b_ mt_ c_ n0 (own_K b_ room_1 s_ n0 (fun v h' => v = some (.int 1))) hh 1 3 (mkF m_ 73 #[.val (.int p0), .val (.int p1), .val (.int p2), .val (.int p3), .val (.int x150), .val (.int z5), .val (.ref a6), .unset, .unset, .unset, .unset, .unset, .unset, .unset, .unset] []) := by
    intro z5 hh a6 x0 x1 x2 A0 A1 A2 V6 g6 Z1 hA0 hA1 hA2 b0 b1 b2 d01 d02 d12
    refine own_iloadN C (pc' := 74) at_73 rfl rfl ?_
    refine own_iconst C (pc' := 75) (v := (3 : Int32)) at_74 rfl (by decide) ?_
    refine own_callS C (pc' := 78) (y := (⟨"com/example/murmuration/murmuration/search/IndexedSetRemovePinLaw", "mod", "(II)I"⟩ : MethodName)) (argsL := [(.int p1), (.int (3 : Int32))]) (rest := []) 0 (hw _ (List.mem_of_getElem? (i := 0) rfl)) (hw _ (List.mem_of_getElem? (i := 1) rfl)) (hw _ (List.mem_of_getElem? (i := 2) rfl)) (hw _ (List.mem_of_getElem? (i := 3) rfl)) (by decide) (own_m1 hw p1 (3 : Int32)   (by decide)) (by decide) (by decide) (lenOf own_pd1 rfl) rfl (Nat.le_of_eq rfl) at_75 rfl rfl (by decide) (by decide) (fun v154 h155 hq156 => ?_)
    obtain ⟨rfl, rfl⟩ := hq156
    show own_Run p_ l e_ _ s_ m_ _ b_ mt_ c_ n0 _ hh _ _ (mkF m_ 78 #[.val (.int p0), .val (.int p1), .val (.int p2), .val (.int p3), .val (.int x150), .val (.int z5), .val (.ref a6), .unset, .unset, .unset, .unset, .unset, .unset, .unset, .unset] [(.int ((p1 &&& (2147483647 : Int32)) % (3 : Int32)))])
    refine own_iconst C (pc' := 79) (v := (1 : Int32)) at_78 rfl (by decide) ?_
    refine own_iadd C (pc' := 80) at_79 rfl ?_
    refine own_istore C (pc' := 82) (Ls' := #[.val (.int p0), .val (.int p1), .val (.int p2), .val (.int p3), .val (.int x150), .val (.int z5), .val (.ref a6), .val (.int (((p1 &&& (2147483647 : Int32)) % (3 : Int32)) + (1 : Int32))), .unset, .unset, .unset, .unset, .unset, .unset, .unset]) at_80 rfl rfl ?_
    rcases own_k3 p1 with e157 | e157 | e157
    · skip
      rw [e157]
      show own_Run p_ l e_ _ s_ m_ _ b_ mt_ c_ n0 _ hh _ _ (mkF m_ 82 #[.val (.int p0), .val (.int p1), .val (.int p2), .val (.int p3), .val (.int x150), .val (.int z5), .val (.ref a6), .val (.int (1 : Int32)), .unset, .unset, .unset, .unset, .unset, .unset, .unset] [])
      refine own_iloadN C (pc' := 83) at_82 rfl rfl ?_
      refine own_iload C (pc' := 85) at_83 rfl rfl ?_
      refine own_callS C (pc' := 88) (y := (⟨"com/example/murmuration/murmuration/search/IndexedSetRemovePinLaw", "mod", "(II)I"⟩ : MethodName)) (argsL := [(.int p2), (.int (1 : Int32))]) (rest := []) 0 (hw _ (List.mem_of_getElem? (i := 0) rfl)) (hw _ (List.mem_of_getElem? (i := 1) rfl)) (hw _ (List.mem_of_getElem? (i := 2) rfl)) (hw _ (List.mem_of_getElem? (i := 3) rfl)) (by decide) (own_m1 hw p2 (1 : Int32)   (by decide)) (by decide) (by decide) (lenOf own_pd1 rfl) rfl (Nat.le_of_eq rfl) at_85 rfl rfl (by decide) (by decide) (fun v158 h159 hq160 => ?_)
      obtain ⟨rfl, rfl⟩ := hq160
      show own_Run p_ l e_ _ s_ m_ _ b_ mt_ c_ n0 _ hh _ _ (mkF m_ 88 #[.val (.int p0), .val (.int p1), .val (.int p2), .val (.int p3), .val (.int x150), .val (.int z5), .val (.ref a6), .val (.int (1 : Int32)), .unset, .unset, .unset, .unset, .unset, .unset, .unset] [(.int ((p2 &&& (2147483647 : Int32)) % (1 : Int32)))])
      refine own_istore C (pc' := 90) (Ls' := #[.val (.int p0), .val (.int p1), .val (.int p2), .val (.int p3), .val (.int x150), .val (.int z5), .val (.ref a6), .val (.int (1 : Int32)), .val (.int ((p2 &&& (2147483647 : Int32)) % (1 : Int32))), .unset, .unset, .unset, .unset, .unset, .unset]) at_88 rfl rfl ?_
      have e161 := own_md1 p2
      rw [e161]
      show own_Run p_ l e_ _ s_ m_ _ b_ mt_ c_ n0 _ hh _ _ (mkF m_ 90 #[.val (.int p0), .val (.int p1), .val (.int p2), .val (.int p3), .val (.int x150), .val (.int z5), .val (.ref a6), .val (.int (1 : Int32)), .val (.int (0 : Int32)), .unset, .unset, .unset, .unset, .unset, .unset] [])
      refine own_new C (pc' := 93) (hw _ (List.mem_of_getElem? (i := 6) rfl)) (hw _ (List.mem_of_getElem? (i := 7) rfl)) (hw _ (List.mem_of_getElem? (i := 8) rfl)) Z1 at_90 rfl (by decide) (by decide) (fun h162 a163 ea164 ga165 Z166 E167 A168 D169 => ?_)
      have ne170 : a6 ≠ a163 := by rw [ea164]; exact Nat.ne_of_lt (own_A.lt V6)
      have F171 : own_AI Z h162 a6 3 (own_upd (own_upd (own_upd (fun _ => (0 : Int32)) 0 x0) 1 x1) 2 x2) := own_A.ext V6 E167
      have F172 : Fld Z h162 a163 "com/example/murmuration/murmuration/search/IndexedSet" "members" "[I" .null := D169 (Or.inr (hw _ (List.mem_of_getElem? (i := 16) rfl))) (ty := (.array .int)) (by decide)
      have F173 : Fld Z h162 a163 "com/example/murmuration/murmuration/search/IndexedSet" "positions" "[I" .null := D169 (Or.inr (hw _ (List.mem_of_getElem? (i := 18) rfl))) (ty := (.array .int)) (by decide)
      have F174 : Fld Z h162 a163 "com/example/murmuration/murmuration/search/IndexedSet" "size" "I" (.int (0 : Int32)) := D169 (Or.inl (hw _ (List.mem_of_getElem? (i := 29) rfl))) (ty := .int) (by decide)
      refine own_dup C (pc' := 94) at_93 rfl rfl ?_
      refine own_iconst C (pc' := 95) (v := (3 : Int32)) at_94 rfl (by decide) ?_
      refine own_callN C (pc' := 98) (y := (⟨"com/example/murmuration/murmuration/search/IndexedSet", "<init>", "(I)V"⟩ : MethodName)) (a := a163) (argsL := [(.int (3 : Int32))]) (rest := [(.ref a163)]) 1 rfl (hw _ (List.mem_of_getElem? (i := 9) rfl)) (hw _ (List.mem_of_getElem? (i := 10) rfl)) (hw _ (List.mem_of_getElem? (i := 11) rfl)) (hw _ (List.mem_of_getElem? (i := 8) rfl)) (by decide) (own_m2 hw a163 (3 : Int32) 3 Z166 A168 ga165 F172 F173 F174 (by decide) (by omega)) (by decide) (by decide) (lenOf own_pd2 rfl) rfl (Nat.le_of_eq rfl) at_95 rfl rfl (by decide) (by decide) (fun v175 h176 hq177 => ?_)
      obtain ⟨a178, a179, rfl, K180, ⟨ga181, gk182⟩, ⟨ga183, gk184⟩, F185, F186, F187, F188, F189, F190, F191, F192, F193⟩ := hq177
      have ne194 : a6 ≠ a178 := Nat.ne_of_lt (Nat.lt_of_lt_of_le (own_A.lt F171) gk182)
      have ne195 : a163 ≠ a178 := Nat.ne_of_lt (Nat.lt_of_lt_of_le (Exa.lt A168) gk182)
      have ne196 : a6 ≠ a179 := Nat.ne_of_lt (Nat.lt_of_lt_of_le (own_A.lt F171) gk184)
      have ne197 : a163 ≠ a179 := Nat.ne_of_lt (Nat.lt_of_lt_of_le (Exa.lt A168) gk184)
      have Z199 : n0 ≤ h176.size := Nat.le_trans Z166 K180.1
      have F200 : own_AI Z h176 a6 3 (own_upd (own_upd (own_upd (fun _ => (0 : Int32)) 0 x0) 1 x1) 2 x2) := own_A.keep F171 K180 (ninS ne170 nin0)
      have F201 : Exa Z h176 a163 "com/example/murmuration/murmuration/search/IndexedSet" := Exa.keep A168 K180
      show own_Run p_ l e_ _ s_ m_ _ b_ mt_ c_ n0 _ h176 _ _ (mkF m_ 98 #[.val (.int p0), .val (.int p1), .val (.int p2), .val (.int p3), .val (.int x150), .val (.int z5), .val (.ref a6), .val (.int (1 : Int32)), .val (.int (0 : Int32)), .unset, .unset, .unset, .unset, .unset, .unset] [(.ref a163)])
      refine own_astore C (pc' := 100) (Ls' := #[.val (.int p0), .val (.int p1), .val (.int p2), .val (.int p3), .val (.int x150), .val (.int z5), .val (.ref a6), .val (.int (1 : Int32)), .val (.int (0 : Int32)), .val (.ref a163), .unset, .unset, .unset, .unset, .unset]) at_98 rfl rfl rfl ?_
      refine own_aload C (pc' := 102) at_100 rfl rfl rfl ?_
      refine own_aload C (pc' := 104) at_102 rfl rfl rfl ?_
      refine own_iconst C (pc' := 105) (v := (0 : Int32)) at_104 rfl (by decide) ?_
      refine own_ldIV C (pc' := 106) F200 (i := 0) (v := x0) (by decide) (by decide) rfl at_105 rfl ?_
      refine own_callV C (pc' := 109) (y := (⟨"com/example/murmuration/murmuration/search/IndexedSet", "add", "(I)V"⟩ : MethodName)) (a := a163) (argsL := [(.int x0)]) (rest := []) 0 F185 (hw _ (List.mem_of_getElem? (i := 23) rfl)) (hw _ (List.mem_of_getElem? (i := 24) rfl)) (hw _ (List.mem_of_getElem? (i := 26) rfl)) (hw _ (List.mem_of_getElem? (i := 25) rfl)) (hw _ (List.mem_of_getElem? (i := 27) rfl)) (hw _ (List.mem_of_getElem? (i := 8) rfl)) (by decide) (own_m5 hw a163 a178 a179 3 (0 : Int32) (fun _ => (0 : Int32)) (fun _ => (-1 : Int32)) x0 A0 0 (1 : Int32) Z199 F185 ga165 ga181 ga183 ne195 ne197 F193 F186 F187 F188 F189 F190 hA0 (by omega) (by decide) (by decide) (by decide)) (by decide) (by decide) (lenOf own_pd2 rfl) rfl (Nat.le_of_eq rfl) at_106 rfl rfl (by decide) (by decide) (fun v202 h203 hq204 => ?_)
      obtain ⟨rfl, K205, F206, F207, F208, F209, F210, F211⟩ := hq204
      have Z213 : n0 ≤ h203.size := Nat.le_trans Z199 K205.1
      have F214 : own_AI Z h203 a6 3 (own_upd (own_upd (own_upd (fun _ => (0 : Int32)) 0 x0) 1 x1) 2 x2) := own_A.keep F200 K205 (ninS ne170 (ninS ne194 (ninS ne196 nin0)))
      have F215 : Exa Z h203 a163 "com/example/murmuration/murmuration/search/IndexedSet" := Exa.keep F185 K205
      show own_Run p_ l e_ _ s_ m_ _ b_ mt_ c_ n0 _ h203 _ _ (mkF m_ 109 #[.val (.int p0), .val (.int p1), .val (.int p2), .val (.int p3), .val (.int x150), .val (.int z5), .val (.ref a6), .val (.int (1 : Int32)), .val (.int (0 : Int32)), .val (.ref a163), .unset, .unset, .unset, .unset, .unset] [])
      refine own_iload C (pc' := 111) at_109 rfl rfl ?_
      refine own_iconst C (pc' := 112) (v := (2 : Int32)) at_111 rfl (by decide) ?_
      refine own_ii_lt C (pc1 := 124) (pc2 := 115) at_112 rfl rfl (fun c216 => ?_) (fun c216 => absurd c216 (by decide))
      refine own_iload C (pc' := 126) at_124 rfl rfl ?_
      refine own_iconst C (pc' := 127) (v := (3 : Int32)) at_126 rfl (by decide) ?_
      refine own_ii_lt C (pc1 := 139) (pc2 := 130) at_127 rfl rfl (fun c217 => ?_) (fun c217 => absurd c217 (by decide))
      refine own_aload C (pc' := 141) at_139 rfl rfl rfl ?_
      refine own_aload C (pc' := 143) at_141 rfl rfl rfl ?_
      refine own_iload C (pc' := 145) at_143 rfl rfl ?_
      refine own_ldIV C (pc' := 146) F214 (i := 0) (v := x0) (by decide) (by decide) rfl at_145 rfl ?_
      refine own_callV C (pc' := 149) (y := (⟨"com/example/murmuration/murmuration/search/IndexedSet", "remove", "(I)V"⟩ : MethodName)) (a := a163) (argsL := [(.int x0)]) (rest := []) 0 F206 (hw _ (List.mem_of_getElem? (i := 30) rfl)) (hw _ (List.mem_of_getElem? (i := 31) rfl)) (hw _ (List.mem_of_getElem? (i := 33) rfl)) (hw _ (List.mem_of_getElem? (i := 32) rfl)) (hw _ (List.mem_of_getElem? (i := 34) rfl)) (hw _ (List.mem_of_getElem? (i := 8) rfl)) (by decide) (own_m6 hw a163 a178 a179 3 (1 : Int32) (own_upd (fun _ => (0 : Int32)) 0 x0) (own_upd (fun _ => (-1 : Int32)) A0 (0 : Int32)) x0 A0 0 (0 : Int32) x0 0 A0 (0 : Int32) Z213 F206 ga165 ga181 ga183 ne195 ne197 F193 F207 F208 F209 F210 F211 hA0 (by omega) (by simp [own_upd, d01, d02, d12, Ne.symm d01, Ne.symm d02, Ne.symm d12]) (by decide) (by decide) (by decide) (by decide) rfl hA0 (by omega) (by decide)) (by decide) (by decide) (lenOf own_pd2 rfl) rfl (Nat.le_of_eq rfl) at_146 rfl rfl (by decide) (by decide) (fun v218 h219 hq220 => ?_)
      obtain ⟨rfl, K221, F222, F223, F224, F225, F226, F227⟩ := hq220
      have Z229 : n0 ≤ h219.size := Nat.le_trans Z213 K221.1
      have F230 : own_AI Z h219 a6 3 (own_upd (own_upd (own_upd (fun _ => (0 : Int32)) 0 x0) 1 x1) 2 x2) := own_A.keep F214 K221 (ninS ne170 (ninS ne194 (ninS ne196 nin0)))
      have F231 : Exa Z h219 a163 "com/example/murmuration/murmuration/search/IndexedSet" := Exa.keep F206 K221
      show own_Run p_ l e_ _ s_ m_ _ b_ mt_ c_ n0 _ h219 _ _ (mkF m_ 149 #[.val (.int p0), .val (.int p1), .val (.int p2), .val (.int p3), .val (.int x150), .val (.int z5), .val (.ref a6), .val (.int (1 : Int32)), .val (.int (0 : Int32)), .val (.ref a163), .unset, .unset, .unset, .unset, .unset] [])
      refine own_iconst C (pc' := 150) (v := (2 : Int32)) at_149 rfl (by decide) ?_
      refine own_newAI C (pc' := 152) (hw _ (List.mem_of_getElem? (i := 5) rfl)) Z229 at_150 rfl (nn := 2) (cap := 2) (by decide) (by decide) (by decide) (by decide) (by decide) (fun h232 a233 ea234 ga235 Z236 E237 V238 => ?_)
      have ne239 : a6 ≠ a233 := by rw [ea234]; exact Nat.ne_of_lt (own_A.lt F230)
      have ne240 : a163 ≠ a233 := by rw [ea234]; exact Nat.ne_of_lt (Exa.lt F222)
      have ne241 : a178 ≠ a233 := by rw [ea234]; exact Nat.ne_of_lt (own_A.lt F226)
      have ne242 : a179 ≠ a233 := by rw [ea234]; exact Nat.ne_of_lt (own_A.lt F227)
      have F243 : own_AI Z h232 a6 3 (own_upd (own_upd (own_upd (fun _ => (0 : Int32)) 0 x0) 1 x1) 2 x2) := own_A.ext F230 E237
      have F244 : Exa Z h232 a163 "com/example/murmuration/murmuration/search/IndexedSet" := Exa.ext E237 F222
      have F245 : Fld Z h232 a163 "com/example/murmuration/murmuration/search/IndexedSet" "members" "[I" (.ref a178) := Fld.ext E237 F223
      have F246 : Fld Z h232 a163 "com/example/murmuration/murmuration/search/IndexedSet" "positions" "[I" (.ref a179) := Fld.ext E237 F224
      have F247 : Fld Z h232 a163 "com/example/murmuration/murmuration/search/IndexedSet" "size" "I" (.int (0 : Int32)) := Fld.ext E237 F225
      have F248 : own_AI Z h232 a178 3 (own_upd (own_upd (fun _ => (0 : Int32)) 0 x0) 0 x0) := own_A.ext F226 E237
      have F249 : own_AI Z h232 a179 3 (own_upd (own_upd (own_upd (fun _ => (-1 : Int32)) A0 (0 : Int32)) A0 (0 : Int32)) A0 (-1 : Int32)) := own_A.ext F227 E237
      refine own_astore C (pc' := 154) (Ls' := #[.val (.int p0), .val (.int p1), .val (.int p2), .val (.int p3), .val (.int x150), .val (.int z5), .val (.ref a6), .val (.int (1 : Int32)), .val (.int (0 : Int32)), .val (.ref a163), .val (.ref a233), .unset, .unset, .unset, .unset]) at_152 rfl rfl rfl ?_
      refine own_aload C (pc' := 156) at_154 rfl rfl rfl ?_
      refine own_iconst C (pc' := 157) (v := (0 : Int32)) at_156 rfl (by decide) ?_
      refine own_iload C (pc' := 159) at_157 rfl rfl ?_
      refine own_i0_ne C (pc1 := 172) (pc2 := 162) at_159 rfl rfl (fun c250 => absurd c250 (by decide)) (fun c250 => ?_)
      refine own_aload C (pc' := 164) at_162 rfl rfl rfl ?_
      refine own_iload C (pc' := 166) at_164 rfl rfl ?_
      refine own_iconst C (pc' := 167) (v := (1 : Int32)) at_166 rfl (by decide) ?_
      refine own_isubV C (pc' := 168) (v := (0 : Int32)) at_167 rfl (by decide) ?_
      refine own_ldIV C (pc' := 169) F243 (i := 0) (v := x0) (by decide) (by decide) rfl at_168 rfl ?_
      refine own_goto C (pc' := 176) at_169 rfl ?_
      refine own_stI C (pc' := 177) V238 (i := 0) (by decide) (by decide) ga235 at_176 rfl (fun h251 W252 V253 => ?_)
      have Z254 : n0 ≤ h251.size := Nat.le_trans Z236 (Nat.le_of_eq (Wr.size W252).symm)
      have F255 : own_AI Z h251 a6 3 (own_upd (own_upd (own_upd (fun _ => (0 : Int32)) 0 x0) 1 x1) 2 x2) := own_A.other F243 W252 ne239
      have F256 : Exa Z h251 a163 "com/example/murmuration/murmuration/search/IndexedSet" := Exa.wr W252 F244
      have F257 : Fld Z h251 a163 "com/example/murmuration/murmuration/search/IndexedSet" "members" "[I" (.ref a178) := Fld.other W252 F245 (Or.inl ne240)
      have F258 : Fld Z h251 a163 "com/example/murmuration/murmuration/search/IndexedSet" "positions" "[I" (.ref a179) := Fld.other W252 F246 (Or.inl ne240)
      have F259 : Fld Z h251 a163 "com/example/murmuration/murmuration/search/IndexedSet" "size" "I" (.int (0 : Int32)) := Fld.other W252 F247 (Or.inl ne240)
      have F260 : own_AI Z h251 a178 3 (own_upd (own_upd (fun _ => (0 : Int32)) 0 x0) 0 x0) := own_A.other F248 W252 ne241
      have F261 : own_AI Z h251 a179 3 (own_upd (own_upd (own_upd (fun _ => (-1 : Int32)) A0 (0 : Int32)) A0 (0 : Int32)) A0 (-1 : Int32)) := own_A.other F249 W252 ne242
      have F262 : own_AI Z h251 a233 2 (own_upd (fun _ => (0 : Int32)) 0 x0) := V253
      refine own_aload C (pc' := 179) at_177 rfl rfl rfl ?_
      refine own_iconst C (pc' := 180) (v := (1 : Int32)) at_179 rfl (by decide) ?_
      refine own_iload C (pc' := 182) at_180 rfl rfl ?_
      refine own_iconst C (pc' := 183) (v := (1 : Int32)) at_182 rfl (by decide) ?_
      refine own_ii_ne C (pc1 := 196) (pc2 := 186) at_183 rfl rfl (fun c263 => ?_) (fun c263 => absurd c263 (by decide))
      refine own_aload C (pc' := 198) at_196 rfl rfl rfl ?_
      refine own_iconst C (pc' := 199) (v := (1 : Int32)) at_198 rfl (by decide) ?_
      refine own_ldIV C (pc' := 200) F255 (i := 1) (v := x1) (by decide) (by decide) rfl at_199 rfl ?_
      refine own_stI C (pc' := 201) F262 (i := 1) (by decide) (by decide) ga235 at_200 rfl (fun h264 W265 V266 => ?_)
      have Z267 : n0 ≤ h264.size := Nat.le_trans Z254 (Nat.le_of_eq (Wr.size W265).symm)
      have F268 : own_AI Z h264 a6 3 (own_upd (own_upd (own_upd (fun _ => (0 : Int32)) 0 x0) 1 x1) 2 x2) := own_A.other F255 W265 ne239
      have F269 : Exa Z h264 a163 "com/example/murmuration/murmuration/search/IndexedSet" := Exa.wr W265 F256
      have F270 : Fld Z h264 a163 "com/example/murmuration/murmuration/search/IndexedSet" "members" "[I" (.ref a178) := Fld.other W265 F257 (Or.inl ne240)
      have F271 : Fld Z h264 a163 "com/example/murmuration/murmuration/search/IndexedSet" "positions" "[I" (.ref a179) := Fld.other W265 F258 (Or.inl ne240)
      have F272 : Fld Z h264 a163 "com/example/murmuration/murmuration/search/IndexedSet" "size" "I" (.int (0 : Int32)) := Fld.other W265 F259 (Or.inl ne240)
      have F273 : own_AI Z h264 a178 3 (own_upd (own_upd (fun _ => (0 : Int32)) 0 x0) 0 x0) := own_A.other F260 W265 ne241
      have F274 : own_AI Z h264 a179 3 (own_upd (own_upd (own_upd (fun _ => (-1 : Int32)) A0 (0 : Int32)) A0 (0 : Int32)) A0 (-1 : Int32)) := own_A.other F261 W265 ne242
      have F275 : own_AI Z h264 a233 2 (own_upd (own_upd (fun _ => (0 : Int32)) 0 x0) 1 x1) := V266
      refine own_aload C (pc' := 203) at_201 rfl rfl rfl ?_
      refine own_aload C (pc' := 205) at_203 rfl rfl rfl ?_
      refine own_iload C (pc' := 207) at_205 rfl rfl ?_
      refine own_ldIV C (pc' := 208) F268 (i := 0) (v := x0) (by decide) (by decide) rfl at_207 rfl ?_
      refine own_callV C (pc' := 211) (y := (⟨"com/example/murmuration/murmuration/search/IndexedSet", "contains", "(I)Z"⟩ : MethodName)) (a := a163) (argsL := [(.int x0)]) (rest := []) 0 F269 (hw _ (List.mem_of_getElem? (i := 35) rfl)) (hw _ (List.mem_of_getElem? (i := 36) rfl)) (hw _ (List.mem_of_getElem? (i := 38) rfl)) (hw _ (List.mem_of_getElem? (i := 37) rfl)) (hw _ (List.mem_of_getElem? (i := 39) rfl)) (hw _ (List.mem_of_getElem? (i := 8) rfl)) (by decide) (own_m7 hw a163 a179 3 (own_upd (own_upd (own_upd (fun _ => (-1 : Int32)) A0 (0 : Int32)) A0 (0 : Int32)) A0 (-1 : Int32)) x0 A0 (0 : Int32) Z267 F271 F274 hA0 (by omega) (by simp [own_upd, d01, d02, d12, Ne.symm d01, Ne.symm d02, Ne.symm d12])) (by decide) (by decide) (lenOf own_pd3 rfl) rfl (Nat.le_of_eq rfl) at_208 rfl rfl (by decide) (by decide) (fun v276 h277 hq278 => ?_)
      obtain ⟨rfl, rfl⟩ := hq278
      show own_Run p_ l e_ _ s_ m_ _ b_ mt_ c_ n0 _ h264 _ _ (mkF m_ 211 #[.val (.int p0), .val (.int p1), .val (.int p2), .val (.int p3), .val (.int x150), .val (.int z5), .val (.ref a6), .val (.int (1 : Int32)), .val (.int (0 : Int32)), .val (.ref a163), .val (.ref a233), .unset, .unset, .unset, .unset] [(.int (0 : Int32))])
      refine own_i0_ne C (pc1 := 218) (pc2 := 214) at_211 rfl rfl (fun c279 => absurd c279 (by decide)) (fun c279 => ?_)
      refine own_iconst C (pc' := 215) (v := (1 : Int32)) at_214 rfl (by decide) ?_
      refine own_goto C (pc' := 219) at_215 rfl ?_
      refine own_istore C (pc' := 221) (Ls' := #[.val (.int p0), .val (.int p1), .val (.int p2), .val (.int p3), .val (.int x150), .val (.int z5), .val (.ref a6), .val (.int (1 : Int32)), .val (.int (0 : Int32)), .val (.ref a163), .val (.ref a233), .val (.int (1 : Int32)), .unset, .unset, .unset]) at_219 rfl rfl ?_
      refine own_iload C (pc' := 223) at_221 rfl rfl ?_
      refine own_iconst C (pc' := 224) (v := (2 : Int32)) at_223 rfl (by decide) ?_
      refine own_ii_lt C (pc1 := 252) (pc2 := 227) at_224 rfl rfl (fun c280 => ?_) (fun c280 => absurd c280 (by decide))
      refine own_iload C (pc' := 254) at_252 rfl rfl ?_
      refine own_iconst C (pc' := 255) (v := (3 : Int32)) at_254 rfl (by decide) ?_
      refine own_ii_lt C (pc1 := 283) (pc2 := 258) at_255 rfl rfl (fun c281 => ?_) (fun c281 => absurd c281 (by decide))
      refine own_iload C (pc' := 285) at_283 rfl rfl ?_
      refine own_iconst C (pc' := 286) (v := (1 : Int32)) at_285 rfl (by decide) ?_
      refine own_isubV C (pc' := 287) (v := (0 : Int32)) at_286 rfl (by decide) ?_
      refine own_istore C (pc' := 289) (Ls' := #[.val (.int p0), .val (.int p1), .val (.int p2), .val (.int p3), .val (.int x150), .val (.int z5), .val (.ref a6), .val (.int (1 : Int32)), .val (.int (0 : Int32)), .val (.ref a163), .val (.ref a233), .val (.int (1 : Int32)), .val (.int (0 : Int32)), .unset, .unset]) at_287 rfl rfl ?_
      refine own_iload C (pc' := 291) at_289 rfl rfl ?_
      refine own_iconst C (pc' := 292) (v := (2 : Int32)) at_291 rfl (by decide) ?_
      refine own_ii_lt C (pc1 := 371) (pc2 := 295) at_292 rfl rfl (fun c282 => ?_) (fun c282 => absurd c282 (by decide))
      refine own_iload C (pc' := 373) at_371 rfl rfl ?_
      refine own_i0_eq C (pc1 := 390) (pc2 := 376) at_373 rfl rfl (fun c283 => absurd c283 (by decide)) (fun c283 => ?_)
      refine own_aload C (pc' := 378) at_376 rfl rfl rfl ?_
      refine own_callV C (pc' := 381) (y := (⟨"com/example/murmuration/murmuration/search/IndexedSet", "size", "()I"⟩ : MethodName)) (a := a163) (argsL := []) (rest := []) 0 F269 (hw _ (List.mem_of_getElem? (i := 40) rfl)) (hw _ (List.mem_of_getElem? (i := 41) rfl)) (hw _ (List.mem_of_getElem? (i := 43) rfl)) (hw _ (List.mem_of_getElem? (i := 42) rfl)) (hw _ (List.mem_of_getElem? (i := 44) rfl)) (hw _ (List.mem_of_getElem? (i := 8) rfl)) (by decide) (own_m8 hw a163 (0 : Int32) Z267 F272 ) (by decide) (by decide) (lenOf own_pd4 rfl) rfl (Nat.le_of_eq rfl) at_378 rfl rfl (by decide) (by decide) (fun v284 h285 hq286 => ?_)
      obtain ⟨rfl, rfl⟩ := hq286
      show own_Run p_ l e_ _ s_ m_ _ b_ mt_ c_ n0 _ h264 _ _ (mkF m_ 381 #[.val (.int p0), .val (.int p1), .val (.int p2), .val (.int p3), .val (.int x150), .val (.int z5), .val (.ref a6), .val (.int (1 : Int32)), .val (.int (0 : Int32)), .val (.ref a163), .val (.ref a233), .val (.int (1 : Int32)), .val (.int (0 : Int32)), .unset, .unset] [(.int (0 : Int32))])
      refine own_iload C (pc' := 383) at_381 rfl rfl ?_
      refine own_ii_ne C (pc1 := 390) (pc2 := 386) at_383 rfl rfl (fun c287 => absurd c287 (by decide)) (fun c287 => ?_)
      refine own_iconst C (pc' := 387) (v := (1 : Int32)) at_386 rfl (by decide) ?_
      refine own_goto C (pc' := 391) at_387 rfl ?_
      refine own_istore C (pc' := 393) (Ls' := #[.val (.int p0), .val (.int p1), .val (.int p2), .val (.int p3), .val (.int x150), .val (.int z5), .val (.ref a6), .val (.int (1 : Int32)), .val (.int (0 : Int32)), .val (.ref a163), .val (.ref a233), .val (.int (1 : Int32)), .val (.int (0 : Int32)), .unset, .unset]) at_391 rfl rfl ?_
      refine own_iload C (pc' := 395) at_393 rfl rfl ?_
      exact own_ret C (t := .boolean) rfl rfl (Or.inl ⟨rfl, by simp, _, rfl⟩) at_395 (by decide) (by decide) (rfl)
    · skip
      rw [e157]
      show own_Run p_ l e_ _ s_ m_ _ b_ mt_ c_ n0 _ hh _ _ (mkF m_ 82 #[.val (.int p0), .val (.int p1), .val (.int p2), .val (.int p3), .val (.int x150), .val (.int z5), .val (.ref a6), .val (.int (2 : Int32)), .unset, .unset, .unset, .unset, .unset, .unset, .unset] [])
      refine own_iloadN C (pc' := 83) at_82 rfl rfl ?_
      refine own_iload C (pc' := 85) at_83 rfl rfl ?_
      refine own_callS C (pc' := 88) (y := (⟨"com/example/murmuration/murmuration/search/IndexedSetRemovePinLaw", "mod", "(II)I"⟩ : MethodName)) (argsL := [(.int p2), (.int (2 : Int32))]) (rest := []) 0 (hw _ (List.mem_of_getElem? (i := 0) rfl)) (hw _ (List.mem_of_getElem? (i := 1) rfl)) (hw _ (List.mem_of_getElem? (i := 2) rfl)) (hw _ (List.mem_of_getElem? (i := 3) rfl)) (by decide) (own_m1 hw p2 (2 : Int32)   (by decide)) (by decide) (by decide) (lenOf own_pd1 rfl) rfl (Nat.le_of_eq rfl) at_85 rfl rfl (by decide) (by decide) (fun v288 h289 hq290 => ?_)
      obtain ⟨rfl, rfl⟩ := hq290
      show own_Run p_ l e_ _ s_ m_ _ b_ mt_ c_ n0 _ hh _ _ (mkF m_ 88 #[.val (.int p0), .val (.int p1), .val (.int p2), .val (.int p3), .val (.int x150), .val (.int z5), .val (.ref a6), .val (.int (2 : Int32)), .unset, .unset, .unset, .unset, .unset, .unset, .unset] [(.int ((p2 &&& (2147483647 : Int32)) % (2 : Int32)))])
      refine own_istore C (pc' := 90) (Ls' := #[.val (.int p0), .val (.int p1), .val (.int p2), .val (.int p3), .val (.int x150), .val (.int z5), .val (.ref a6), .val (.int (2 : Int32)), .val (.int ((p2 &&& (2147483647 : Int32)) % (2 : Int32))), .unset, .unset, .unset, .unset, .unset, .unset]) at_88 rfl rfl ?_
      rcases own_md2 p2 with e291 | e291
      · skip
        rw [e291]
        show own_Run p_ l e_ _ s_ m_ _ b_ mt_ c_ n0 _ hh _ _ (mkF m_ 90 #[.val (.int p0), .val (.int p1), .val (.int p2), .val (.int p3), .val (.int x150), .val (.int z5), .val (.ref a6), .val (.int (2 : Int32)), .val (.int (0 : Int32)), .unset, .unset, .unset, .unset, .unset, .unset] [])
        refine own_new C (pc' := 93) (hw _ (List.mem_of_getElem? (i := 6) rfl)) (hw _ (List.mem_of_getElem? (i := 7) rfl)) (hw _ (List.mem_of_getElem? (i := 8) rfl)) Z1 at_90 rfl (by decide) (by decide) (fun h292 a293 ea294 ga295 Z296 E297 A298 D299 => ?_)
        have ne300 : a6 ≠ a293 := by rw [ea294]; exact Nat.ne_of_lt (own_A.lt V6)
        have F301 : own_AI Z h292 a6 3 (own_upd (own_upd (own_upd (fun _ => (0 : Int32)) 0 x0) 1 x1) 2 x2) := own_A.ext V6 E297
        have F302 : Fld Z h292 a293 "com/example/murmuration/murmuration/search/IndexedSet" "members" "[I" .null := D299 (Or.inr (hw _ (List.mem_of_getElem? (i := 16) rfl))) (ty := (.array .int)) (by decide)
        have F303 : Fld Z h292 a293 "com/example/murmuration/murmuration/search/IndexedSet" "positions" "[I" .null := D299 (Or.inr (hw _ (List.mem_of_getElem? (i := 18) rfl))) (ty := (.array .int)) (by decide)
        have F304 : Fld Z h292 a293 "com/example/murmuration/murmuration/search/IndexedSet" "size" "I" (.int (0 : Int32)) := D299 (Or.inl (hw _ (List.mem_of_getElem? (i := 29) rfl))) (ty := .int) (by decide)
        refine own_dup C (pc' := 94) at_93 rfl rfl ?_
        refine own_iconst C (pc' := 95) (v := (3 : Int32)) at_94 rfl (by decide) ?_
        refine own_callN C (pc' := 98) (y := (⟨"com/example/murmuration/murmuration/search/IndexedSet", "<init>", "(I)V"⟩ : MethodName)) (a := a293) (argsL := [(.int (3 : Int32))]) (rest := [(.ref a293)]) 1 rfl (hw _ (List.mem_of_getElem? (i := 9) rfl)) (hw _ (List.mem_of_getElem? (i := 10) rfl)) (hw _ (List.mem_of_getElem? (i := 11) rfl)) (hw _ (List.mem_of_getElem? (i := 8) rfl)) (by decide) (own_m2 hw a293 (3 : Int32) 3 Z296 A298 ga295 F302 F303 F304 (by decide) (by omega)) (by decide) (by decide) (lenOf own_pd2 rfl) rfl (Nat.le_of_eq rfl) at_95 rfl rfl (by decide) (by decide) (fun v305 h306 hq307 => ?_)
        obtain ⟨a308, a309, rfl, K310, ⟨ga311, gk312⟩, ⟨ga313, gk314⟩, F315, F316, F317, F318, F319, F320, F321, F322, F323⟩ := hq307
        have ne324 : a6 ≠ a308 := Nat.ne_of_lt (Nat.lt_of_lt_of_le (own_A.lt F301) gk312)
        have ne325 : a293 ≠ a308 := Nat.ne_of_lt (Nat.lt_of_lt_of_le (Exa.lt A298) gk312)
        have ne326 : a6 ≠ a309 := Nat.ne_of_lt (Nat.lt_of_lt_of_le (own_A.lt F301) gk314)
        have ne327 : a293 ≠ a309 := Nat.ne_of_lt (Nat.lt_of_lt_of_le (Exa.lt A298) gk314)
        have Z329 : n0 ≤ h306.size := Nat.le_trans Z296 K310.1
        have F330 : own_AI Z h306 a6 3 (own_upd (own_upd (own_upd (fun _ => (0 : Int32)) 0 x0) 1 x1) 2 x2) := own_A.keep F301 K310 (ninS ne300 nin0)
        have F331 : Exa Z h306 a293 "com/example/murmuration/murmuration/search/IndexedSet" := Exa.keep A298 K310
        show own_Run p_ l e_ _ s_ m_ _ b_ mt_ c_ n0 _ h306 _ _ (mkF m_ 98 #[.val (.int p0), .val (.int p1), .val (.int p2), .val (.int p3), .val (.int x150), .val (.int z5), .val (.ref a6), .val (.int (2 : Int32)), .val (.int (0 : Int32)), .unset, .unset, .unset, .unset, .unset, .unset] [(.ref a293)])
        refine own_astore C (pc' := 100) (Ls' := #[.val (.int p0), .val (.int p1), .val (.int p2), .val (.int p3), .val (.int x150), .val (.int z5), .val (.ref a6), .val (.int (2 : Int32)), .val (.int (0 : Int32)), .val (.ref a293), .unset, .unset, .unset, .unset, .unset]) at_98 rfl rfl rfl ?_
        refine own_aload C (pc' := 102) at_100 rfl rfl rfl ?_
        refine own_aload C (pc' := 104) at_102 rfl rfl rfl ?_
        refine own_iconst C (pc' := 105) (v := (0 : Int32)) at_104 rfl (by decide) ?_
        refine own_ldIV C (pc' := 106) F330 (i := 0) (v := x0) (by decide) (by decide) rfl at_105 rfl ?_
        refine own_callV C (pc' := 109) (y := (⟨"com/example/murmuration/murmuration/search/IndexedSet", "add", "(I)V"⟩ : MethodName)) (a := a293) (argsL := [(.int x0)]) (rest := []) 0 F315 (hw _ (List.mem_of_getElem? (i := 23) rfl)) (hw _ (List.mem_of_getElem? (i := 24) rfl)) (hw _ (List.mem_of_getElem? (i := 26) rfl)) (hw _ (List.mem_of_getElem? (i := 25) rfl)) (hw _ (List.mem_of_getElem? (i := 27) rfl)) (hw _ (List.mem_of_getElem? (i := 8) rfl)) (by decide) (own_m5 hw a293 a308 a309 3 (0 : Int32) (fun _ => (0 : Int32)) (fun _ => (-1 : Int32)) x0 A0 0 (1 : Int32) Z329 F315 ga295 ga311 ga313 ne325 ne327 F323 F316 F317 F318 F319 F320 hA0 (by omega) (by decide) (by decide) (by decide)) (by decide) (by decide) (lenOf own_pd2 rfl) rfl (Nat.le_of_eq rfl) at_106 rfl rfl (by decide) (by decide) (fun v332 h333 hq334 => ?_)
        obtain ⟨rfl, K335, F336, F337, F338, F339, F340, F341⟩ := hq334
        have Z343 : n0 ≤ h333.size := Nat.le_trans Z329 K335.1
        have F344 : own_AI Z h333 a6 3 (own_upd (own_upd (own_upd (fun _ => (0 : Int32)) 0 x0) 1 x1) 2 x2) := own_A.keep F330 K335 (ninS ne300 (ninS ne324 (ninS ne326 nin0)))
        have F345 : Exa Z h333 a293 "com/example/murmuration/murmuration/search/IndexedSet" := Exa.keep F315 K335
        show own_Run p_ l e_ _ s_ m_ _ b_ mt_ c_ n0 _ h333 _ _ (mkF m_ 109 #[.val (.int p0), .val (.int p1), .val (.int p2), .val (.int p3), .val (.int x150), .val (.int z5), .val (.ref a6), .val (.int (2 : Int32)), .val (.int (0 : Int32)), .val (.ref a293), .unset, .unset, .unset, .unset, .unset] [])
        refine own_iload C (pc' := 111) at_109 rfl rfl ?_
        refine own_iconst C (pc' := 112) (v := (2 : Int32)) at_111 rfl (by decide) ?_
        refine own_ii_lt C (pc1 := 124) (pc2 := 115) at_112 rfl rfl (fun c346 => absurd c346 (by decide)) (fun c346 => ?_)
        refine own_aload C (pc' := 117) at_115 rfl rfl rfl ?_
        refine own_aload C (pc' := 119) at_117 rfl rfl rfl ?_
        refine own_iconst C (pc' := 120) (v := (1 : Int32)) at_119 rfl (by decide) ?_
        refine own_ldIV C (pc' := 121) F344 (i := 1) (v := x1) (by decide) (by decide) rfl at_120 rfl ?_
        refine own_callV C (pc' := 124) (y := (⟨"com/example/murmuration/murmuration/search/IndexedSet", "add", "(I)V"⟩ : MethodName)) (a := a293) (argsL := [(.int x1)]) (rest := []) 0 F336 (hw _ (List.mem_of_getElem? (i := 23) rfl)) (hw _ (List.mem_of_getElem? (i := 24) rfl)) (hw _ (List.mem_of_getElem? (i := 26) rfl)) (hw _ (List.mem_of_getElem? (i := 25) rfl)) (hw _ (List.mem_of_getElem? (i := 27) rfl)) (hw _ (List.mem_of_getElem? (i := 8) rfl)) (by decide) (own_m5 hw a293 a308 a309 3 (1 : Int32) (own_upd (fun _ => (0 : Int32)) 0 x0) (own_upd (fun _ => (-1 : Int32)) A0 (0 : Int32)) x1 A1 1 (2 : Int32) Z343 F336 ga295 ga311 ga313 ne325 ne327 F323 F337 F338 F339 F340 F341 hA1 (by omega) (by decide) (by decide) (by decide)) (by decide) (by decide) (lenOf own_pd2 rfl) rfl (Nat.le_of_eq rfl) at_121 rfl rfl (by decide) (by decide) (fun v347 h348 hq349 => ?_)
        obtain ⟨rfl, K350, F351, F352, F353, F354, F355, F356⟩ := hq349
        have Z358 : n0 ≤ h348.size := Nat.le_trans Z343 K350.1
        have F359 : own_AI Z h348 a6 3 (own_upd (own_upd (own_upd (fun _ => (0 : Int32)) 0 x0) 1 x1) 2 x2) := own_A.keep F344 K350 (ninS ne300 (ninS ne324 (ninS ne326 nin0)))
        have F360 : Exa Z h348 a293 "com/example/murmuration/murmuration/search/IndexedSet" := Exa.keep F336 K350
        show own_Run p_ l e_ _ s_ m_ _ b_ mt_ c_ n0 _ h348 _ _ (mkF m_ 124 #[.val (.int p0), .val (.int p1), .val (.int p2), .val (.int p3), .val (.int x150), .val (.int z5), .val (.ref a6), .val (.int (2 : Int32)), .val (.int (0 : Int32)), .val (.ref a293), .unset, .unset, .unset, .unset, .unset] [])
        refine own_iload C (pc' := 126) at_124 rfl rfl ?_
        refine own_iconst C (pc' := 127) (v := (3 : Int32)) at_126 rfl (by decide) ?_
        refine own_ii_lt C (pc1 := 139) (pc2 := 130) at_127 rfl rfl (fun c361 => ?_) (fun c361 => absurd c361 (by decide))
        refine own_aload C (pc' := 141) at_139 rfl rfl rfl ?_
        refine own_aload C (pc' := 143) at_141 rfl rfl rfl ?_
        refine own_iload C (pc' := 145) at_143 rfl rfl ?_
        refine own_ldIV C (pc' := 146) F359 (i := 0) (v := x0) (by decide) (by decide) rfl at_145 rfl ?_
        refine own_callV C (pc' := 149) (y := (⟨"com/example/murmuration/murmuration/search/IndexedSet", "remove", "(I)V"⟩ : MethodName)) (a := a293) (argsL := [(.int x0)]) (rest := []) 0 F351 (hw _ (List.mem_of_getElem? (i := 30) rfl)) (hw _ (List.mem_of_getElem? (i := 31) rfl)) (hw _ (List.mem_of_getElem? (i := 33) rfl)) (hw _ (List.mem_of_getElem? (i := 32) rfl)) (hw _ (List.mem_of_getElem? (i := 34) rfl)) (hw _ (List.mem_of_getElem? (i := 8) rfl)) (by decide) (own_m6 hw a293 a308 a309 3 (2 : Int32) (own_upd (own_upd (fun _ => (0 : Int32)) 0 x0) 1 x1) (own_upd (own_upd (fun _ => (-1 : Int32)) A0 (0 : Int32)) A1 (1 : Int32)) x0 A0 1 (0 : Int32) x1 0 A1 (1 : Int32) Z358 F351 ga295 ga311 ga313 ne325 ne327 F323 F352 F353 F354 F355 F356 hA0 (by omega) (by simp [own_upd, d01, d02, d12, Ne.symm d01, Ne.symm d02, Ne.symm d12]) (by decide) (by decide) (by decide) (by decide) rfl hA1 (by omega) (by decide)) (by decide) (by decide) (lenOf own_pd2 rfl) rfl (Nat.le_of_eq rfl) at_146 rfl rfl (by decide) (by decide) (fun v362 h363 hq364 => ?_)
        obtain ⟨rfl, K365, F366, F367, F368, F369, F370, F371⟩ := hq364
        have Z373 : n0 ≤ h363.size := Nat.le_trans Z358 K365.1
        have F374 : own_AI Z h363 a6 3 (own_upd (own_upd (own_upd (fun _ => (0 : Int32)) 0 x0) 1 x1) 2 x2) := own_A.keep F359 K365 (ninS ne300 (ninS ne324 (ninS ne326 nin0)))
        have F375 : Exa Z h363 a293 "com/example/murmuration/murmuration/search/IndexedSet" := Exa.keep F351 K365
        show own_Run p_ l e_ _ s_ m_ _ b_ mt_ c_ n0 _ h363 _ _ (mkF m_ 149 #[.val (.int p0), .val (.int p1), .val (.int p2), .val (.int p3), .val (.int x150), .val (.int z5), .val (.ref a6), .val (.int (2 : Int32)), .val (.int (0 : Int32)), .val (.ref a293), .unset, .unset, .unset, .unset, .unset] [])
        refine own_iconst C (pc' := 150) (v := (2 : Int32)) at_149 rfl (by decide) ?_
        refine own_newAI C (pc' := 152) (hw _ (List.mem_of_getElem? (i := 5) rfl)) Z373 at_150 rfl (nn := 2) (cap := 2) (by decide) (by decide) (by decide) (by decide) (by decide) (fun h376 a377 ea378 ga379 Z380 E381 V382 => ?_)
        have ne383 : a6 ≠ a377 := by rw [ea378]; exact Nat.ne_of_lt (own_A.lt F374)
        have ne384 : a293 ≠ a377 := by rw [ea378]; exact Nat.ne_of_lt (Exa.lt F366)
        have ne385 : a308 ≠ a377 := by rw [ea378]; exact Nat.ne_of_lt (own_A.lt F370)
        have ne386 : a309 ≠ a377 := by rw [ea378]; exact Nat.ne_of_lt (own_A.lt F371)
        have F387 : own_AI Z h376 a6 3 (own_upd (own_upd (own_upd (fun _ => (0 : Int32)) 0 x0) 1 x1) 2 x2) := own_A.ext F374 E381
        have F388 : Exa Z h376 a293 "com/example/murmuration/murmuration/search/IndexedSet" := Exa.ext E381 F366
        have F389 : Fld Z h376 a293 "com/example/murmuration/murmuration/search/IndexedSet" "members" "[I" (.ref a308) := Fld.ext E381 F367
        have F390 : Fld Z h376 a293 "com/example/murmuration/murmuration/search/IndexedSet" "positions" "[I" (.ref a309) := Fld.ext E381 F368
        have F391 : Fld Z h376 a293 "com/example/murmuration/murmuration/search/IndexedSet" "size" "I" (.int (1 : Int32)) := Fld.ext E381 F369
        have F392 : own_AI Z h376 a308 3 (own_upd (own_upd (own_upd (fun _ => (0 : Int32)) 0 x0) 1 x1) 0 x1) := own_A.ext F370 E381
        have F393 : own_AI Z h376 a309 3 (own_upd (own_upd (own_upd (own_upd (fun _ => (-1 : Int32)) A0 (0 : Int32)) A1 (1 : Int32)) A1 (0 : Int32)) A0 (-1 : Int32)) := own_A.ext F371 E381
        refine own_astore C (pc' := 154) (Ls' := #[.val (.int p0), .val (.int p1), .val (.int p2), .val (.int p3), .val (.int x150), .val (.int z5), .val (.ref a6), .val (.int (2 : Int32)), .val (.int (0 : Int32)), .val (.ref a293), .val (.ref a377), .unset, .unset, .unset, .unset]) at_152 rfl rfl rfl ?_
        refine own_aload C (pc' := 156) at_154 rfl rfl rfl ?_
        refine own_iconst C (pc' := 157) (v := (0 : Int32)) at_156 rfl (by decide) ?_
        refine own_iload C (pc' := 159) at_157 rfl rfl ?_
        refine own_i0_ne C (pc1 := 172) (pc2 := 162) at_159 rfl rfl (fun c394 => absurd c394 (by decide)) (fun c394 => ?_)
        refine own_aload C (pc' := 164) at_162 rfl rfl rfl ?_
        refine own_iload C (pc' := 166) at_164 rfl rfl ?_
        refine own_iconst C (pc' := 167) (v := (1 : Int32)) at_166 rfl (by decide) ?_
        refine own_isubV C (pc' := 168) (v := (1 : Int32)) at_167 rfl (by decide) ?_
        refine own_ldIV C (pc' := 169) F387 (i := 1) (v := x1) (by decide) (by decide) rfl at_168 rfl ?_
        refine own_goto C (pc' := 176) at_169 rfl ?_
        refine own_stI C (pc' := 177) V382 (i := 0) (by decide) (by decide) ga379 at_176 rfl (fun h395 W396 V397 => ?_)
        have Z398 : n0 ≤ h395.size := Nat.le_trans Z380 (Nat.le_of_eq (Wr.size W396).symm)
        have F399 : own_AI Z h395 a6 3 (own_upd (own_upd (own_upd (fun _ => (0 : Int32)) 0 x0) 1 x1) 2 x2) := own_A.other F387 W396 ne383
        have F400 : Exa Z h395 a293 "com/example/murmuration/murmuration/search/IndexedSet" := Exa.wr W396 F388
        have F401 : Fld Z h395 a293 "com/example/murmuration/murmuration/search/IndexedSet" "members" "[I" (.ref a308) := Fld.other W396 F389 (Or.inl ne384)
        have F402 : Fld Z h395 a293 "com/example/murmuration/murmuration/search/IndexedSet" "positions" "[I" (.ref a309) := Fld.other W396 F390 (Or.inl ne384)
        have F403 : Fld Z h395 a293 "com/example/murmuration/murmuration/search/IndexedSet" "size" "I" (.int (1 : Int32)) := Fld.other W396 F391 (Or.inl ne384)
        have F404 : own_AI Z h395 a308 3 (own_upd (own_upd (own_upd (fun _ => (0 : Int32)) 0 x0) 1 x1) 0 x1) := own_A.other F392 W396 ne385
        have F405 : own_AI Z h395 a309 3 (own_upd (own_upd (own_upd (own_upd (fun _ => (-1 : Int32)) A0 (0 : Int32)) A1 (1 : Int32)) A1 (0 : Int32)) A0 (-1 : Int32)) := own_A.other F393 W396 ne386
        have F406 : own_AI Z h395 a377 2 (own_upd (fun _ => (0 : Int32)) 0 x1) := V397
        refine own_aload C (pc' := 179) at_177 rfl rfl rfl ?_
        refine own_iconst C (pc' := 180) (v := (1 : Int32)) at_179 rfl (by decide) ?_
        refine own_iload C (pc' := 182) at_180 rfl rfl ?_
        refine own_iconst C (pc' := 183) (v := (1 : Int32)) at_182 rfl (by decide) ?_
        refine own_ii_ne C (pc1 := 196) (pc2 := 186) at_183 rfl rfl (fun c407 => ?_) (fun c407 => absurd c407 (by decide))
        refine own_aload C (pc' := 198) at_196 rfl rfl rfl ?_
        refine own_iconst C (pc' := 199) (v := (1 : Int32)) at_198 rfl (by decide) ?_
        refine own_ldIV C (pc' := 200) F399 (i := 1) (v := x1) (by decide) (by decide) rfl at_199 rfl ?_
        refine own_stI C (pc' := 201) F406 (i := 1) (by decide) (by decide) ga379 at_200 rfl (fun h408 W409 V410 => ?_)
        have Z411 : n0 ≤ h408.size := Nat.le_trans Z398 (Nat.le_of_eq (Wr.size W409).symm)
        have F412 : own_AI Z h408 a6 3 (own_upd (own_upd (own_upd (fun _ => (0 : Int32)) 0 x0) 1 x1) 2 x2) := own_A.other F399 W409 ne383
        have F413 : Exa Z h408 a293 "com/example/murmuration/murmuration/search/IndexedSet" := Exa.wr W409 F400
        have F414 : Fld Z h408 a293 "com/example/murmuration/murmuration/search/IndexedSet" "members" "[I" (.ref a308) := Fld.other W409 F401 (Or.inl ne384)
        have F415 : Fld Z h408 a293 "com/example/murmuration/murmuration/search/IndexedSet" "positions" "[I" (.ref a309) := Fld.other W409 F402 (Or.inl ne384)
        have F416 : Fld Z h408 a293 "com/example/murmuration/murmuration/search/IndexedSet" "size" "I" (.int (1 : Int32)) := Fld.other W409 F403 (Or.inl ne384)
        have F417 : own_AI Z h408 a308 3 (own_upd (own_upd (own_upd (fun _ => (0 : Int32)) 0 x0) 1 x1) 0 x1) := own_A.other F404 W409 ne385
        have F418 : own_AI Z h408 a309 3 (own_upd (own_upd (own_upd (own_upd (fun _ => (-1 : Int32)) A0 (0 : Int32)) A1 (1 : Int32)) A1 (0 : Int32)) A0 (-1 : Int32)) := own_A.other F405 W409 ne386
        have F419 : own_AI Z h408 a377 2 (own_upd (own_upd (fun _ => (0 : Int32)) 0 x1) 1 x1) := V410
        refine own_aload C (pc' := 203) at_201 rfl rfl rfl ?_
        refine own_aload C (pc' := 205) at_203 rfl rfl rfl ?_
        refine own_iload C (pc' := 207) at_205 rfl rfl ?_
        refine own_ldIV C (pc' := 208) F412 (i := 0) (v := x0) (by decide) (by decide) rfl at_207 rfl ?_
        refine own_callV C (pc' := 211) (y := (⟨"com/example/murmuration/murmuration/search/IndexedSet", "contains", "(I)Z"⟩ : MethodName)) (a := a293) (argsL := [(.int x0)]) (rest := []) 0 F413 (hw _ (List.mem_of_getElem? (i := 35) rfl)) (hw _ (List.mem_of_getElem? (i := 36) rfl)) (hw _ (List.mem_of_getElem? (i := 38) rfl)) (hw _ (List.mem_of_getElem? (i := 37) rfl)) (hw _ (List.mem_of_getElem? (i := 39) rfl)) (hw _ (List.mem_of_getElem? (i := 8) rfl)) (by decide) (own_m7 hw a293 a309 3 (own_upd (own_upd (own_upd (own_upd (fun _ => (-1 : Int32)) A0 (0 : Int32)) A1 (1 : Int32)) A1 (0 : Int32)) A0 (-1 : Int32)) x0 A0 (0 : Int32) Z411 F415 F418 hA0 (by omega) (by simp [own_upd, d01, d02, d12, Ne.symm d01, Ne.symm d02, Ne.symm d12])) (by decide) (by decide) (lenOf own_pd3 rfl) rfl (Nat.le_of_eq rfl) at_208 rfl rfl (by decide) (by decide) (fun v420 h421 hq422 => ?_)
        obtain ⟨rfl, rfl⟩ := hq422
        show own_Run p_ l e_ _ s_ m_ _ b_ mt_ c_ n0 _ h408 _ _ (mkF m_ 211 #[.val (.int p0), .val (.int p1), .val (.int p2), .val (.int p3), .val (.int x150), .val (.int z5), .val (.ref a6), .val (.int (2 : Int32)), .val (.int (0 : Int32)), .val (.ref a293), .val (.ref a377), .unset, .unset, .unset, .unset] [(.int (0 : Int32))])
        refine own_i0_ne C (pc1 := 218) (pc2 := 214) at_211 rfl rfl (fun c423 => absurd c423 (by decide)) (fun c423 => ?_)
        refine own_iconst C (pc' := 215) (v := (1 : Int32)) at_214 rfl (by decide) ?_
        refine own_goto C (pc' := 219) at_215 rfl ?_
        refine own_istore C (pc' := 221) (Ls' := #[.val (.int p0), .val (.int p1), .val (.int p2), .val (.int p3), .val (.int x150), .val (.int z5), .val (.ref a6), .val (.int (2 : Int32)), .val (.int (0 : Int32)), .val (.ref a293), .val (.ref a377), .val (.int (1 : Int32)), .unset, .unset, .unset]) at_219 rfl rfl ?_
        refine own_iload C (pc' := 223) at_221 rfl rfl ?_
        refine own_iconst C (pc' := 224) (v := (2 : Int32)) at_223 rfl (by decide) ?_
        refine own_ii_lt C (pc1 := 252) (pc2 := 227) at_224 rfl rfl (fun c424 => absurd c424 (by decide)) (fun c424 => ?_)
        refine own_iload C (pc' := 229) at_227 rfl rfl ?_
        refine own_i0_eq C (pc1 := 249) (pc2 := 232) at_229 rfl rfl (fun c425 => absurd c425 (by decide)) (fun c425 => ?_)
        refine own_aload C (pc' := 234) at_232 rfl rfl rfl ?_
        refine own_iconst C (pc' := 235) (v := (0 : Int32)) at_234 rfl (by decide) ?_
        refine own_callV C (pc' := 238) (y := (⟨"com/example/murmuration/murmuration/search/IndexedSet", "get", "(I)I"⟩ : MethodName)) (a := a293) (argsL := [(.int (0 : Int32))]) (rest := []) 0 F413 (hw _ (List.mem_of_getElem? (i := 45) rfl)) (hw _ (List.mem_of_getElem? (i := 46) rfl)) (hw _ (List.mem_of_getElem? (i := 48) rfl)) (hw _ (List.mem_of_getElem? (i := 47) rfl)) (hw _ (List.mem_of_getElem? (i := 49) rfl)) (hw _ (List.mem_of_getElem? (i := 8) rfl)) (by decide) (own_m9 hw a293 a308 3 (own_upd (own_upd (own_upd (fun _ => (0 : Int32)) 0 x0) 1 x1) 0 x1) (0 : Int32) 0 x1 Z411 F414 F417 (by decide) (by decide) rfl) (by decide) (by decide) (lenOf own_pd5 rfl) rfl (Nat.le_of_eq rfl) at_235 rfl rfl (by decide) (by decide) (fun v426 h427 hq428 => ?_)
        obtain ⟨rfl, rfl⟩ := hq428
        show own_Run p_ l e_ _ s_ m_ _ b_ mt_ c_ n0 _ h408 _ _ (mkF m_ 238 #[.val (.int p0), .val (.int p1), .val (.int p2), .val (.int p3), .val (.int x150), .val (.int z5), .val (.ref a6), .val (.int (2 : Int32)), .val (.int (0 : Int32)), .val (.ref a293), .val (.ref a377), .val (.int (1 : Int32)), .unset, .unset, .unset] [(.int x1)])
        refine own_aload C (pc' := 240) at_238 rfl rfl rfl ?_
        refine own_iconst C (pc' := 241) (v := (0 : Int32)) at_240 rfl (by decide) ?_
        refine own_ldIV C (pc' := 242) F419 (i := 0) (v := x1) (by decide) (by decide) rfl at_241 rfl ?_
        refine own_ii_ne C (pc1 := 249) (pc2 := 245) at_242 rfl rfl (fun c429 => absurd c429 (not_not_intro rfl)) (fun c429 => ?_)
        refine own_iconst C (pc' := 246) (v := (1 : Int32)) at_245 rfl (by decide) ?_
        refine own_goto C (pc' := 250) at_246 rfl ?_
        refine own_istore C (pc' := 252) (Ls' := #[.val (.int p0), .val (.int p1), .val (.int p2), .val (.int p3), .val (.int x150), .val (.int z5), .val (.ref a6), .val (.int (2 : Int32)), .val (.int (0 : Int32)), .val (.ref a293), .val (.ref a377), .val (.int (1 : Int32)), .unset, .unset, .unset]) at_250 rfl rfl ?_
        refine own_iload C (pc' := 254) at_252 rfl rfl ?_
        refine own_iconst C (pc' := 255) (v := (3 : Int32)) at_254 rfl (by decide) ?_
        refine own_ii_lt C (pc1 := 283) (pc2 := 258) at_255 rfl rfl (fun c430 => ?_) (fun c430 => absurd c430 (by decide))
        refine own_iload C (pc' := 285) at_283 rfl rfl ?_
        refine own_iconst C (pc' := 286) (v := (1 : Int32)) at_285 rfl (by decide) ?_
        refine own_isubV C (pc' := 287) (v := (1 : Int32)) at_286 rfl (by decide) ?_
        refine own_istore C (pc' := 289) (Ls' := #[.val (.int p0), .val (.int p1), .val (.int p2), .val (.int p3), .val (.int x150), .val (.int z5), .val (.ref a6), .val (.int (2 : Int32)), .val (.int (0 : Int32)), .val (.ref a293), .val (.ref a377), .val (.int (1 : Int32)), .val (.int (1 : Int32)), .unset, .unset]) at_287 rfl rfl ?_
        refine own_iload C (pc' := 291) at_289 rfl rfl ?_
        refine own_iconst C (pc' := 292) (v := (2 : Int32)) at_291 rfl (by decide) ?_
        refine own_ii_lt C (pc1 := 371) (pc2 := 295) at_292 rfl rfl (fun c431 => absurd c431 (by decide)) (fun c431 => ?_)
        refine own_iloadN C (pc' := 296) at_295 rfl rfl ?_
        refine own_iload C (pc' := 298) at_296 rfl rfl ?_
        refine own_iconst C (pc' := 299) (v := (1 : Int32)) at_298 rfl (by decide) ?_
        refine own_isubV C (pc' := 300) (v := (1 : Int32)) at_299 rfl (by decide) ?_
        refine own_callS C (pc' := 303) (y := (⟨"com/example/murmuration/murmuration/search/IndexedSetRemovePinLaw", "mod", "(II)I"⟩ : MethodName)) (argsL := [(.int p3), (.int (1 : Int32))]) (rest := []) 0 (hw _ (List.mem_of_getElem? (i := 0) rfl)) (hw _ (List.mem_of_getElem? (i := 1) rfl)) (hw _ (List.mem_of_getElem? (i := 2) rfl)) (hw _ (List.mem_of_getElem? (i := 3) rfl)) (by decide) (own_m1 hw p3 (1 : Int32)   (by decide)) (by decide) (by decide) (lenOf own_pd1 rfl) rfl (Nat.le_of_eq rfl) at_300 rfl rfl (by decide) (by decide) (fun v432 h433 hq434 => ?_)
        obtain ⟨rfl, rfl⟩ := hq434
        show own_Run p_ l e_ _ s_ m_ _ b_ mt_ c_ n0 _ h408 _ _ (mkF m_ 303 #[.val (.int p0), .val (.int p1), .val (.int p2), .val (.int p3), .val (.int x150), .val (.int z5), .val (.ref a6), .val (.int (2 : Int32)), .val (.int (0 : Int32)), .val (.ref a293), .val (.ref a377), .val (.int (1 : Int32)), .val (.int (1 : Int32)), .unset, .unset] [(.int ((p3 &&& (2147483647 : Int32)) % (1 : Int32)))])
        refine own_istore C (pc' := 305) (Ls' := #[.val (.int p0), .val (.int p1), .val (.int p2), .val (.int p3), .val (.int x150), .val (.int z5), .val (.ref a6), .val (.int (2 : Int32)), .val (.int (0 : Int32)), .val (.ref a293), .val (.ref a377), .val (.int (1 : Int32)), .val (.int (1 : Int32)), .val (.int ((p3 &&& (2147483647 : Int32)) % (1 : Int32))), .unset]) at_303 rfl rfl ?_
        have e435 := own_md1 p3
        rw [e435]
        show own_Run p_ l e_ _ s_ m_ _ b_ mt_ c_ n0 _ h408 _ _ (mkF m_ 305 #[.val (.int p0), .val (.int p1), .val (.int p2), .val (.int p3), .val (.int x150), .val (.int z5), .val (.ref a6), .val (.int (2 : Int32)), .val (.int (0 : Int32)), .val (.ref a293), .val (.ref a377), .val (.int (1 : Int32)), .val (.int (1 : Int32)), .val (.int (0 : Int32)), .unset] [])
        refine own_aload C (pc' := 307) at_305 rfl rfl rfl ?_
        refine own_aload C (pc' := 309) at_307 rfl rfl rfl ?_
        refine own_iload C (pc' := 311) at_309 rfl rfl ?_
        refine own_ldIV C (pc' := 312) F419 (i := 0) (v := x1) (by decide) (by decide) rfl at_311 rfl ?_
        refine own_callV C (pc' := 315) (y := (⟨"com/example/murmuration/murmuration/search/IndexedSet", "remove", "(I)V"⟩ : MethodName)) (a := a293) (argsL := [(.int x1)]) (rest := []) 0 F413 (hw _ (List.mem_of_getElem? (i := 30) rfl)) (hw _ (List.mem_of_getElem? (i := 31) rfl)) (hw _ (List.mem_of_getElem? (i := 33) rfl)) (hw _ (List.mem_of_getElem? (i := 32) rfl)) (hw _ (List.mem_of_getElem? (i := 34) rfl)) (hw _ (List.mem_of_getElem? (i := 8) rfl)) (by decide) (own_m6 hw a293 a308 a309 3 (1 : Int32) (own_upd (own_upd (own_upd (fun _ => (0 : Int32)) 0 x0) 1 x1) 0 x1) (own_upd (own_upd (own_upd (own_upd (fun _ => (-1 : Int32)) A0 (0 : Int32)) A1 (1 : Int32)) A1 (0 : Int32)) A0 (-1 : Int32)) x1 A1 0 (0 : Int32) x1 0 A1 (0 : Int32) Z411 F413 ga295 ga311 ga313 ne325 ne327 F323 F414 F415 F416 F417 F418 hA1 (by omega) (by simp [own_upd, d01, d02, d12, Ne.symm d01, Ne.symm d02, Ne.symm d12]) (by decide) (by decide) (by decide) (by decide) rfl hA1 (by omega) (by decide)) (by decide) (by decide) (lenOf own_pd2 rfl) rfl (Nat.le_of_eq rfl) at_312 rfl rfl (by decide) (by decide) (fun v436 h437 hq438 => ?_)
        obtain ⟨rfl, K439, F440, F441, F442, F443, F444, F445⟩ := hq438
        have Z447 : n0 ≤ h437.size := Nat.le_trans Z411 K439.1
        have F448 : own_AI Z h437 a6 3 (own_upd (own_upd (own_upd (fun _ => (0 : Int32)) 0 x0) 1 x1) 2 x2) := own_A.keep F412 K439 (ninS ne300 (ninS ne324 (ninS ne326 nin0)))
        have F449 : Exa Z h437 a293 "com/example/murmuration/murmuration/search/IndexedSet" := Exa.keep F413 K439
        have F450 : own_AI Z h437 a377 2 (own_upd (own_upd (fun _ => (0 : Int32)) 0 x1) 1 x1) := own_A.keep F419 K439 (ninS (Ne.symm ne384) (ninS (Ne.symm ne385) (ninS (Ne.symm ne386) nin0)))
        show own_Run p_ l e_ _ s_ m_ _ b_ mt_ c_ n0 _ h437 _ _ (mkF m_ 315 #[.val (.int p0), .val (.int p1), .val (.int p2), .val (.int p3), .val (.int x150), .val (.int z5), .val (.ref a6), .val (.int (2 : Int32)), .val (.int (0 : Int32)), .val (.ref a293), .val (.ref a377), .val (.int (1 : Int32)), .val (.int (1 : Int32)), .val (.int (0 : Int32)), .unset] [])
        refine own_iload C (pc' := 317) at_315 rfl rfl ?_
        refine own_i0_ne C (pc1 := 330) (pc2 := 320) at_317 rfl rfl (fun c451 => absurd c451 (by decide)) (fun c451 => ?_)
        refine own_aload C (pc' := 322) at_320 rfl rfl rfl ?_
        refine own_iload C (pc' := 324) at_322 rfl rfl ?_
        refine own_iconst C (pc' := 325) (v := (2 : Int32)) at_324 rfl (by decide) ?_
        refine own_isubV C (pc' := 326) (v := (0 : Int32)) at_325 rfl (by decide) ?_
        refine own_ldIV C (pc' := 327) F450 (i := 0) (v := x1) (by decide) (by decide) rfl at_326 rfl ?_
        refine own_goto C (pc' := 334) at_327 rfl ?_
        refine own_istore C (pc' := 336) (Ls' := #[.val (.int p0), .val (.int p1), .val (.int p2), .val (.int p3), .val (.int x150), .val (.int z5), .val (.ref a6), .val (.int (2 : Int32)), .val (.int (0 : Int32)), .val (.ref a293), .val (.ref a377), .val (.int (1 : Int32)), .val (.int (1 : Int32)), .val (.int (0 : Int32)), .val (.int x1)]) at_334 rfl rfl ?_
        refine own_iload C (pc' := 338) at_336 rfl rfl ?_
        refine own_iconst C (pc' := 339) (v := (3 : Int32)) at_338 rfl (by decide) ?_
        refine own_ii_lt C (pc1 := 365) (pc2 := 342) at_339 rfl rfl (fun c452 => ?_) (fun c452 => absurd c452 (by decide))
        refine own_iload C (pc' := 367) at_365 rfl rfl ?_
        refine own_iconst C (pc' := 368) (v := (2 : Int32)) at_367 rfl (by decide) ?_
        refine own_isubV C (pc' := 369) (v := (0 : Int32)) at_368 rfl (by decide) ?_
        refine own_istore C (pc' := 371) (Ls' := #[.val (.int p0), .val (.int p1), .val (.int p2), .val (.int p3), .val (.int x150), .val (.int z5), .val (.ref a6), .val (.int (2 : Int32)), .val (.int (0 : Int32)), .val (.ref a293), .val (.ref a377), .val (.int (1 : Int32)), .val (.int (0 : Int32)), .val (.int (0 : Int32)), .val (.int x1)]) at_369 rfl rfl ?_
        refine own_iload C (pc' := 373) at_371 rfl rfl ?_
        refine own_i0_eq C (pc1 := 390) (pc2 := 376) at_373 rfl rfl (fun c453 => absurd c453 (by decide)) (fun c453 => ?_)
        refine own_aload C (pc' := 378) at_376 rfl rfl rfl ?_
        refine own_callV C (pc' := 381) (y := (⟨"com/example/murmuration/murmuration/search/IndexedSet", "size", "()I"⟩ : MethodName)) (a := a293) (argsL := []) (rest := []) 0 F440 (hw _ (List.mem_of_getElem? (i := 40) rfl)) (hw _ (List.mem_of_getElem? (i := 41) rfl)) (hw _ (List.mem_of_getElem? (i := 43) rfl)) (hw _ (List.mem_of_getElem? (i := 42) rfl)) (hw _ (List.mem_of_getElem? (i := 44) rfl)) (hw _ (List.mem_of_getElem? (i := 8) rfl)) (by decide) (own_m8 hw a293 (0 : Int32) Z447 F443 ) (by decide) (by decide) (lenOf own_pd4 rfl) rfl (Nat.le_of_eq rfl) at_378 rfl rfl (by decide) (by decide) (fun v454 h455 hq456 => ?_)
        obtain ⟨rfl, rfl⟩ := hq456
        show own_Run p_ l e_ _ s_ m_ _ b_ mt_ c_ n0 _ h437 _ _ (mkF m_ 381 #[.val (.int p0), .val (.int p1), .val (.int p2), .val (.int p3), .val (.int x150), .val (.int z5), .val (.ref a6), .val (.int (2 : Int32)), .val (.int (0 : Int32)), .val (.ref a293), .val (.ref a377), .val (.int (1 : Int32)), .val (.int (0 : Int32)), .val (.int (0 : Int32)), .val (.int x1)] [(.int (0 : Int32))])
        refine own_iload C (pc' := 383) at_381 rfl rfl ?_
        refine own_ii_ne C (pc1 := 390) (pc2 := 386) at_383 rfl rfl (fun c457 => absurd c457 (by decide)) (fun c457 => ?_)
        refine own_iconst C (pc' := 387) (v := (1 : Int32)) at_386 rfl (by decide) ?_
        refine own_goto C (pc' := 391) at_387 rfl ?_
        refine own_istore C (pc' := 393) (Ls' := #[.val (.int p0), .val (.int p1), .val (.int p2), .val (.int p3), .val (.int x150), .val (.int z5), .val (.ref a6), .val (.int (2 : Int32)), .val (.int (0 : Int32)), .val (.ref a293), .val (.ref a377), .val (.int (1 : Int32)), .val (.int (0 : Int32)), .val (.int (0 : Int32)), .val (.int x1)]) at_391 rfl rfl ?_
        refine own_iload C (pc' := 395) at_393 rfl rfl ?_
        exact own_ret C (t := .boolean) rfl rfl (Or.inl ⟨rfl, by simp, _, rfl⟩) at_395 (by decide) (by decide) (rfl)
      · skip
        rw [e291]
        show own_Run p_ l e_ _ s_ m_ _ b_ mt_ c_ n0 _ hh _ _ (mkF m_ 90 #[.val (.int p0), .val (.int p1), .val (.int p2), .val (.int p3), .val (.int x150), .val (.int z5), .val (.ref a6), .val (.int (2 : Int32)), .val (.int (1 : Int32)), .unset, .unset, .unset, .unset, .unset, .unset] [])
        refine own_new C (pc' := 93) (hw _ (List.mem_of_getElem? (i := 6) rfl)) (hw _ (List.mem_of_getElem? (i := 7) rfl)) (hw _ (List.mem_of_getElem? (i := 8) rfl)) Z1 at_90 rfl (by decide) (by decide) (fun h458 a459 ea460 ga461 Z462 E463 A464 D465 => ?_)
        have ne466 : a6 ≠ a459 := by rw [ea460]; exact Nat.ne_of_lt (own_A.lt V6)
        have F467 : own_AI Z h458 a6 3 (own_upd (own_upd (own_upd (fun _ => (0 : Int32)) 0 x0) 1 x1) 2 x2) := own_A.ext V6 E463
        have F468 : Fld Z h458 a459 "com/example/murmuration/murmuration/search/IndexedSet" "members" "[I" .null := D465 (Or.inr (hw _ (List.mem_of_getElem? (i := 16) rfl))) (ty := (.array .int)) (by decide)
        have F469 : Fld Z h458 a459 "com/example/murmuration/murmuration/search/IndexedSet" "positions" "[I" .null := D465 (Or.inr (hw _ (List.mem_of_getElem? (i := 18) rfl))) (ty := (.array .int)) (by decide)
        have F470 : Fld Z h458 a459 "com/example/murmuration/murmuration/search/IndexedSet" "size" "I" (.int (0 : Int32)) := D465 (Or.inl (hw _ (List.mem_of_getElem? (i := 29) rfl))) (ty := .int) (by decide)
        refine own_dup C (pc' := 94) at_93 rfl rfl ?_
        refine own_iconst C (pc' := 95) (v := (3 : Int32)) at_94 rfl (by decide) ?_
        refine own_callN C (pc' := 98) (y := (⟨"com/example/murmuration/murmuration/search/IndexedSet", "<init>", "(I)V"⟩ : MethodName)) (a := a459) (argsL := [(.int (3 : Int32))]) (rest := [(.ref a459)]) 1 rfl (hw _ (List.mem_of_getElem? (i := 9) rfl)) (hw _ (List.mem_of_getElem? (i := 10) rfl)) (hw _ (List.mem_of_getElem? (i := 11) rfl)) (hw _ (List.mem_of_getElem? (i := 8) rfl)) (by decide) (own_m2 hw a459 (3 : Int32) 3 Z462 A464 ga461 F468 F469 F470 (by decide) (by omega)) (by decide) (by decide) (lenOf own_pd2 rfl) rfl (Nat.le_of_eq rfl) at_95 rfl rfl (by decide) (by decide) (fun v471 h472 hq473 => ?_)
        obtain ⟨a474, a475, rfl, K476, ⟨ga477, gk478⟩, ⟨ga479, gk480⟩, F481, F482, F483, F484, F485, F486, F487, F488, F489⟩ := hq473
        have ne490 : a6 ≠ a474 := Nat.ne_of_lt (Nat.lt_of_lt_of_le (own_A.lt F467) gk478)
        have ne491 : a459 ≠ a474 := Nat.ne_of_lt (Nat.lt_of_lt_of_le (Exa.lt A464) gk478)
        have ne492 : a6 ≠ a475 := Nat.ne_of_lt (Nat.lt_of_lt_of_le (own_A.lt F467) gk480)
        have ne493 : a459 ≠ a475 := Nat.ne_of_lt (Nat.lt_of_lt_of_le (Exa.lt A464) gk480)
        have Z495 : n0 ≤ h472.size := Nat.le_trans Z462 K476.1
        have F496 : own_AI Z h472 a6 3 (own_upd (own_upd (own_upd (fun _ => (0 : Int32)) 0 x0) 1 x1) 2 x2) := own_A.keep F467 K476 (ninS ne466 nin0)
        have F497 : Exa Z h472 a459 "com/example/murmuration/murmuration/search/IndexedSet" := Exa.keep A464 K476
        show own_Run p_ l e_ _ s_ m_ _ b_ mt_ c_ n0 _ h472 _ _ (mkF m_ 98 #[.val (.int p0), .val (.int p1), .val (.int p2), .val (.int p3), .val (.int x150), .val (.int z5), .val (.ref a6), .val (.int (2 : Int32)), .val (.int (1 : Int32)), .unset, .unset, .unset, .unset, .unset, .unset] [(.ref a459)])
        refine own_astore C (pc' := 100) (Ls' := #[.val (.int p0), .val (.int p1), .val (.int p2), .val (.int p3), .val (.int x150), .val (.int z5), .val (.ref a6), .val (.int (2 : Int32)), .val (.int (1 : Int32)), .val (.ref a459), .unset, .unset, .unset, .unset, .unset]) at_98 rfl rfl rfl ?_
        refine own_aload C (pc' := 102) at_100 rfl rfl rfl ?_
        refine own_aload C (pc' := 104) at_102 rfl rfl rfl ?_
        refine own_iconst C (pc' := 105) (v := (0 : Int32)) at_104 rfl (by decide) ?_
        refine own_ldIV C (pc' := 106) F496 (i := 0) (v := x0) (by decide) (by decide) rfl at_105 rfl ?_
        refine own_callV C (pc' := 109) (y := (⟨"com/example/murmuration/murmuration/search/IndexedSet", "add", "(I)V"⟩ : MethodName)) (a := a459) (argsL := [(.int x0)]) (rest := []) 0 F481 (hw _ (List.mem_of_getElem? (i := 23) rfl)) (hw _ (List.mem_of_getElem? (i := 24) rfl)) (hw _ (List.mem_of_getElem? (i := 26) rfl)) (hw _ (List.mem_of_getElem? (i := 25) rfl)) (hw _ (List.mem_of_getElem? (i := 27) rfl)) (hw _ (List.mem_of_getElem? (i := 8) rfl)) (by decide) (own_m5 hw a459 a474 a475 3 (0 : Int32) (fun _ => (0 : Int32)) (fun _ => (-1 : Int32)) x0 A0 0 (1 : Int32) Z495 F481 ga461 ga477 ga479 ne491 ne493 F489 F482 F483 F484 F485 F486 hA0 (by omega) (by decide) (by decide) (by decide)) (by decide) (by decide) (lenOf own_pd2 rfl) rfl (Nat.le_of_eq rfl) at_106 rfl rfl (by decide) (by decide) (fun v498 h499 hq500 => ?_)
        obtain ⟨rfl, K501, F502, F503, F504, F505, F506, F507⟩ := hq500
        have Z509 : n0 ≤ h499.size := Nat.le_trans Z495 K501.1
        have F510 : own_AI Z h499 a6 3 (own_upd (own_upd (own_upd (fun _ => (0 : Int32)) 0 x0) 1 x1) 2 x2) := own_A.keep F496 K501 (ninS ne466 (ninS ne490 (ninS ne492 nin0)))
        have F511 : Exa Z h499 a459 "com/example/murmuration/murmuration/search/IndexedSet" := Exa.keep F481 K501
        show own_Run p_ l e_ _ s_ m_ _ b_ mt_ c_ n0 _ h499 _ _ (mkF m_ 109 #[.val (.int p0), .val (.int p1), .val (.int p2), .val (.int p3), .val (.int x150), .val (.int z5), .val (.ref a6), .val (.int (2 : Int32)), .val (.int (1 : Int32)), .val (.ref a459), .unset, .unset, .unset, .unset, .unset] [])
        refine own_iload C (pc' := 111) at_109 rfl rfl ?_
        refine own_iconst C (pc' := 112) (v := (2 : Int32)) at_111 rfl (by decide) ?_
        refine own_ii_lt C (pc1 := 124) (pc2 := 115) at_112 rfl rfl (fun c512 => absurd c512 (by decide)) (fun c512 => ?_)
        refine own_aload C (pc' := 117) at_115 rfl rfl rfl ?_
        refine own_aload C (pc' := 119) at_117 rfl rfl rfl ?_
        refine own_iconst C (pc' := 120) (v := (1 : Int32)) at_119 rfl (by decide) ?_
        refine own_ldIV C (pc' := 121) F510 (i := 1) (v := x1) (by decide) (by decide) rfl at_120 rfl ?_
        refine own_callV C (pc' := 124) (y := (⟨"com/example/murmuration/murmuration/search/IndexedSet", "add", "(I)V"⟩ : MethodName)) (a := a459) (argsL := [(.int x1)]) (rest := []) 0 F502 (hw _ (List.mem_of_getElem? (i := 23) rfl)) (hw _ (List.mem_of_getElem? (i := 24) rfl)) (hw _ (List.mem_of_getElem? (i := 26) rfl)) (hw _ (List.mem_of_getElem? (i := 25) rfl)) (hw _ (List.mem_of_getElem? (i := 27) rfl)) (hw _ (List.mem_of_getElem? (i := 8) rfl)) (by decide) (own_m5 hw a459 a474 a475 3 (1 : Int32) (own_upd (fun _ => (0 : Int32)) 0 x0) (own_upd (fun _ => (-1 : Int32)) A0 (0 : Int32)) x1 A1 1 (2 : Int32) Z509 F502 ga461 ga477 ga479 ne491 ne493 F489 F503 F504 F505 F506 F507 hA1 (by omega) (by decide) (by decide) (by decide)) (by decide) (by decide) (lenOf own_pd2 rfl) rfl (Nat.le_of_eq rfl) at_121 rfl rfl (by decide) (by decide) (fun v513 h514 hq515 => ?_)
        obtain ⟨rfl, K516, F517, F518, F519, F520, F521, F522⟩ := hq515
        have Z524 : n0 ≤ h514.size := Nat.le_trans Z509 K516.1
        have F525 : own_AI Z h514 a6 3 (own_upd (own_upd (own_upd (fun _ => (0 : Int32)) 0 x0) 1 x1) 2 x2) := own_A.keep F510 K516 (ninS ne466 (ninS ne490 (ninS ne492 nin0)))
        have F526 : Exa Z h514 a459 "com/example/murmuration/murmuration/search/IndexedSet" := Exa.keep F502 K516
        show own_Run p_ l e_ _ s_ m_ _ b_ mt_ c_ n0 _ h514 _ _ (mkF m_ 124 #[.val (.int p0), .val (.int p1), .val (.int p2), .val (.int p3), .val (.int x150), .val (.int z5), .val (.ref a6), .val (.int (2 : Int32)), .val (.int (1 : Int32)), .val (.ref a459), .unset, .unset, .unset, .unset, .unset] [])
        refine own_iload C (pc' := 126) at_124 rfl rfl ?_
        refine own_iconst C (pc' := 127) (v := (3 : Int32)) at_126 rfl (by decide) ?_
        refine own_ii_lt C (pc1 := 139) (pc2 := 130) at_127 rfl rfl (fun c527 => ?_) (fun c527 => absurd c527 (by decide))
        refine own_aload C (pc' := 141) at_139 rfl rfl rfl ?_
        refine own_aload C (pc' := 143) at_141 rfl rfl rfl ?_
        refine own_iload C (pc' := 145) at_143 rfl rfl ?_
        refine own_ldIV C (pc' := 146) F525 (i := 1) (v := x1) (by decide) (by decide) rfl at_145 rfl ?_
        refine own_callV C (pc' := 149) (y := (⟨"com/example/murmuration/murmuration/search/IndexedSet", "remove", "(I)V"⟩ : MethodName)) (a := a459) (argsL := [(.int x1)]) (rest := []) 0 F517 (hw _ (List.mem_of_getElem? (i := 30) rfl)) (hw _ (List.mem_of_getElem? (i := 31) rfl)) (hw _ (List.mem_of_getElem? (i := 33) rfl)) (hw _ (List.mem_of_getElem? (i := 32) rfl)) (hw _ (List.mem_of_getElem? (i := 34) rfl)) (hw _ (List.mem_of_getElem? (i := 8) rfl)) (by decide) (own_m6 hw a459 a474 a475 3 (2 : Int32) (own_upd (own_upd (fun _ => (0 : Int32)) 0 x0) 1 x1) (own_upd (own_upd (fun _ => (-1 : Int32)) A0 (0 : Int32)) A1 (1 : Int32)) x1 A1 1 (1 : Int32) x1 1 A1 (1 : Int32) Z524 F517 ga461 ga477 ga479 ne491 ne493 F489 F518 F519 F520 F521 F522 hA1 (by omega) (by simp [own_upd, d01, d02, d12, Ne.symm d01, Ne.symm d02, Ne.symm d12]) (by decide) (by decide) (by decide) (by decide) rfl hA1 (by omega) (by decide)) (by decide) (by decide) (lenOf own_pd2 rfl) rfl (Nat.le_of_eq rfl) at_146 rfl rfl (by decide) (by decide) (fun v528 h529 hq530 => ?_)
        obtain ⟨rfl, K531, F532, F533, F534, F535, F536, F537⟩ := hq530
        have Z539 : n0 ≤ h529.size := Nat.le_trans Z524 K531.1
        have F540 : own_AI Z h529 a6 3 (own_upd (own_upd (own_upd (fun _ => (0 : Int32)) 0 x0) 1 x1) 2 x2) := own_A.keep F525 K531 (ninS ne466 (ninS ne490 (ninS ne492 nin0)))
        have F541 : Exa Z h529 a459 "com/example/murmuration/murmuration/search/IndexedSet" := Exa.keep F517 K531
        show own_Run p_ l e_ _ s_ m_ _ b_ mt_ c_ n0 _ h529 _ _ (mkF m_ 149 #[.val (.int p0), .val (.int p1), .val (.int p2), .val (.int p3), .val (.int x150), .val (.int z5), .val (.ref a6), .val (.int (2 : Int32)), .val (.int (1 : Int32)), .val (.ref a459), .unset, .unset, .unset, .unset, .unset] [])
        refine own_iconst C (pc' := 150) (v := (2 : Int32)) at_149 rfl (by decide) ?_
        refine own_newAI C (pc' := 152) (hw _ (List.mem_of_getElem? (i := 5) rfl)) Z539 at_150 rfl (nn := 2) (cap := 2) (by decide) (by decide) (by decide) (by decide) (by decide) (fun h542 a543 ea544 ga545 Z546 E547 V548 => ?_)
        have ne549 : a6 ≠ a543 := by rw [ea544]; exact Nat.ne_of_lt (own_A.lt F540)
        have ne550 : a459 ≠ a543 := by rw [ea544]; exact Nat.ne_of_lt (Exa.lt F532)
        have ne551 : a474 ≠ a543 := by rw [ea544]; exact Nat.ne_of_lt (own_A.lt F536)
        have ne552 : a475 ≠ a543 := by rw [ea544]; exact Nat.ne_of_lt (own_A.lt F537)
        have F553 : own_AI Z h542 a6 3 (own_upd (own_upd (own_upd (fun _ => (0 : Int32)) 0 x0) 1 x1) 2 x2) := own_A.ext F540 E547
        have F554 : Exa Z h542 a459 "com/example/murmuration/murmuration/search/IndexedSet" := Exa.ext E547 F532
        have F555 : Fld Z h542 a459 "com/example/murmuration/murmuration/search/IndexedSet" "members" "[I" (.ref a474) := Fld.ext E547 F533
        have F556 : Fld Z h542 a459 "com/example/murmuration/murmuration/search/IndexedSet" "positions" "[I" (.ref a475) := Fld.ext E547 F534
        have F557 : Fld Z h542 a459 "com/example/murmuration/murmuration/search/IndexedSet" "size" "I" (.int (1 : Int32)) := Fld.ext E547 F535
        have F558 : own_AI Z h542 a474 3 (own_upd (own_upd (own_upd (fun _ => (0 : Int32)) 0 x0) 1 x1) 1 x1) := own_A.ext F536 E547
        have F559 : own_AI Z h542 a475 3 (own_upd (own_upd (own_upd (own_upd (fun _ => (-1 : Int32)) A0 (0 : Int32)) A1 (1 : Int32)) A1 (1 : Int32)) A1 (-1 : Int32)) := own_A.ext F537 E547
        refine own_astore C (pc' := 154) (Ls' := #[.val (.int p0), .val (.int p1), .val (.int p2), .val (.int p3), .val (.int x150), .val (.int z5), .val (.ref a6), .val (.int (2 : Int32)), .val (.int (1 : Int32)), .val (.ref a459), .val (.ref a543), .unset, .unset, .unset, .unset]) at_152 rfl rfl rfl ?_
        refine own_aload C (pc' := 156) at_154 rfl rfl rfl ?_
        refine own_iconst C (pc' := 157) (v := (0 : Int32)) at_156 rfl (by decide) ?_
        refine own_iload C (pc' := 159) at_157 rfl rfl ?_
        refine own_i0_ne C (pc1 := 172) (pc2 := 162) at_159 rfl rfl (fun c560 => ?_) (fun c560 => absurd c560 (by decide))
        refine own_aload C (pc' := 174) at_172 rfl rfl rfl ?_
        refine own_iconst C (pc' := 175) (v := (0 : Int32)) at_174 rfl (by decide) ?_
        refine own_ldIV C (pc' := 176) F553 (i := 0) (v := x0) (by decide) (by decide) rfl at_175 rfl ?_
        refine own_stI C (pc' := 177) V548 (i := 0) (by decide) (by decide) ga545 at_176 rfl (fun h561 W562 V563 => ?_)
        have Z564 : n0 ≤ h561.size := Nat.le_trans Z546 (Nat.le_of_eq (Wr.size W562).symm)
        have F565 : own_AI Z h561 a6 3 (own_upd (own_upd (own_upd (fun _ => (0 : Int32)) 0 x0) 1 x1) 2 x2) := own_A.other F553 W562 ne549
        have F566 : Exa Z h561 a459 "com/example/murmuration/murmuration/search/IndexedSet" := Exa.wr W562 F554
        have F567 : Fld Z h561 a459 "com/example/murmuration/murmuration/search/IndexedSet" "members" "[I" (.ref a474) := Fld.other W562 F555 (Or.inl ne550)
        have F568 : Fld Z h561 a459 "com/example/murmuration/murmuration/search/IndexedSet" "positions" "[I" (.ref a475) := Fld.other W562 F556 (Or.inl ne550)
        have F569 : Fld Z h561 a459 "com/example/murmuration/murmuration/search/IndexedSet" "size" "I" (.int (1 : Int32)) := Fld.other W562 F557 (Or.inl ne550)
        have F570 : own_AI Z h561 a474 3 (own_upd (own_upd (own_upd (fun _ => (0 : Int32)) 0 x0) 1 x1) 1 x1) := own_A.other F558 W562 ne551
        have F571 : own_AI Z h561 a475 3 (own_upd (own_upd (own_upd (own_upd (fun _ => (-1 : Int32)) A0 (0 : Int32)) A1 (1 : Int32)) A1 (1 : Int32)) A1 (-1 : Int32)) := own_A.other F559 W562 ne552
        have F572 : own_AI Z h561 a543 2 (own_upd (fun _ => (0 : Int32)) 0 x0) := V563
        refine own_aload C (pc' := 179) at_177 rfl rfl rfl ?_
        refine own_iconst C (pc' := 180) (v := (1 : Int32)) at_179 rfl (by decide) ?_
        refine own_iload C (pc' := 182) at_180 rfl rfl ?_
        refine own_iconst C (pc' := 183) (v := (1 : Int32)) at_182 rfl (by decide) ?_
        refine own_ii_ne C (pc1 := 196) (pc2 := 186) at_183 rfl rfl (fun c573 => absurd c573 (by decide)) (fun c573 => ?_)
        refine own_aload C (pc' := 188) at_186 rfl rfl rfl ?_
        refine own_iload C (pc' := 190) at_188 rfl rfl ?_
        refine own_iconst C (pc' := 191) (v := (1 : Int32)) at_190 rfl (by decide) ?_
        refine own_isubV C (pc' := 192) (v := (1 : Int32)) at_191 rfl (by decide) ?_
        refine own_ldIV C (pc' := 193) F565 (i := 1) (v := x1) (by decide) (by decide) rfl at_192 rfl ?_
        refine own_goto C (pc' := 200) at_193 rfl ?_
        refine own_stI C (pc' := 201) F572 (i := 1) (by decide) (by decide) ga545 at_200 rfl (fun h574 W575 V576 => ?_)
        have Z577 : n0 ≤ h574.size := Nat.le_trans Z564 (Nat.le_of_eq (Wr.size W575).symm)
        have F578 : own_AI Z h574 a6 3 (own_upd (own_upd (own_upd (fun _ => (0 : Int32)) 0 x0) 1 x1) 2 x2) := own_A.other F565 W575 ne549
        have F579 : Exa Z h574 a459 "com/example/murmuration/murmuration/search/IndexedSet" := Exa.wr W575 F566
        have F580 : Fld Z h574 a459 "com/example/murmuration/murmuration/search/IndexedSet" "members" "[I" (.ref a474) := Fld.other W575 F567 (Or.inl ne550)
        have F581 : Fld Z h574 a459 "com/example/murmuration/murmuration/search/IndexedSet" "positions" "[I" (.ref a475) := Fld.other W575 F568 (Or.inl ne550)
        have F582 : Fld Z h574 a459 "com/example/murmuration/murmuration/search/IndexedSet" "size" "I" (.int (1 : Int32)) := Fld.other W575 F569 (Or.inl ne550)
        have F583 : own_AI Z h574 a474 3 (own_upd (own_upd (own_upd (fun _ => (0 : Int32)) 0 x0) 1 x1) 1 x1) := own_A.other F570 W575 ne551
        have F584 : own_AI Z h574 a475 3 (own_upd (own_upd (own_upd (own_upd (fun _ => (-1 : Int32)) A0 (0 : Int32)) A1 (1 : Int32)) A1 (1 : Int32)) A1 (-1 : Int32)) := own_A.other F571 W575 ne552
        have F585 : own_AI Z h574 a543 2 (own_upd (own_upd (fun _ => (0 : Int32)) 0 x0) 1 x1) := V576
        refine own_aload C (pc' := 203) at_201 rfl rfl rfl ?_
        refine own_aload C (pc' := 205) at_203 rfl rfl rfl ?_
        refine own_iload C (pc' := 207) at_205 rfl rfl ?_
        refine own_ldIV C (pc' := 208) F578 (i := 1) (v := x1) (by decide) (by decide) rfl at_207 rfl ?_
        refine own_callV C (pc' := 211) (y := (⟨"com/example/murmuration/murmuration/search/IndexedSet", "contains", "(I)Z"⟩ : MethodName)) (a := a459) (argsL := [(.int x1)]) (rest := []) 0 F579 (hw _ (List.mem_of_getElem? (i := 35) rfl)) (hw _ (List.mem_of_getElem? (i := 36) rfl)) (hw _ (List.mem_of_getElem? (i := 38) rfl)) (hw _ (List.mem_of_getElem? (i := 37) rfl)) (hw _ (List.mem_of_getElem? (i := 39) rfl)) (hw _ (List.mem_of_getElem? (i := 8) rfl)) (by decide) (own_m7 hw a459 a475 3 (own_upd (own_upd (own_upd (own_upd (fun _ => (-1 : Int32)) A0 (0 : Int32)) A1 (1 : Int32)) A1 (1 : Int32)) A1 (-1 : Int32)) x1 A1 (0 : Int32) Z577 F581 F584 hA1 (by omega) (by simp [own_upd, d01, d02, d12, Ne.symm d01, Ne.symm d02, Ne.symm d12])) (by decide) (by decide) (lenOf own_pd3 rfl) rfl (Nat.le_of_eq rfl) at_208 rfl rfl (by decide) (by decide) (fun v586 h587 hq588 => ?_)
        obtain ⟨rfl, rfl⟩ := hq588
        show own_Run p_ l e_ _ s_ m_ _ b_ mt_ c_ n0 _ h574 _ _ (mkF m_ 211 #[.val (.int p0), .val (.int p1), .val (.int p2), .val (.int p3), .val (.int x150), .val (.int z5), .val (.ref a6), .val (.int (2 : Int32)), .val (.int (1 : Int32)), .val (.ref a459), .val (.ref a543), .unset, .unset, .unset, .unset] [(.int (0 : Int32))])
        refine own_i0_ne C (pc1 := 218) (pc2 := 214) at_211 rfl rfl (fun c589 => absurd c589 (by decide)) (fun c589 => ?_)
        refine own_iconst C (pc' := 215) (v := (1 : Int32)) at_214 rfl (by decide) ?_
        refine own_goto C (pc' := 219) at_215 rfl ?_
        refine own_istore C (pc' := 221) (Ls' := #[.val (.int p0), .val (.int p1), .val (.int p2), .val (.int p3), .val (.int x150), .val (.int z5), .val (.ref a6), .val (.int (2 : Int32)), .val (.int (1 : Int32)), .val (.ref a459), .val (.ref a543), .val (.int (1 : Int32)), .unset, .unset, .unset]) at_219 rfl rfl ?_
        refine own_iload C (pc' := 223) at_221 rfl rfl ?_
        refine own_iconst C (pc' := 224) (v := (2 : Int32)) at_223 rfl (by decide) ?_
        refine own_ii_lt C (pc1 := 252) (pc2 := 227) at_224 rfl rfl (fun c590 => absurd c590 (by decide)) (fun c590 => ?_)
        refine own_iload C (pc' := 229) at_227 rfl rfl ?_
        refine own_i0_eq C (pc1 := 249) (pc2 := 232) at_229 rfl rfl (fun c591 => absurd c591 (by decide)) (fun c591 => ?_)
        refine own_aload C (pc' := 234) at_232 rfl rfl rfl ?_
        refine own_iconst C (pc' := 235) (v := (0 : Int32)) at_234 rfl (by decide) ?_
        refine own_callV C (pc' := 238) (y := (⟨"com/example/murmuration/murmuration/search/IndexedSet", "get", "(I)I"⟩ : MethodName)) (a := a459) (argsL := [(.int (0 : Int32))]) (rest := []) 0 F579 (hw _ (List.mem_of_getElem? (i := 45) rfl)) (hw _ (List.mem_of_getElem? (i := 46) rfl)) (hw _ (List.mem_of_getElem? (i := 48) rfl)) (hw _ (List.mem_of_getElem? (i := 47) rfl)) (hw _ (List.mem_of_getElem? (i := 49) rfl)) (hw _ (List.mem_of_getElem? (i := 8) rfl)) (by decide) (own_m9 hw a459 a474 3 (own_upd (own_upd (own_upd (fun _ => (0 : Int32)) 0 x0) 1 x1) 1 x1) (0 : Int32) 0 x0 Z577 F580 F583 (by decide) (by decide) rfl) (by decide) (by decide) (lenOf own_pd5 rfl) rfl (Nat.le_of_eq rfl) at_235 rfl rfl (by decide) (by decide) (fun v592 h593 hq594 => ?_)
        obtain ⟨rfl, rfl⟩ := hq594
        show own_Run p_ l e_ _ s_ m_ _ b_ mt_ c_ n0 _ h574 _ _ (mkF m_ 238 #[.val (.int p0), .val (.int p1), .val (.int p2), .val (.int p3), .val (.int x150), .val (.int z5), .val (.ref a6), .val (.int (2 : Int32)), .val (.int (1 : Int32)), .val (.ref a459), .val (.ref a543), .val (.int (1 : Int32)), .unset, .unset, .unset] [(.int x0)])
        refine own_aload C (pc' := 240) at_238 rfl rfl rfl ?_
        refine own_iconst C (pc' := 241) (v := (0 : Int32)) at_240 rfl (by decide) ?_
        refine own_ldIV C (pc' := 242) F585 (i := 0) (v := x0) (by decide) (by decide) rfl at_241 rfl ?_
        refine own_ii_ne C (pc1 := 249) (pc2 := 245) at_242 rfl rfl (fun c595 => absurd c595 (not_not_intro rfl)) (fun c595 => ?_)
        refine own_iconst C (pc' := 246) (v := (1 : Int32)) at_245 rfl (by decide) ?_
        refine own_goto C (pc' := 250) at_246 rfl ?_
        refine own_istore C (pc' := 252) (Ls' := #[.val (.int p0), .val (.int p1), .val (.int p2), .val (.int p3), .val (.int x150), .val (.int z5), .val (.ref a6), .val (.int (2 : Int32)), .val (.int (1 : Int32)), .val (.ref a459), .val (.ref a543), .val (.int (1 : Int32)), .unset, .unset, .unset]) at_250 rfl rfl ?_
        refine own_iload C (pc' := 254) at_252 rfl rfl ?_
        refine own_iconst C (pc' := 255) (v := (3 : Int32)) at_254 rfl (by decide) ?_
        refine own_ii_lt C (pc1 := 283) (pc2 := 258) at_255 rfl rfl (fun c596 => ?_) (fun c596 => absurd c596 (by decide))
        refine own_iload C (pc' := 285) at_283 rfl rfl ?_
        refine own_iconst C (pc' := 286) (v := (1 : Int32)) at_285 rfl (by decide) ?_
        refine own_isubV C (pc' := 287) (v := (1 : Int32)) at_286 rfl (by decide) ?_
        refine own_istore C (pc' := 289) (Ls' := #[.val (.int p0), .val (.int p1), .val (.int p2), .val (.int p3), .val (.int x150), .val (.int z5), .val (.ref a6), .val (.int (2 : Int32)), .val (.int (1 : Int32)), .val (.ref a459), .val (.ref a543), .val (.int (1 : Int32)), .val (.int (1 : Int32)), .unset, .unset]) at_287 rfl rfl ?_
        refine own_iload C (pc' := 291) at_289 rfl rfl ?_
        refine own_iconst C (pc' := 292) (v := (2 : Int32)) at_291 rfl (by decide) ?_
        refine own_ii_lt C (pc1 := 371) (pc2 := 295) at_292 rfl rfl (fun c597 => absurd c597 (by decide)) (fun c597 => ?_)
        refine own_iloadN C (pc' := 296) at_295 rfl rfl ?_
        refine own_iload C (pc' := 298) at_296 rfl rfl ?_
        refine own_iconst C (pc' := 299) (v := (1 : Int32)) at_298 rfl (by decide) ?_
        refine own_isubV C (pc' := 300) (v := (1 : Int32)) at_299 rfl (by decide) ?_
        refine own_callS C (pc' := 303) (y := (⟨"com/example/murmuration/murmuration/search/IndexedSetRemovePinLaw", "mod", "(II)I"⟩ : MethodName)) (argsL := [(.int p3), (.int (1 : Int32))]) (rest := []) 0 (hw _ (List.mem_of_getElem? (i := 0) rfl)) (hw _ (List.mem_of_getElem? (i := 1) rfl)) (hw _ (List.mem_of_getElem? (i := 2) rfl)) (hw _ (List.mem_of_getElem? (i := 3) rfl)) (by decide) (own_m1 hw p3 (1 : Int32)   (by decide)) (by decide) (by decide) (lenOf own_pd1 rfl) rfl (Nat.le_of_eq rfl) at_300 rfl rfl (by decide) (by decide) (fun v598 h599 hq600 => ?_)
        obtain ⟨rfl, rfl⟩ := hq600
        show own_Run p_ l e_ _ s_ m_ _ b_ mt_ c_ n0 _ h574 _ _ (mkF m_ 303 #[.val (.int p0), .val (.int p1), .val (.int p2), .val (.int p3), .val (.int x150), .val (.int z5), .val (.ref a6), .val (.int (2 : Int32)), .val (.int (1 : Int32)), .val (.ref a459), .val (.ref a543), .val (.int (1 : Int32)), .val (.int (1 : Int32)), .unset, .unset] [(.int ((p3 &&& (2147483647 : Int32)) % (1 : Int32)))])
        refine own_istore C (pc' := 305) (Ls' := #[.val (.int p0), .val (.int p1), .val (.int p2), .val (.int p3), .val (.int x150), .val (.int z5), .val (.ref a6), .val (.int (2 : Int32)), .val (.int (1 : Int32)), .val (.ref a459), .val (.ref a543), .val (.int (1 : Int32)), .val (.int (1 : Int32)), .val (.int ((p3 &&& (2147483647 : Int32)) % (1 : Int32))), .unset]) at_303 rfl rfl ?_
        have e601 := own_md1 p3
        rw [e601]
        show own_Run p_ l e_ _ s_ m_ _ b_ mt_ c_ n0 _ h574 _ _ (mkF m_ 305 #[.val (.int p0), .val (.int p1), .val (.int p2), .val (.int p3), .val (.int x150), .val (.int z5), .val (.ref a6), .val (.int (2 : Int32)), .val (.int (1 : Int32)), .val (.ref a459), .val (.ref a543), .val (.int (1 : Int32)), .val (.int (1 : Int32)), .val (.int (0 : Int32)), .unset] [])
        refine own_aload C (pc' := 307) at_305 rfl rfl rfl ?_
        refine own_aload C (pc' := 309) at_307 rfl rfl rfl ?_
        refine own_iload C (pc' := 311) at_309 rfl rfl ?_
        refine own_ldIV C (pc' := 312) F585 (i := 0) (v := x0) (by decide) (by decide) rfl at_311 rfl ?_
        refine own_callV C (pc' := 315) (y := (⟨"com/example/murmuration/murmuration/search/IndexedSet", "remove", "(I)V"⟩ : MethodName)) (a := a459) (argsL := [(.int x0)]) (rest := []) 0 F579 (hw _ (List.mem_of_getElem? (i := 30) rfl)) (hw _ (List.mem_of_getElem? (i := 31) rfl)) (hw _ (List.mem_of_getElem? (i := 33) rfl)) (hw _ (List.mem_of_getElem? (i := 32) rfl)) (hw _ (List.mem_of_getElem? (i := 34) rfl)) (hw _ (List.mem_of_getElem? (i := 8) rfl)) (by decide) (own_m6 hw a459 a474 a475 3 (1 : Int32) (own_upd (own_upd (own_upd (fun _ => (0 : Int32)) 0 x0) 1 x1) 1 x1) (own_upd (own_upd (own_upd (own_upd (fun _ => (-1 : Int32)) A0 (0 : Int32)) A1 (1 : Int32)) A1 (1 : Int32)) A1 (-1 : Int32)) x0 A0 0 (0 : Int32) x0 0 A0 (0 : Int32) Z577 F579 ga461 ga477 ga479 ne491 ne493 F489 F580 F581 F582 F583 F584 hA0 (by omega) (by simp [own_upd, d01, d02, d12, Ne.symm d01, Ne.symm d02, Ne.symm d12]) (by decide) (by decide) (by decide) (by decide) rfl hA0 (by omega) (by decide)) (by decide) (by decide) (lenOf own_pd2 rfl) rfl (Nat.le_of_eq rfl) at_312 rfl rfl (by decide) (by decide) (fun v602 h603 hq604 => ?_)
        obtain ⟨rfl, K605, F606, F607, F608, F609, F610, F611⟩ := hq604
        have Z613 : n0 ≤ h603.size := Nat.le_trans Z577 K605.1
        have F614 : own_AI Z h603 a6 3 (own_upd (own_upd (own_upd (fun _ => (0 : Int32)) 0 x0) 1 x1) 2 x2) := own_A.keep F578 K605 (ninS ne466 (ninS ne490 (ninS ne492 nin0)))
        have F615 : Exa Z h603 a459 "com/example/murmuration/murmuration/search/IndexedSet" := Exa.keep F579 K605
        have F616 : own_AI Z h603 a543 2 (own_upd (own_upd (fun _ => (0 : Int32)) 0 x0) 1 x1) := own_A.keep F585 K605 (ninS (Ne.symm ne550) (ninS (Ne.symm ne551) (ninS (Ne.symm ne552) nin0)))
        show own_Run p_ l e_ _ s_ m_ _ b_ mt_ c_ n0 _ h603 _ _ (mkF m_ 315 #[.val (.int p0), .val (.int p1), .val (.int p2), .val (.int p3), .val (.int x150), .val (.int z5), .val (.ref a6), .val (.int (2 : Int32)), .val (.int (1 : Int32)), .val (.ref a459), .val (.ref a543), .val (.int (1 : Int32)), .val (.int (1 : Int32)), .val (.int (0 : Int32)), .unset] [])
        refine own_iload C (pc' := 317) at_315 rfl rfl ?_
        refine own_i0_ne C (pc1 := 330) (pc2 := 320) at_317 rfl rfl (fun c617 => absurd c617 (by decide)) (fun c617 => ?_)
        refine own_aload C (pc' := 322) at_320 rfl rfl rfl ?_
        refine own_iload C (pc' := 324) at_322 rfl rfl ?_
        refine own_iconst C (pc' := 325) (v := (2 : Int32)) at_324 rfl (by decide) ?_
        refine own_isubV C (pc' := 326) (v := (0 : Int32)) at_325 rfl (by decide) ?_
        refine own_ldIV C (pc' := 327) F616 (i := 0) (v := x0) (by decide) (by decide) rfl at_326 rfl ?_
        refine own_goto C (pc' := 334) at_327 rfl ?_
        refine own_istore C (pc' := 336) (Ls' := #[.val (.int p0), .val (.int p1), .val (.int p2), .val (.int p3), .val (.int x150), .val (.int z5), .val (.ref a6), .val (.int (2 : Int32)), .val (.int (1 : Int32)), .val (.ref a459), .val (.ref a543), .val (.int (1 : Int32)), .val (.int (1 : Int32)), .val (.int (0 : Int32)), .val (.int x0)]) at_334 rfl rfl ?_
        refine own_iload C (pc' := 338) at_336 rfl rfl ?_
        refine own_iconst C (pc' := 339) (v := (3 : Int32)) at_338 rfl (by decide) ?_
        refine own_ii_lt C (pc1 := 365) (pc2 := 342) at_339 rfl rfl (fun c618 => ?_) (fun c618 => absurd c618 (by decide))
        refine own_iload C (pc' := 367) at_365 rfl rfl ?_
        refine own_iconst C (pc' := 368) (v := (2 : Int32)) at_367 rfl (by decide) ?_
        refine own_isubV C (pc' := 369) (v := (0 : Int32)) at_368 rfl (by decide) ?_
        refine own_istore C (pc' := 371) (Ls' := #[.val (.int p0), .val (.int p1), .val (.int p2), .val (.int p3), .val (.int x150), .val (.int z5), .val (.ref a6), .val (.int (2 : Int32)), .val (.int (1 : Int32)), .val (.ref a459), .val (.ref a543), .val (.int (1 : Int32)), .val (.int (0 : Int32)), .val (.int (0 : Int32)), .val (.int x0)]) at_369 rfl rfl ?_
        refine own_iload C (pc' := 373) at_371 rfl rfl ?_
        refine own_i0_eq C (pc1 := 390) (pc2 := 376) at_373 rfl rfl (fun c619 => absurd c619 (by decide)) (fun c619 => ?_)
        refine own_aload C (pc' := 378) at_376 rfl rfl rfl ?_
        refine own_callV C (pc' := 381) (y := (⟨"com/example/murmuration/murmuration/search/IndexedSet", "size", "()I"⟩ : MethodName)) (a := a459) (argsL := []) (rest := []) 0 F606 (hw _ (List.mem_of_getElem? (i := 40) rfl)) (hw _ (List.mem_of_getElem? (i := 41) rfl)) (hw _ (List.mem_of_getElem? (i := 43) rfl)) (hw _ (List.mem_of_getElem? (i := 42) rfl)) (hw _ (List.mem_of_getElem? (i := 44) rfl)) (hw _ (List.mem_of_getElem? (i := 8) rfl)) (by decide) (own_m8 hw a459 (0 : Int32) Z613 F609 ) (by decide) (by decide) (lenOf own_pd4 rfl) rfl (Nat.le_of_eq rfl) at_378 rfl rfl (by decide) (by decide) (fun v620 h621 hq622 => ?_)
        obtain ⟨rfl, rfl⟩ := hq622
        show own_Run p_ l e_ _ s_ m_ _ b_ mt_ c_ n0 _ h603 _ _ (mkF m_ 381 #[.val (.int p0), .val (.int p1), .val (.int p2), .val (.int p3), .val (.int x150), .val (.int z5), .val (.ref a6), .val (.int (2 : Int32)), .val (.int (1 : Int32)), .val (.ref a459), .val (.ref a543), .val (.int (1 : Int32)), .val (.int (0 : Int32)), .val (.int (0 : Int32)), .val (.int x0)] [(.int (0 : Int32))])
        refine own_iload C (pc' := 383) at_381 rfl rfl ?_
        refine own_ii_ne C (pc1 := 390) (pc2 := 386) at_383 rfl rfl (fun c623 => absurd c623 (by decide)) (fun c623 => ?_)
        refine own_iconst C (pc' := 387) (v := (1 : Int32)) at_386 rfl (by decide) ?_
        refine own_goto C (pc' := 391) at_387 rfl ?_
        refine own_istore C (pc' := 393) (Ls' := #[.val (.int p0), .val (.int p1), .val (.int p2), .val (.int p3), .val (.int x150), .val (.int z5), .val (.ref a6), .val (.int (2 : Int32)), .val (.int (1 : Int32)), .val (.ref a459), .val (.ref a543), .val (.int (1 : Int32)), .val (.int (0 : Int32)), .val (.int (0 : Int32)), .val (.int x0)]) at_391 rfl rfl ?_
        refine own_iload C (pc' := 395) at_393 rfl rfl ?_
        exact own_ret C (t := .boolean) rfl rfl (Or.inl ⟨rfl, by simp, _, rfl⟩) at_395 (by decide) (by decide) (rfl)
    · skip
      rw [e157]
      show own_Run p_ l e_ _ s_ m_ _ b_ mt_ c_ n0 _ hh _ _ (mkF m_ 82 #[.val (.int p0), .val (.int p1), .val (.int p2), .val (.int p3), .val (.int x150), .val (.int z5), .val (.ref a6), .val (.int (3 : Int32)), .unset, .unset, .unset, .unset, .unset, .unset, .unset] [])
      refine own_iloadN C (pc' := 83) at_82 rfl rfl ?_
      refine own_iload C (pc' := 85) at_83 rfl rfl ?_
      refine own_callS C (pc' := 88) (y := (⟨"com/example/murmuration/murmuration/search/IndexedSetRemovePinLaw", "mod", "(II)I"⟩ : MethodName)) (argsL := [(.int p2), (.int (3 : Int32))]) (rest := []) 0 (hw _ (List.mem_of_getElem? (i := 0) rfl)) (hw _ (List.mem_of_getElem? (i := 1) rfl)) (hw _ (List.mem_of_getElem? (i := 2) rfl)) (hw _ (List.mem_of_getElem? (i := 3) rfl)) (by decide) (own_m1 hw p2 (3 : Int32)   (by decide)) (by decide) (by decide) (lenOf own_pd1 rfl) rfl (Nat.le_of_eq rfl) at_85 rfl rfl (by decide) (by decide) (fun v624 h625 hq626 => ?_)
      obtain ⟨rfl, rfl⟩ := hq626
      show own_Run p_ l e_ _ s_ m_ _ b_ mt_ c_ n0 _ hh _ _ (mkF m_ 88 #[.val (.int p0), .val (.int p1), .val (.int p2), .val (.int p3), .val (.int x150), .val (.int z5), .val (.ref a6), .val (.int (3 : Int32)), .unset, .unset, .unset, .unset, .unset, .unset, .unset] [(.int ((p2 &&& (2147483647 : Int32)) % (3 : Int32)))])
      refine own_istore C (pc' := 90) (Ls' := #[.val (.int p0), .val (.int p1), .val (.int p2), .val (.int p3), .val (.int x150), .val (.int z5), .val (.ref a6), .val (.int (3 : Int32)), .val (.int ((p2 &&& (2147483647 : Int32)) % (3 : Int32))), .unset, .unset, .unset, .unset, .unset, .unset]) at_88 rfl rfl ?_
      rcases own_md3 p2 with e627 | e627 | e627
      · skip
        rw [e627]
        show own_Run p_ l e_ _ s_ m_ _ b_ mt_ c_ n0 _ hh _ _ (mkF m_ 90 #[.val (.int p0), .val (.int p1), .val (.int p2), .val (.int p3), .val (.int x150), .val (.int z5), .val (.ref a6), .val (.int (3 : Int32)), .val (.int (0 : Int32)), .unset, .unset, .unset, .unset, .unset, .unset] [])
        refine own_new C (pc' := 93) (hw _ (List.mem_of_getElem? (i := 6) rfl)) (hw _ (List.mem_of_getElem? (i := 7) rfl)) (hw _ (List.mem_of_getElem? (i := 8) rfl)) Z1 at_90 rfl (by decide) (by decide) (fun h628 a629 ea630 ga631 Z632 E633 A634 D635 => ?_)
        have ne636 : a6 ≠ a629 := by rw [ea630]; exact Nat.ne_of_lt (own_A.lt V6)
        have F637 : own_AI Z h628 a6 3 (own_upd (own_upd (own_upd (fun _ => (0 : Int32)) 0 x0) 1 x1) 2 x2) := own_A.ext V6 E633
        have F638 : Fld Z h628 a629 "com/example/murmuration/murmuration/search/IndexedSet" "members" "[I" .null := D635 (Or.inr (hw _ (List.mem_of_getElem? (i := 16) rfl))) (ty := (.array .int)) (by decide)
        have F639 : Fld Z h628 a629 "com/example/murmuration/murmuration/search/IndexedSet" "positions" "[I" .null := D635 (Or.inr (hw _ (List.mem_of_getElem? (i := 18) rfl))) (ty := (.array .int)) (by decide)
        have F640 : Fld Z h628 a629 "com/example/murmuration/murmuration/search/IndexedSet" "size" "I" (.int (0 : Int32)) := D635 (Or.inl (hw _ (List.mem_of_getElem? (i := 29) rfl))) (ty := .int) (by decide)
        refine own_dup C (pc' := 94) at_93 rfl rfl ?_
        refine own_iconst C (pc' := 95) (v := (3 : Int32)) at_94 rfl (by decide) ?_
        refine own_callN C (pc' := 98) (y := (⟨"com/example/murmuration/murmuration/search/IndexedSet", "<init>", "(I)V"⟩ : MethodName)) (a := a629) (argsL := [(.int (3 : Int32))]) (rest := [(.ref a629)]) 1 rfl (hw _ (List.mem_of_getElem? (i := 9) rfl)) (hw _ (List.mem_of_getElem? (i := 10) rfl)) (hw _ (List.mem_of_getElem? (i := 11) rfl)) (hw _ (List.mem_of_getElem? (i := 8) rfl)) (by decide) (own_m2 hw a629 (3 : Int32) 3 Z632 A634 ga631 F638 F639 F640 (by decide) (by omega)) (by decide) (by decide) (lenOf own_pd2 rfl) rfl (Nat.le_of_eq rfl) at_95 rfl rfl (by decide) (by decide) (fun v641 h642 hq643 => ?_)
        obtain ⟨a644, a645, rfl, K646, ⟨ga647, gk648⟩, ⟨ga649, gk650⟩, F651, F652, F653, F654, F655, F656, F657, F658, F659⟩ := hq643
        have ne660 : a6 ≠ a644 := Nat.ne_of_lt (Nat.lt_of_lt_of_le (own_A.lt F637) gk648)
        have ne661 : a629 ≠ a644 := Nat.ne_of_lt (Nat.lt_of_lt_of_le (Exa.lt A634) gk648)
        have ne662 : a6 ≠ a645 := Nat.ne_of_lt (Nat.lt_of_lt_of_le (own_A.lt F637) gk650)
        have ne663 : a629 ≠ a645 := Nat.ne_of_lt (Nat.lt_of_lt_of_le (Exa.lt A634) gk650)
        have Z665 : n0 ≤ h642.size := Nat.le_trans Z632 K646.1
        have F666 : own_AI Z h642 a6 3 (own_upd (own_upd (own_upd (fun _ => (0 : Int32)) 0 x0) 1 x1) 2 x2) := own_A.keep F637 K646 (ninS ne636 nin0)
        have F667 : Exa Z h642 a629 "com/example/murmuration/murmuration/search/IndexedSet" := Exa.keep A634 K646
        show own_Run p_ l e_ _ s_ m_ _ b_ mt_ c_ n0 _ h642 _ _ (mkF m_ 98 #[.val (.int p0), .val (.int p1), .val (.int p2), .val (.int p3), .val (.int x150), .val (.int z5), .val (.ref a6), .val (.int (3 : Int32)), .val (.int (0 : Int32)), .unset, .unset, .unset, .unset, .unset, .unset] [(.ref a629)])
        refine own_astore C (pc' := 100) (Ls' := #[.val (.int p0), .val (.int p1), .val (.int p2), .val (.int p3), .val (.int x150), .val (.int z5), .val (.ref a6), .val (.int (3 : Int32)), .val (.int (0 : Int32)), .val (.ref a629), .unset, .unset, .unset, .unset, .unset]) at_98 rfl rfl rfl ?_
        refine own_aload C (pc' := 102) at_100 rfl rfl rfl ?_
        refine own_aload C (pc' := 104) at_102 rfl rfl rfl ?_
        refine own_iconst C (pc' := 105) (v := (0 : Int32)) at_104 rfl (by decide) ?_
        refine own_ldIV C (pc' := 106) F666 (i := 0) (v := x0) (by decide) (by decide) rfl at_105 rfl ?_
        refine own_callV C (pc' := 109) (y := (⟨"com/example/murmuration/murmuration/search/IndexedSet", "add", "(I)V"⟩ : MethodName)) (a := a629) (argsL := [(.int x0)]) (rest := []) 0 F651 (hw _ (List.mem_of_getElem? (i := 23) rfl)) (hw _ (List.mem_of_getElem? (i := 24) rfl)) (hw _ (List.mem_of_getElem? (i := 26) rfl)) (hw _ (List.mem_of_getElem? (i := 25) rfl)) (hw _ (List.mem_of_getElem? (i := 27) rfl)) (hw _ (List.mem_of_getElem? (i := 8) rfl)) (by decide) (own_m5 hw a629 a644 a645 3 (0 : Int32) (fun _ => (0 : Int32)) (fun _ => (-1 : Int32)) x0 A0 0 (1 : Int32) Z665 F651 ga631 ga647 ga649 ne661 ne663 F659 F652 F653 F654 F655 F656 hA0 (by omega) (by decide) (by decide) (by decide)) (by decide) (by decide) (lenOf own_pd2 rfl) rfl (Nat.le_of_eq rfl) at_106 rfl rfl (by decide) (by decide) (fun v668 h669 hq670 => ?_)
        obtain ⟨rfl, K671, F672, F673, F674, F675, F676, F677⟩ := hq670
        have Z679 : n0 ≤ h669.size := Nat.le_trans Z665 K671.1
        have F680 : own_AI Z h669 a6 3 (own_upd (own_upd (own_upd (fun _ => (0 : Int32)) 0 x0) 1 x1) 2 x2) := own_A.keep F666 K671 (ninS ne636 (ninS ne660 (ninS ne662 nin0)))
        have F681 : Exa Z h669 a629 "com/example/murmuration/murmuration/search/IndexedSet" := Exa.keep F651 K671
        show own_Run p_ l e_ _ s_ m_ _ b_ mt_ c_ n0 _ h669 _ _ (mkF m_ 109 #[.val (.int p0), .val (.int p1), .val (.int p2), .val (.int p3), .val (.int x150), .val (.int z5), .val (.ref a6), .val (.int (3 : Int32)), .val (.int (0 : Int32)), .val (.ref a629), .unset, .unset, .unset, .unset, .unset] [])
        refine own_iload C (pc' := 111) at_109 rfl rfl ?_
        refine own_iconst C (pc' := 112) (v := (2 : Int32)) at_111 rfl (by decide) ?_
        refine own_ii_lt C (pc1 := 124) (pc2 := 115) at_112 rfl rfl (fun c682 => absurd c682 (by decide)) (fun c682 => ?_)
        refine own_aload C (pc' := 117) at_115 rfl rfl rfl ?_
        refine own_aload C (pc' := 119) at_117 rfl rfl rfl ?_
        refine own_iconst C (pc' := 120) (v := (1 : Int32)) at_119 rfl (by decide) ?_
        refine own_ldIV C (pc' := 121) F680 (i := 1) (v := x1) (by decide) (by decide) rfl at_120 rfl ?_
        refine own_callV C (pc' := 124) (y := (⟨"com/example/murmuration/murmuration/search/IndexedSet", "add", "(I)V"⟩ : MethodName)) (a := a629) (argsL := [(.int x1)]) (rest := []) 0 F672 (hw _ (List.mem_of_getElem? (i := 23) rfl)) (hw _ (List.mem_of_getElem? (i := 24) rfl)) (hw _ (List.mem_of_getElem? (i := 26) rfl)) (hw _ (List.mem_of_getElem? (i := 25) rfl)) (hw _ (List.mem_of_getElem? (i := 27) rfl)) (hw _ (List.mem_of_getElem? (i := 8) rfl)) (by decide) (own_m5 hw a629 a644 a645 3 (1 : Int32) (own_upd (fun _ => (0 : Int32)) 0 x0) (own_upd (fun _ => (-1 : Int32)) A0 (0 : Int32)) x1 A1 1 (2 : Int32) Z679 F672 ga631 ga647 ga649 ne661 ne663 F659 F673 F674 F675 F676 F677 hA1 (by omega) (by decide) (by decide) (by decide)) (by decide) (by decide) (lenOf own_pd2 rfl) rfl (Nat.le_of_eq rfl) at_121 rfl rfl (by decide) (by decide) (fun v683 h684 hq685 => ?_)
        obtain ⟨rfl, K686, F687, F688, F689, F690, F691, F692⟩ := hq685
        have Z694 : n0 ≤ h684.size := Nat.le_trans Z679 K686.1
        have F695 : own_AI Z h684 a6 3 (own_upd (own_upd (own_upd (fun _ => (0 : Int32)) 0 x0) 1 x1) 2 x2) := own_A.keep F680 K686 (ninS ne636 (ninS ne660 (ninS ne662 nin0)))
        have F696 : Exa Z h684 a629 "com/example/murmuration/murmuration/search/IndexedSet" := Exa.keep F672 K686
        show own_Run p_ l e_ _ s_ m_ _ b_ mt_ c_ n0 _ h684 _ _ (mkF m_ 124 #[.val (.int p0), .val (.int p1), .val (.int p2), .val (.int p3), .val (.int x150), .val (.int z5), .val (.ref a6), .val (.int (3 : Int32)), .val (.int (0 : Int32)), .val (.ref a629), .unset, .unset, .unset, .unset, .unset] [])
        refine own_iload C (pc' := 126) at_124 rfl rfl ?_
        refine own_iconst C (pc' := 127) (v := (3 : Int32)) at_126 rfl (by decide) ?_
        refine own_ii_lt C (pc1 := 139) (pc2 := 130) at_127 rfl rfl (fun c697 => absurd c697 (by decide)) (fun c697 => ?_)
        refine own_aload C (pc' := 132) at_130 rfl rfl rfl ?_
        refine own_aload C (pc' := 134) at_132 rfl rfl rfl ?_
        refine own_iconst C (pc' := 135) (v := (2 : Int32)) at_134 rfl (by decide) ?_
        refine own_ldIV C (pc' := 136) F695 (i := 2) (v := x2) (by decide) (by decide) rfl at_135 rfl ?_
        refine own_callV C (pc' := 139) (y := (⟨"com/example/murmuration/murmuration/search/IndexedSet", "add", "(I)V"⟩ : MethodName)) (a := a629) (argsL := [(.int x2)]) (rest := []) 0 F687 (hw _ (List.mem_of_getElem? (i := 23) rfl)) (hw _ (List.mem_of_getElem? (i := 24) rfl)) (hw _ (List.mem_of_getElem? (i := 26) rfl)) (hw _ (List.mem_of_getElem? (i := 25) rfl)) (hw _ (List.mem_of_getElem? (i := 27) rfl)) (hw _ (List.mem_of_getElem? (i := 8) rfl)) (by decide) (own_m5 hw a629 a644 a645 3 (2 : Int32) (own_upd (own_upd (fun _ => (0 : Int32)) 0 x0) 1 x1) (own_upd (own_upd (fun _ => (-1 : Int32)) A0 (0 : Int32)) A1 (1 : Int32)) x2 A2 2 (3 : Int32) Z694 F687 ga631 ga647 ga649 ne661 ne663 F659 F688 F689 F690 F691 F692 hA2 (by omega) (by decide) (by decide) (by decide)) (by decide) (by decide) (lenOf own_pd2 rfl) rfl (Nat.le_of_eq rfl) at_136 rfl rfl (by decide) (by decide) (fun v698 h699 hq700 => ?_)
        obtain ⟨rfl, K701, F702, F703, F704, F705, F706, F707⟩ := hq700
        have Z709 : n0 ≤ h699.size := Nat.le_trans Z694 K701.1
        have F710 : own_AI Z h699 a6 3 (own_upd (own_upd (own_upd (fun _ => (0 : Int32)) 0 x0) 1 x1) 2 x2) := own_A.keep F695 K701 (ninS ne636 (ninS ne660 (ninS ne662 nin0)))
        have F711 : Exa Z h699 a629 "com/example/murmuration/murmuration/search/IndexedSet" := Exa.keep F687 K701
        show own_Run p_ l e_ _ s_ m_ _ b_ mt_ c_ n0 _ h699 _ _ (mkF m_ 139 #[.val (.int p0), .val (.int p1), .val (.int p2), .val (.int p3), .val (.int x150), .val (.int z5), .val (.ref a6), .val (.int (3 : Int32)), .val (.int (0 : Int32)), .val (.ref a629), .unset, .unset, .unset, .unset, .unset] [])
        refine own_aload C (pc' := 141) at_139 rfl rfl rfl ?_
        refine own_aload C (pc' := 143) at_141 rfl rfl rfl ?_
        refine own_iload C (pc' := 145) at_143 rfl rfl ?_
        refine own_ldIV C (pc' := 146) F710 (i := 0) (v := x0) (by decide) (by decide) rfl at_145 rfl ?_
        refine own_callV C (pc' := 149) (y := (⟨"com/example/murmuration/murmuration/search/IndexedSet", "remove", "(I)V"⟩ : MethodName)) (a := a629) (argsL := [(.int x0)]) (rest := []) 0 F702 (hw _ (List.mem_of_getElem? (i := 30) rfl)) (hw _ (List.mem_of_getElem? (i := 31) rfl)) (hw _ (List.mem_of_getElem? (i := 33) rfl)) (hw _ (List.mem_of_getElem? (i := 32) rfl)) (hw _ (List.mem_of_getElem? (i := 34) rfl)) (hw _ (List.mem_of_getElem? (i := 8) rfl)) (by decide) (own_m6 hw a629 a644 a645 3 (3 : Int32) (own_upd (own_upd (own_upd (fun _ => (0 : Int32)) 0 x0) 1 x1) 2 x2) (own_upd (own_upd (own_upd (fun _ => (-1 : Int32)) A0 (0 : Int32)) A1 (1 : Int32)) A2 (2 : Int32)) x0 A0 2 (0 : Int32) x2 0 A2 (2 : Int32) Z709 F702 ga631 ga647 ga649 ne661 ne663 F659 F703 F704 F705 F706 F707 hA0 (by omega) (by simp [own_upd, d01, d02, d12, Ne.symm d01, Ne.symm d02, Ne.symm d12]) (by decide) (by decide) (by decide) (by decide) rfl hA2 (by omega) (by decide)) (by decide) (by decide) (lenOf own_pd2 rfl) rfl (Nat.le_of_eq rfl) at_146 rfl rfl (by decide) (by decide) (fun v712 h713 hq714 => ?_)
        obtain ⟨rfl, K715, F716, F717, F718, F719, F720, F721⟩ := hq714
        have Z723 : n0 ≤ h713.size := Nat.le_trans Z709 K715.1
        have F724 : own_AI Z h713 a6 3 (own_upd (own_upd (own_upd (fun _ => (0 : Int32)) 0 x0) 1 x1) 2 x2) := own_A.keep F710 K715 (ninS ne636 (ninS ne660 (ninS ne662 nin0)))
        have F725 : Exa Z h713 a629 "com/example/murmuration/murmuration/search/IndexedSet" := Exa.keep F702 K715
        show own_Run p_ l e_ _ s_ m_ _ b_ mt_ c_ n0 _ h713 _ _ (mkF m_ 149 #[.val (.int p0), .val (.int p1), .val (.int p2), .val (.int p3), .val (.int x150), .val (.int z5), .val (.ref a6), .val (.int (3 : Int32)), .val (.int (0 : Int32)), .val (.ref a629), .unset, .unset, .unset, .unset, .unset] [])
        refine own_iconst C (pc' := 150) (v := (2 : Int32)) at_149 rfl (by decide) ?_
        refine own_newAI C (pc' := 152) (hw _ (List.mem_of_getElem? (i := 5) rfl)) Z723 at_150 rfl (nn := 2) (cap := 2) (by decide) (by decide) (by decide) (by decide) (by decide) (fun h726 a727 ea728 ga729 Z730 E731 V732 => ?_)
        have ne733 : a6 ≠ a727 := by rw [ea728]; exact Nat.ne_of_lt (own_A.lt F724)
        have ne734 : a629 ≠ a727 := by rw [ea728]; exact Nat.ne_of_lt (Exa.lt F716)
        have ne735 : a644 ≠ a727 := by rw [ea728]; exact Nat.ne_of_lt (own_A.lt F720)
        have ne736 : a645 ≠ a727 := by rw [ea728]; exact Nat.ne_of_lt (own_A.lt F721)
        have F737 : own_AI Z h726 a6 3 (own_upd (own_upd (own_upd (fun _ => (0 : Int32)) 0 x0) 1 x1) 2 x2) := own_A.ext F724 E731
        have F738 : Exa Z h726 a629 "com/example/murmuration/murmuration/search/IndexedSet" := Exa.ext E731 F716
        have F739 : Fld Z h726 a629 "com/example/murmuration/murmuration/search/IndexedSet" "members" "[I" (.ref a644) := Fld.ext E731 F717
        have F740 : Fld Z h726 a629 "com/example/murmuration/murmuration/search/IndexedSet" "positions" "[I" (.ref a645) := Fld.ext E731 F718
        have F741 : Fld Z h726 a629 "com/example/murmuration/murmuration/search/IndexedSet" "size" "I" (.int (2 : Int32)) := Fld.ext E731 F719
        have F742 : own_AI Z h726 a644 3 (own_upd (own_upd (own_upd (own_upd (fun _ => (0 : Int32)) 0 x0) 1 x1) 2 x2) 0 x2) := own_A.ext F720 E731
        have F743 : own_AI Z h726 a645 3 (own_upd (own_upd (own_upd (own_upd (own_upd (fun _ => (-1 : Int32)) A0 (0 : Int32)) A1 (1 : Int32)) A2 (2 : Int32)) A2 (0 : Int32)) A0 (-1 : Int32)) := own_A.ext F721 E731
        refine own_astore C (pc' := 154) (Ls' := #[.val (.int p0), .val (.int p1), .val (.int p2), .val (.int p3), .val (.int x150), .val (.int z5), .val (.ref a6), .val (.int (3 : Int32)), .val (.int (0 : Int32)), .val (.ref a629), .val (.ref a727), .unset, .unset, .unset, .unset]) at_152 rfl rfl rfl ?_
        refine own_aload C (pc' := 156) at_154 rfl rfl rfl ?_
        refine own_iconst C (pc' := 157) (v := (0 : Int32)) at_156 rfl (by decide) ?_
        refine own_iload C (pc' := 159) at_157 rfl rfl ?_
        refine own_i0_ne C (pc1 := 172) (pc2 := 162) at_159 rfl rfl (fun c744 => absurd c744 (by decide)) (fun c744 => ?_)
        refine own_aload C (pc' := 164) at_162 rfl rfl rfl ?_
        refine own_iload C (pc' := 166) at_164 rfl rfl ?_
        refine own_iconst C (pc' := 167) (v := (1 : Int32)) at_166 rfl (by decide) ?_
        refine own_isubV C (pc' := 168) (v := (2 : Int32)) at_167 rfl (by decide) ?_
        refine own_ldIV C (pc' := 169) F737 (i := 2) (v := x2) (by decide) (by decide) rfl at_168 rfl ?_
        refine own_goto C (pc' := 176) at_169 rfl ?_
        refine own_stI C (pc' := 177) V732 (i := 0) (by decide) (by decide) ga729 at_176 rfl (fun h745 W746 V747 => ?_)
        have Z748 : n0 ≤ h745.size := Nat.le_trans Z730 (Nat.le_of_eq (Wr.size W746).symm)
        have F749 : own_AI Z h745 a6 3 (own_upd (own_upd (own_upd (fun _ => (0 : Int32)) 0 x0) 1 x1) 2 x2) := own_A.other F737 W746 ne733
        have F750 : Exa Z h745 a629 "com/example/murmuration/murmuration/search/IndexedSet" := Exa.wr W746 F738
        have F751 : Fld Z h745 a629 "com/example/murmuration/murmuration/search/IndexedSet" "members" "[I" (.ref a644) := Fld.other W746 F739 (Or.inl ne734)
        have F752 : Fld Z h745 a629 "com/example/murmuration/murmuration/search/IndexedSet" "positions" "[I" (.ref a645) := Fld.other W746 F740 (Or.inl ne734)
        have F753 : Fld Z h745 a629 "com/example/murmuration/murmuration/search/IndexedSet" "size" "I" (.int (2 : Int32)) := Fld.other W746 F741 (Or.inl ne734)
        have F754 : own_AI Z h745 a644 3 (own_upd (own_upd (own_upd (own_upd (fun _ => (0 : Int32)) 0 x0) 1 x1) 2 x2) 0 x2) := own_A.other F742 W746 ne735
        have F755 : own_AI Z h745 a645 3 (own_upd (own_upd (own_upd (own_upd (own_upd (fun _ => (-1 : Int32)) A0 (0 : Int32)) A1 (1 : Int32)) A2 (2 : Int32)) A2 (0 : Int32)) A0 (-1 : Int32)) := own_A.other F743 W746 ne736
        have F756 : own_AI Z h745 a727 2 (own_upd (fun _ => (0 : Int32)) 0 x2) := V747
        refine own_aload C (pc' := 179) at_177 rfl rfl rfl ?_
        refine own_iconst C (pc' := 180) (v := (1 : Int32)) at_179 rfl (by decide) ?_
        refine own_iload C (pc' := 182) at_180 rfl rfl ?_
        refine own_iconst C (pc' := 183) (v := (1 : Int32)) at_182 rfl (by decide) ?_
        refine own_ii_ne C (pc1 := 196) (pc2 := 186) at_183 rfl rfl (fun c757 => ?_) (fun c757 => absurd c757 (by decide))
        refine own_aload C (pc' := 198) at_196 rfl rfl rfl ?_
        refine own_iconst C (pc' := 199) (v := (1 : Int32)) at_198 rfl (by decide) ?_
        refine own_ldIV C (pc' := 200) F749 (i := 1) (v := x1) (by decide) (by decide) rfl at_199 rfl ?_
        refine own_stI C (pc' := 201) F756 (i := 1) (by decide) (by decide) ga729 at_200 rfl (fun h758 W759 V760 => ?_)
        have Z761 : n0 ≤ h758.size := Nat.le_trans Z748 (Nat.le_of_eq (Wr.size W759).symm)
        have F762 : own_AI Z h758 a6 3 (own_upd (own_upd (own_upd (fun _ => (0 : Int32)) 0 x0) 1 x1) 2 x2) := own_A.other F749 W759 ne733
        have F763 : Exa Z h758 a629 "com/example/murmuration/murmuration/search/IndexedSet" := Exa.wr W759 F750
        have F764 : Fld Z h758 a629 "com/example/murmuration/murmuration/search/IndexedSet" "members" "[I" (.ref a644) := Fld.other W759 F751 (Or.inl ne734)
        have F765 : Fld Z h758 a629 "com/example/murmuration/murmuration/search/IndexedSet" "positions" "[I" (.ref a645) := Fld.other W759 F752 (Or.inl ne734)
        have F766 : Fld Z h758 a629 "com/example/murmuration/murmuration/search/IndexedSet" "size" "I" (.int (2 : Int32)) := Fld.other W759 F753 (Or.inl ne734)
        have F767 : own_AI Z h758 a644 3 (own_upd (own_upd (own_upd (own_upd (fun _ => (0 : Int32)) 0 x0) 1 x1) 2 x2) 0 x2) := own_A.other F754 W759 ne735
        have F768 : own_AI Z h758 a645 3 (own_upd (own_upd (own_upd (own_upd (own_upd (fun _ => (-1 : Int32)) A0 (0 : Int32)) A1 (1 : Int32)) A2 (2 : Int32)) A2 (0 : Int32)) A0 (-1 : Int32)) := own_A.other F755 W759 ne736
        have F769 : own_AI Z h758 a727 2 (own_upd (own_upd (fun _ => (0 : Int32)) 0 x2) 1 x1) := V760
        refine own_aload C (pc' := 203) at_201 rfl rfl rfl ?_
        refine own_aload C (pc' := 205) at_203 rfl rfl rfl ?_
        refine own_iload C (pc' := 207) at_205 rfl rfl ?_
        refine own_ldIV C (pc' := 208) F762 (i := 0) (v := x0) (by decide) (by decide) rfl at_207 rfl ?_
        refine own_callV C (pc' := 211) (y := (⟨"com/example/murmuration/murmuration/search/IndexedSet", "contains", "(I)Z"⟩ : MethodName)) (a := a629) (argsL := [(.int x0)]) (rest := []) 0 F763 (hw _ (List.mem_of_getElem? (i := 35) rfl)) (hw _ (List.mem_of_getElem? (i := 36) rfl)) (hw _ (List.mem_of_getElem? (i := 38) rfl)) (hw _ (List.mem_of_getElem? (i := 37) rfl)) (hw _ (List.mem_of_getElem? (i := 39) rfl)) (hw _ (List.mem_of_getElem? (i := 8) rfl)) (by decide) (own_m7 hw a629 a645 3 (own_upd (own_upd (own_upd (own_upd (own_upd (fun _ => (-1 : Int32)) A0 (0 : Int32)) A1 (1 : Int32)) A2 (2 : Int32)) A2 (0 : Int32)) A0 (-1 : Int32)) x0 A0 (0 : Int32) Z761 F765 F768 hA0 (by omega) (by simp [own_upd, d01, d02, d12, Ne.symm d01, Ne.symm d02, Ne.symm d12])) (by decide) (by decide) (lenOf own_pd3 rfl) rfl (Nat.le_of_eq rfl) at_208 rfl rfl (by decide) (by decide) (fun v770 h771 hq772 => ?_)
        obtain ⟨rfl, rfl⟩ := hq772
        show own_Run p_ l e_ _ s_ m_ _ b_ mt_ c_ n0 _ h758 _ _ (mkF m_ 211 #[.val (.int p0), .val (.int p1), .val (.int p2), .val (.int p3), .val (.int x150), .val (.int z5), .val (.ref a6), .val (.int (3 : Int32)), .val (.int (0 : Int32)), .val (.ref a629), .val (.ref a727), .unset, .unset, .unset, .unset] [(.int (0 : Int32))])
        refine own_i0_ne C (pc1 := 218) (pc2 := 214) at_211 rfl rfl (fun c773 => absurd c773 (by decide)) (fun c773 => ?_)
        refine own_iconst C (pc' := 215) (v := (1 : Int32)) at_214 rfl (by decide) ?_
        refine own_goto C (pc' := 219) at_215 rfl ?_
        refine own_istore C (pc' := 221) (Ls' := #[.val (.int p0), .val (.int p1), .val (.int p2), .val (.int p3), .val (.int x150), .val (.int z5), .val (.ref a6), .val (.int (3 : Int32)), .val (.int (0 : Int32)), .val (.ref a629), .val (.ref a727), .val (.int (1 : Int32)), .unset, .unset, .unset]) at_219 rfl rfl ?_
        refine own_iload C (pc' := 223) at_221 rfl rfl ?_
        refine own_iconst C (pc' := 224) (v := (2 : Int32)) at_223 rfl (by decide) ?_
        refine own_ii_lt C (pc1 := 252) (pc2 := 227) at_224 rfl rfl (fun c774 => absurd c774 (by decide)) (fun c774 => ?_)
        refine own_iload C (pc' := 229) at_227 rfl rfl ?_
        refine own_i0_eq C (pc1 := 249) (pc2 := 232) at_229 rfl rfl (fun c775 => absurd c775 (by decide)) (fun c775 => ?_)
        refine own_aload C (pc' := 234) at_232 rfl rfl rfl ?_
        refine own_iconst C (pc' := 235) (v := (0 : Int32)) at_234 rfl (by decide) ?_
        refine own_callV C (pc' := 238) (y := (⟨"com/example/murmuration/murmuration/search/IndexedSet", "get", "(I)I"⟩ : MethodName)) (a := a629) (argsL := [(.int (0 : Int32))]) (rest := []) 0 F763 (hw _ (List.mem_of_getElem? (i := 45) rfl)) (hw _ (List.mem_of_getElem? (i := 46) rfl)) (hw _ (List.mem_of_getElem? (i := 48) rfl)) (hw _ (List.mem_of_getElem? (i := 47) rfl)) (hw _ (List.mem_of_getElem? (i := 49) rfl)) (hw _ (List.mem_of_getElem? (i := 8) rfl)) (by decide) (own_m9 hw a629 a644 3 (own_upd (own_upd (own_upd (own_upd (fun _ => (0 : Int32)) 0 x0) 1 x1) 2 x2) 0 x2) (0 : Int32) 0 x2 Z761 F764 F767 (by decide) (by decide) rfl) (by decide) (by decide) (lenOf own_pd5 rfl) rfl (Nat.le_of_eq rfl) at_235 rfl rfl (by decide) (by decide) (fun v776 h777 hq778 => ?_)
        obtain ⟨rfl, rfl⟩ := hq778
        show own_Run p_ l e_ _ s_ m_ _ b_ mt_ c_ n0 _ h758 _ _ (mkF m_ 238 #[.val (.int p0), .val (.int p1), .val (.int p2), .val (.int p3), .val (.int x150), .val (.int z5), .val (.ref a6), .val (.int (3 : Int32)), .val (.int (0 : Int32)), .val (.ref a629), .val (.ref a727), .val (.int (1 : Int32)), .unset, .unset, .unset] [(.int x2)])
        refine own_aload C (pc' := 240) at_238 rfl rfl rfl ?_
        refine own_iconst C (pc' := 241) (v := (0 : Int32)) at_240 rfl (by decide) ?_
        refine own_ldIV C (pc' := 242) F769 (i := 0) (v := x2) (by decide) (by decide) rfl at_241 rfl ?_
        refine own_ii_ne C (pc1 := 249) (pc2 := 245) at_242 rfl rfl (fun c779 => absurd c779 (not_not_intro rfl)) (fun c779 => ?_)
        refine own_iconst C (pc' := 246) (v := (1 : Int32)) at_245 rfl (by decide) ?_
        refine own_goto C (pc' := 250) at_246 rfl ?_
        refine own_istore C (pc' := 252) (Ls' := #[.val (.int p0), .val (.int p1), .val (.int p2), .val (.int p3), .val (.int x150), .val (.int z5), .val (.ref a6), .val (.int (3 : Int32)), .val (.int (0 : Int32)), .val (.ref a629), .val (.ref a727), .val (.int (1 : Int32)), .unset, .unset, .unset]) at_250 rfl rfl ?_
        refine own_iload C (pc' := 254) at_252 rfl rfl ?_
        refine own_iconst C (pc' := 255) (v := (3 : Int32)) at_254 rfl (by decide) ?_
        refine own_ii_lt C (pc1 := 283) (pc2 := 258) at_255 rfl rfl (fun c780 => absurd c780 (by decide)) (fun c780 => ?_)
        refine own_iload C (pc' := 260) at_258 rfl rfl ?_
        refine own_i0_eq C (pc1 := 280) (pc2 := 263) at_260 rfl rfl (fun c781 => absurd c781 (by decide)) (fun c781 => ?_)
        refine own_aload C (pc' := 265) at_263 rfl rfl rfl ?_
        refine own_iconst C (pc' := 266) (v := (1 : Int32)) at_265 rfl (by decide) ?_
        refine own_callV C (pc' := 269) (y := (⟨"com/example/murmuration/murmuration/search/IndexedSet", "get", "(I)I"⟩ : MethodName)) (a := a629) (argsL := [(.int (1 : Int32))]) (rest := []) 0 F763 (hw _ (List.mem_of_getElem? (i := 45) rfl)) (hw _ (List.mem_of_getElem? (i := 46) rfl)) (hw _ (List.mem_of_getElem? (i := 48) rfl)) (hw _ (List.mem_of_getElem? (i := 47) rfl)) (hw _ (List.mem_of_getElem? (i := 49) rfl)) (hw _ (List.mem_of_getElem? (i := 8) rfl)) (by decide) (own_m9 hw a629 a644 3 (own_upd (own_upd (own_upd (own_upd (fun _ => (0 : Int32)) 0 x0) 1 x1) 2 x2) 0 x2) (1 : Int32) 1 x1 Z761 F764 F767 (by decide) (by decide) rfl) (by decide) (by decide) (lenOf own_pd5 rfl) rfl (Nat.le_of_eq rfl) at_266 rfl rfl (by decide) (by decide) (fun v782 h783 hq784 => ?_)
        obtain ⟨rfl, rfl⟩ := hq784
        show own_Run p_ l e_ _ s_ m_ _ b_ mt_ c_ n0 _ h758 _ _ (mkF m_ 269 #[.val (.int p0), .val (.int p1), .val (.int p2), .val (.int p3), .val (.int x150), .val (.int z5), .val (.ref a6), .val (.int (3 : Int32)), .val (.int (0 : Int32)), .val (.ref a629), .val (.ref a727), .val (.int (1 : Int32)), .unset, .unset, .unset] [(.int x1)])
        refine own_aload C (pc' := 271) at_269 rfl rfl rfl ?_
        refine own_iconst C (pc' := 272) (v := (1 : Int32)) at_271 rfl (by decide) ?_
        refine own_ldIV C (pc' := 273) F769 (i := 1) (v := x1) (by decide) (by decide) rfl at_272 rfl ?_
        refine own_ii_ne C (pc1 := 280) (pc2 := 276) at_273 rfl rfl (fun c785 => absurd c785 (not_not_intro rfl)) (fun c785 => ?_)
        refine own_iconst C (pc' := 277) (v := (1 : Int32)) at_276 rfl (by decide) ?_
        refine own_goto C (pc' := 281) at_277 rfl ?_
        refine own_istore C (pc' := 283) (Ls' := #[.val (.int p0), .val (.int p1), .val (.int p2), .val (.int p3), .val (.int x150), .val (.int z5), .val (.ref a6), .val (.int (3 : Int32)), .val (.int (0 : Int32)), .val (.ref a629), .val (.ref a727), .val (.int (1 : Int32)), .unset, .unset, .unset]) at_281 rfl rfl ?_
        refine own_iload C (pc' := 285) at_283 rfl rfl ?_
        refine own_iconst C (pc' := 286) (v := (1 : Int32)) at_285 rfl (by decide) ?_
        refine own_isubV C (pc' := 287) (v := (2 : Int32)) at_286 rfl (by decide) ?_
        refine own_istore C (pc' := 289) (Ls' := #[.val (.int p0), .val (.int p1), .val (.int p2), .val (.int p3), .val (.int x150), .val (.int z5), .val (.ref a6), .val (.int (3 : Int32)), .val (.int (0 : Int32)), .val (.ref a629), .val (.ref a727), .val (.int (1 : Int32)), .val (.int (2 : Int32)), .unset, .unset]) at_287 rfl rfl ?_
        refine own_iload C (pc' := 291) at_289 rfl rfl ?_
        refine own_iconst C (pc' := 292) (v := (2 : Int32)) at_291 rfl (by decide) ?_
        refine own_ii_lt C (pc1 := 371) (pc2 := 295) at_292 rfl rfl (fun c786 => absurd c786 (by decide)) (fun c786 => ?_)
        refine own_iloadN C (pc' := 296) at_295 rfl rfl ?_
        refine own_iload C (pc' := 298) at_296 rfl rfl ?_
        refine own_iconst C (pc' := 299) (v := (1 : Int32)) at_298 rfl (by decide) ?_
        refine own_isubV C (pc' := 300) (v := (2 : Int32)) at_299 rfl (by decide) ?_
        refine own_callS C (pc' := 303) (y := (⟨"com/example/murmuration/murmuration/search/IndexedSetRemovePinLaw", "mod", "(II)I"⟩ : MethodName)) (argsL := [(.int p3), (.int (2 : Int32))]) (rest := []) 0 (hw _ (List.mem_of_getElem? (i := 0) rfl)) (hw _ (List.mem_of_getElem? (i := 1) rfl)) (hw _ (List.mem_of_getElem? (i := 2) rfl)) (hw _ (List.mem_of_getElem? (i := 3) rfl)) (by decide) (own_m1 hw p3 (2 : Int32)   (by decide)) (by decide) (by decide) (lenOf own_pd1 rfl) rfl (Nat.le_of_eq rfl) at_300 rfl rfl (by decide) (by decide) (fun v787 h788 hq789 => ?_)
        obtain ⟨rfl, rfl⟩ := hq789
        show own_Run p_ l e_ _ s_ m_ _ b_ mt_ c_ n0 _ h758 _ _ (mkF m_ 303 #[.val (.int p0), .val (.int p1), .val (.int p2), .val (.int p3), .val (.int x150), .val (.int z5), .val (.ref a6), .val (.int (3 : Int32)), .val (.int (0 : Int32)), .val (.ref a629), .val (.ref a727), .val (.int (1 : Int32)), .val (.int (2 : Int32)), .unset, .unset] [(.int ((p3 &&& (2147483647 : Int32)) % (2 : Int32)))])
        refine own_istore C (pc' := 305) (Ls' := #[.val (.int p0), .val (.int p1), .val (.int p2), .val (.int p3), .val (.int x150), .val (.int z5), .val (.ref a6), .val (.int (3 : Int32)), .val (.int (0 : Int32)), .val (.ref a629), .val (.ref a727), .val (.int (1 : Int32)), .val (.int (2 : Int32)), .val (.int ((p3 &&& (2147483647 : Int32)) % (2 : Int32))), .unset]) at_303 rfl rfl ?_
        rcases own_md2 p3 with e790 | e790
        · skip
          rw [e790]
          show own_Run p_ l e_ _ s_ m_ _ b_ mt_ c_ n0 _ h758 _ _ (mkF m_ 305 #[.val (.int p0), .val (.int p1), .val (.int p2), .val (.int p3), .val (.int x150), .val (.int z5), .val (.ref a6), .val (.int (3 : Int32)), .val (.int (0 : Int32)), .val (.ref a629), .val (.ref a727), .val (.int (1 : Int32)), .val (.int (2 : Int32)), .val (.int (0 : Int32)), .unset] [])
          refine own_aload C (pc' := 307) at_305 rfl rfl rfl ?_
          refine own_aload C (pc' := 309) at_307 rfl rfl rfl ?_
          refine own_iload C (pc' := 311) at_309 rfl rfl ?_
          refine own_ldIV C (pc' := 312) F769 (i := 0) (v := x2) (by decide) (by decide) rfl at_311 rfl ?_
          refine own_callV C (pc' := 315) (y := (⟨"com/example/murmuration/murmuration/search/IndexedSet", "remove", "(I)V"⟩ : MethodName)) (a := a629) (argsL := [(.int x2)]) (rest := []) 0 F763 (hw _ (List.mem_of_getElem? (i := 30) rfl)) (hw _ (List.mem_of_getElem? (i := 31) rfl)) (hw _ (List.mem_of_getElem? (i := 33) rfl)) (hw _ (List.mem_of_getElem? (i := 32) rfl)) (hw _ (List.mem_of_getElem? (i := 34) rfl)) (hw _ (List.mem_of_getElem? (i := 8) rfl)) (by decide) (own_m6 hw a629 a644 a645 3 (2 : Int32) (own_upd (own_upd (own_upd (own_upd (fun _ => (0 : Int32)) 0 x0) 1 x1) 2 x2) 0 x2) (own_upd (own_upd (own_upd (own_upd (own_upd (fun _ => (-1 : Int32)) A0 (0 : Int32)) A1 (1 : Int32)) A2 (2 : Int32)) A2 (0 : Int32)) A0 (-1 : Int32)) x2 A2 1 (0 : Int32) x1 0 A1 (1 : Int32) Z761 F763 ga631 ga647 ga649 ne661 ne663 F659 F764 F765 F766 F767 F768 hA2 (by omega) (by simp [own_upd, d01, d02, d12, Ne.symm d01, Ne.symm d02, Ne.symm d12]) (by decide) (by decide) (by decide) (by decide) rfl hA1 (by omega) (by decide)) (by decide) (by decide) (lenOf own_pd2 rfl) rfl (Nat.le_of_eq rfl) at_312 rfl rfl (by decide) (by decide) (fun v791 h792 hq793 => ?_)
          obtain ⟨rfl, K794, F795, F796, F797, F798, F799, F800⟩ := hq793
          have Z802 : n0 ≤ h792.size := Nat.le_trans Z761 K794.1
          have F803 : own_AI Z h792 a6 3 (own_upd (own_upd (own_upd (fun _ => (0 : Int32)) 0 x0) 1 x1) 2 x2) := own_A.keep F762 K794 (ninS ne636 (ninS ne660 (ninS ne662 nin0)))
          have F804 : Exa Z h792 a629 "com/example/murmuration/murmuration/search/IndexedSet" := Exa.keep F763 K794
          have F805 : own_AI Z h792 a727 2 (own_upd (own_upd (fun _ => (0 : Int32)) 0 x2) 1 x1) := own_A.keep F769 K794 (ninS (Ne.symm ne734) (ninS (Ne.symm ne735) (ninS (Ne.symm ne736) nin0)))
          show own_Run p_ l e_ _ s_ m_ _ b_ mt_ c_ n0 _ h792 _ _ (mkF m_ 315 #[.val (.int p0), .val (.int p1), .val (.int p2), .val (.int p3), .val (.int x150), .val (.int z5), .val (.ref a6), .val (.int (3 : Int32)), .val (.int (0 : Int32)), .val (.ref a629), .val (.ref a727), .val (.int (1 : Int32)), .val (.int (2 : Int32)), .val (.int (0 : Int32)), .unset] [])
          refine own_iload C (pc' := 317) at_315 rfl rfl ?_
          refine own_i0_ne C (pc1 := 330) (pc2 := 320) at_317 rfl rfl (fun c806 => absurd c806 (by decide)) (fun c806 => ?_)
          refine own_aload C (pc' := 322) at_320 rfl rfl rfl ?_
          refine own_iload C (pc' := 324) at_322 rfl rfl ?_
          refine own_iconst C (pc' := 325) (v := (2 : Int32)) at_324 rfl (by decide) ?_
          refine own_isubV C (pc' := 326) (v := (1 : Int32)) at_325 rfl (by decide) ?_
          refine own_ldIV C (pc' := 327) F805 (i := 1) (v := x1) (by decide) (by decide) rfl at_326 rfl ?_
          refine own_goto C (pc' := 334) at_327 rfl ?_
          refine own_istore C (pc' := 336) (Ls' := #[.val (.int p0), .val (.int p1), .val (.int p2), .val (.int p3), .val (.int x150), .val (.int z5), .val (.ref a6), .val (.int (3 : Int32)), .val (.int (0 : Int32)), .val (.ref a629), .val (.ref a727), .val (.int (1 : Int32)), .val (.int (2 : Int32)), .val (.int (0 : Int32)), .val (.int x1)]) at_334 rfl rfl ?_
          refine own_iload C (pc' := 338) at_336 rfl rfl ?_
          refine own_iconst C (pc' := 339) (v := (3 : Int32)) at_338 rfl (by decide) ?_
          refine own_ii_lt C (pc1 := 365) (pc2 := 342) at_339 rfl rfl (fun c807 => absurd c807 (by decide)) (fun c807 => ?_)
          refine own_iload C (pc' := 344) at_342 rfl rfl ?_
          refine own_i0_eq C (pc1 := 362) (pc2 := 347) at_344 rfl rfl (fun c808 => absurd c808 (by decide)) (fun c808 => ?_)
          refine own_aload C (pc' := 349) at_347 rfl rfl rfl ?_
          refine own_iconst C (pc' := 350) (v := (0 : Int32)) at_349 rfl (by decide) ?_
          refine own_callV C (pc' := 353) (y := (⟨"com/example/murmuration/murmuration/search/IndexedSet", "get", "(I)I"⟩ : MethodName)) (a := a629) (argsL := [(.int (0 : Int32))]) (rest := []) 0 F795 (hw _ (List.mem_of_getElem? (i := 45) rfl)) (hw _ (List.mem_of_getElem? (i := 46) rfl)) (hw _ (List.mem_of_getElem? (i := 48) rfl)) (hw _ (List.mem_of_getElem? (i := 47) rfl)) (hw _ (List.mem_of_getElem? (i := 49) rfl)) (hw _ (List.mem_of_getElem? (i := 8) rfl)) (by decide) (own_m9 hw a629 a644 3 (own_upd (own_upd (own_upd (own_upd (own_upd (fun _ => (0 : Int32)) 0 x0) 1 x1) 2 x2) 0 x2) 0 x1) (0 : Int32) 0 x1 Z802 F796 F799 (by decide) (by decide) rfl) (by decide) (by decide) (lenOf own_pd5 rfl) rfl (Nat.le_of_eq rfl) at_350 rfl rfl (by decide) (by decide) (fun v809 h810 hq811 => ?_)
          obtain ⟨rfl, rfl⟩ := hq811
          show own_Run p_ l e_ _ s_ m_ _ b_ mt_ c_ n0 _ h792 _ _ (mkF m_ 353 #[.val (.int p0), .val (.int p1), .val (.int p2), .val (.int p3), .val (.int x150), .val (.int z5), .val (.ref a6), .val (.int (3 : Int32)), .val (.int (0 : Int32)), .val (.ref a629), .val (.ref a727), .val (.int (1 : Int32)), .val (.int (2 : Int32)), .val (.int (0 : Int32)), .val (.int x1)] [(.int x1)])
          refine own_iload C (pc' := 355) at_353 rfl rfl ?_
          refine own_ii_ne C (pc1 := 362) (pc2 := 358) at_355 rfl rfl (fun c812 => absurd c812 (not_not_intro rfl)) (fun c812 => ?_)
          refine own_iconst C (pc' := 359) (v := (1 : Int32)) at_358 rfl (by decide) ?_
          refine own_goto C (pc' := 363) at_359 rfl ?_
          refine own_istore C (pc' := 365) (Ls' := #[.val (.int p0), .val (.int p1), .val (.int p2), .val (.int p3), .val (.int x150), .val (.int z5), .val (.ref a6), .val (.int (3 : Int32)), .val (.int (0 : Int32)), .val (.ref a629), .val (.ref a727), .val (.int (1 : Int32)), .val (.int (2 : Int32)), .val (.int (0 : Int32)), .val (.int x1)]) at_363 rfl rfl ?_
          refine own_iload C (pc' := 367) at_365 rfl rfl ?_
          refine own_iconst C (pc' := 368) (v := (2 : Int32)) at_367 rfl (by decide) ?_
          refine own_isubV C (pc' := 369) (v := (1 : Int32)) at_368 rfl (by decide) ?_
          refine own_istore C (pc' := 371) (Ls' := #[.val (.int p0), .val (.int p1), .val (.int p2), .val (.int p3), .val (.int x150), .val (.int z5), .val (.ref a6), .val (.int (3 : Int32)), .val (.int (0 : Int32)), .val (.ref a629), .val (.ref a727), .val (.int (1 : Int32)), .val (.int (1 : Int32)), .val (.int (0 : Int32)), .val (.int x1)]) at_369 rfl rfl ?_
          refine own_iload C (pc' := 373) at_371 rfl rfl ?_
          refine own_i0_eq C (pc1 := 390) (pc2 := 376) at_373 rfl rfl (fun c813 => absurd c813 (by decide)) (fun c813 => ?_)
          refine own_aload C (pc' := 378) at_376 rfl rfl rfl ?_
          refine own_callV C (pc' := 381) (y := (⟨"com/example/murmuration/murmuration/search/IndexedSet", "size", "()I"⟩ : MethodName)) (a := a629) (argsL := []) (rest := []) 0 F795 (hw _ (List.mem_of_getElem? (i := 40) rfl)) (hw _ (List.mem_of_getElem? (i := 41) rfl)) (hw _ (List.mem_of_getElem? (i := 43) rfl)) (hw _ (List.mem_of_getElem? (i := 42) rfl)) (hw _ (List.mem_of_getElem? (i := 44) rfl)) (hw _ (List.mem_of_getElem? (i := 8) rfl)) (by decide) (own_m8 hw a629 (1 : Int32) Z802 F798 ) (by decide) (by decide) (lenOf own_pd4 rfl) rfl (Nat.le_of_eq rfl) at_378 rfl rfl (by decide) (by decide) (fun v814 h815 hq816 => ?_)
          obtain ⟨rfl, rfl⟩ := hq816
          show own_Run p_ l e_ _ s_ m_ _ b_ mt_ c_ n0 _ h792 _ _ (mkF m_ 381 #[.val (.int p0), .val (.int p1), .val (.int p2), .val (.int p3), .val (.int x150), .val (.int z5), .val (.ref a6), .val (.int (3 : Int32)), .val (.int (0 : Int32)), .val (.ref a629), .val (.ref a727), .val (.int (1 : Int32)), .val (.int (1 : Int32)), .val (.int (0 : Int32)), .val (.int x1)] [(.int (1 : Int32))])
          refine own_iload C (pc' := 383) at_381 rfl rfl ?_
          refine own_ii_ne C (pc1 := 390) (pc2 := 386) at_383 rfl rfl (fun c817 => absurd c817 (by decide)) (fun c817 => ?_)
          refine own_iconst C (pc' := 387) (v := (1 : Int32)) at_386 rfl (by decide) ?_
          refine own_goto C (pc' := 391) at_387 rfl ?_
          refine own_istore C (pc' := 393) (Ls' := #[.val (.int p0), .val (.int p1), .val (.int p2), .val (.int p3), .val (.int x150), .val (.int z5), .val (.ref a6), .val (.int (3 : Int32)), .val (.int (0 : Int32)), .val (.ref a629), .val (.ref a727), .val (.int (1 : Int32)), .val (.int (1 : Int32)), .val (.int (0 : Int32)), .val (.int x1)]) at_391 rfl rfl ?_
          refine own_iload C (pc' := 395) at_393 rfl rfl ?_
          exact own_ret C (t := .boolean) rfl rfl (Or.inl ⟨rfl, by simp, _, rfl⟩) at_395 (by decide) (by decide) (rfl)
        · skip
          rw [e790]
          show own_Run p_ l e_ _ s_ m_ _ b_ mt_ c_ n0 _ h758 _ _ (mkF m_ 305 #[.val (.int p0), .val (.int p1), .val (.int p2), .val (.int p3), .val (.int x150), .val (.int z5), .val (.ref a6), .val (.int (3 : Int32)), .val (.int (0 : Int32)), .val (.ref a629), .val (.ref a727), .val (.int (1 : Int32)), .val (.int (2 : Int32)), .val (.int (1 : Int32)), .unset] [])
          refine own_aload C (pc' := 307) at_305 rfl rfl rfl ?_
          refine own_aload C (pc' := 309) at_307 rfl rfl rfl ?_
          refine own_iload C (pc' := 311) at_309 rfl rfl ?_
          refine own_ldIV C (pc' := 312) F769 (i := 1) (v := x1) (by decide) (by decide) rfl at_311 rfl ?_
          refine own_callV C (pc' := 315) (y := (⟨"com/example/murmuration/murmuration/search/IndexedSet", "remove", "(I)V"⟩ : MethodName)) (a := a629) (argsL := [(.int x1)]) (rest := []) 0 F763 (hw _ (List.mem_of_getElem? (i := 30) rfl)) (hw _ (List.mem_of_getElem? (i := 31) rfl)) (hw _ (List.mem_of_getElem? (i := 33) rfl)) (hw _ (List.mem_of_getElem? (i := 32) rfl)) (hw _ (List.mem_of_getElem? (i := 34) rfl)) (hw _ (List.mem_of_getElem? (i := 8) rfl)) (by decide) (own_m6 hw a629 a644 a645 3 (2 : Int32) (own_upd (own_upd (own_upd (own_upd (fun _ => (0 : Int32)) 0 x0) 1 x1) 2 x2) 0 x2) (own_upd (own_upd (own_upd (own_upd (own_upd (fun _ => (-1 : Int32)) A0 (0 : Int32)) A1 (1 : Int32)) A2 (2 : Int32)) A2 (0 : Int32)) A0 (-1 : Int32)) x1 A1 1 (1 : Int32) x1 1 A1 (1 : Int32) Z761 F763 ga631 ga647 ga649 ne661 ne663 F659 F764 F765 F766 F767 F768 hA1 (by omega) (by simp [own_upd, d01, d02, d12, Ne.symm d01, Ne.symm d02, Ne.symm d12]) (by decide) (by decide) (by decide) (by decide) rfl hA1 (by omega) (by decide)) (by decide) (by decide) (lenOf own_pd2 rfl) rfl (Nat.le_of_eq rfl) at_312 rfl rfl (by decide) (by decide) (fun v818 h819 hq820 => ?_)
          obtain ⟨rfl, K821, F822, F823, F824, F825, F826, F827⟩ := hq820
          have Z829 : n0 ≤ h819.size := Nat.le_trans Z761 K821.1
          have F830 : own_AI Z h819 a6 3 (own_upd (own_upd (own_upd (fun _ => (0 : Int32)) 0 x0) 1 x1) 2 x2) := own_A.keep F762 K821 (ninS ne636 (ninS ne660 (ninS ne662 nin0)))
          have F831 : Exa Z h819 a629 "com/example/murmuration/murmuration/search/IndexedSet" := Exa.keep F763 K821
          have F832 : own_AI Z h819 a727 2 (own_upd (own_upd (fun _ => (0 : Int32)) 0 x2) 1 x1) := own_A.keep F769 K821 (ninS (Ne.symm ne734) (ninS (Ne.symm ne735) (ninS (Ne.symm ne736) nin0)))
          show own_Run p_ l e_ _ s_ m_ _ b_ mt_ c_ n0 _ h819 _ _ (mkF m_ 315 #[.val (.int p0), .val (.int p1), .val (.int p2), .val (.int p3), .val (.int x150), .val (.int z5), .val (.ref a6), .val (.int (3 : Int32)), .val (.int (0 : Int32)), .val (.ref a629), .val (.ref a727), .val (.int (1 : Int32)), .val (.int (2 : Int32)), .val (.int (1 : Int32)), .unset] [])
          refine own_iload C (pc' := 317) at_315 rfl rfl ?_
          refine own_i0_ne C (pc1 := 330) (pc2 := 320) at_317 rfl rfl (fun c833 => ?_) (fun c833 => absurd c833 (by decide))
          refine own_aload C (pc' := 332) at_330 rfl rfl rfl ?_
          refine own_iconst C (pc' := 333) (v := (0 : Int32)) at_332 rfl (by decide) ?_
          refine own_ldIV C (pc' := 334) F832 (i := 0) (v := x2) (by decide) (by decide) rfl at_333 rfl ?_
          refine own_istore C (pc' := 336) (Ls' := #[.val (.int p0), .val (.int p1), .val (.int p2), .val (.int p3), .val (.int x150), .val (.int z5), .val (.ref a6), .val (.int (3 : Int32)), .val (.int (0 : Int32)), .val (.ref a629), .val (.ref a727), .val (.int (1 : Int32)), .val (.int (2 : Int32)), .val (.int (1 : Int32)), .val (.int x2)]) at_334 rfl rfl ?_
          refine own_iload C (pc' := 338) at_336 rfl rfl ?_
          refine own_iconst C (pc' := 339) (v := (3 : Int32)) at_338 rfl (by decide) ?_
          refine own_ii_lt C (pc1 := 365) (pc2 := 342) at_339 rfl rfl (fun c834 => absurd c834 (by decide)) (fun c834 => ?_)
          refine own_iload C (pc' := 344) at_342 rfl rfl ?_
          refine own_i0_eq C (pc1 := 362) (pc2 := 347) at_344 rfl rfl (fun c835 => absurd c835 (by decide)) (fun c835 => ?_)
          refine own_aload C (pc' := 349) at_347 rfl rfl rfl ?_
          refine own_iconst C (pc' := 350) (v := (0 : Int32)) at_349 rfl (by decide) ?_
          refine own_callV C (pc' := 353) (y := (⟨"com/example/murmuration/murmuration/search/IndexedSet", "get", "(I)I"⟩ : MethodName)) (a := a629) (argsL := [(.int (0 : Int32))]) (rest := []) 0 F822 (hw _ (List.mem_of_getElem? (i := 45) rfl)) (hw _ (List.mem_of_getElem? (i := 46) rfl)) (hw _ (List.mem_of_getElem? (i := 48) rfl)) (hw _ (List.mem_of_getElem? (i := 47) rfl)) (hw _ (List.mem_of_getElem? (i := 49) rfl)) (hw _ (List.mem_of_getElem? (i := 8) rfl)) (by decide) (own_m9 hw a629 a644 3 (own_upd (own_upd (own_upd (own_upd (own_upd (fun _ => (0 : Int32)) 0 x0) 1 x1) 2 x2) 0 x2) 1 x1) (0 : Int32) 0 x2 Z829 F823 F826 (by decide) (by decide) rfl) (by decide) (by decide) (lenOf own_pd5 rfl) rfl (Nat.le_of_eq rfl) at_350 rfl rfl (by decide) (by decide) (fun v836 h837 hq838 => ?_)
          obtain ⟨rfl, rfl⟩ := hq838
          show own_Run p_ l e_ _ s_ m_ _ b_ mt_ c_ n0 _ h819 _ _ (mkF m_ 353 #[.val (.int p0), .val (.int p1), .val (.int p2), .val (.int p3), .val (.int x150), .val (.int z5), .val (.ref a6), .val (.int (3 : Int32)), .val (.int (0 : Int32)), .val (.ref a629), .val (.ref a727), .val (.int (1 : Int32)), .val (.int (2 : Int32)), .val (.int (1 : Int32)), .val (.int x2)] [(.int x2)])
          refine own_iload C (pc' := 355) at_353 rfl rfl ?_
          refine own_ii_ne C (pc1 := 362) (pc2 := 358) at_355 rfl rfl (fun c839 => absurd c839 (not_not_intro rfl)) (fun c839 => ?_)
          refine own_iconst C (pc' := 359) (v := (1 : Int32)) at_358 rfl (by decide) ?_
          refine own_goto C (pc' := 363) at_359 rfl ?_
          refine own_istore C (pc' := 365) (Ls' := #[.val (.int p0), .val (.int p1), .val (.int p2), .val (.int p3), .val (.int x150), .val (.int z5), .val (.ref a6), .val (.int (3 : Int32)), .val (.int (0 : Int32)), .val (.ref a629), .val (.ref a727), .val (.int (1 : Int32)), .val (.int (2 : Int32)), .val (.int (1 : Int32)), .val (.int x2)]) at_363 rfl rfl ?_
          refine own_iload C (pc' := 367) at_365 rfl rfl ?_
          refine own_iconst C (pc' := 368) (v := (2 : Int32)) at_367 rfl (by decide) ?_
          refine own_isubV C (pc' := 369) (v := (1 : Int32)) at_368 rfl (by decide) ?_
          refine own_istore C (pc' := 371) (Ls' := #[.val (.int p0), .val (.int p1), .val (.int p2), .val (.int p3), .val (.int x150), .val (.int z5), .val (.ref a6), .val (.int (3 : Int32)), .val (.int (0 : Int32)), .val (.ref a629), .val (.ref a727), .val (.int (1 : Int32)), .val (.int (1 : Int32)), .val (.int (1 : Int32)), .val (.int x2)]) at_369 rfl rfl ?_
          refine own_iload C (pc' := 373) at_371 rfl rfl ?_
          refine own_i0_eq C (pc1 := 390) (pc2 := 376) at_373 rfl rfl (fun c840 => absurd c840 (by decide)) (fun c840 => ?_)
          refine own_aload C (pc' := 378) at_376 rfl rfl rfl ?_
          refine own_callV C (pc' := 381) (y := (⟨"com/example/murmuration/murmuration/search/IndexedSet", "size", "()I"⟩ : MethodName)) (a := a629) (argsL := []) (rest := []) 0 F822 (hw _ (List.mem_of_getElem? (i := 40) rfl)) (hw _ (List.mem_of_getElem? (i := 41) rfl)) (hw _ (List.mem_of_getElem? (i := 43) rfl)) (hw _ (List.mem_of_getElem? (i := 42) rfl)) (hw _ (List.mem_of_getElem? (i := 44) rfl)) (hw _ (List.mem_of_getElem? (i := 8) rfl)) (by decide) (own_m8 hw a629 (1 : Int32) Z829 F825 ) (by decide) (by decide) (lenOf own_pd4 rfl) rfl (Nat.le_of_eq rfl) at_378 rfl rfl (by decide) (by decide) (fun v841 h842 hq843 => ?_)
          obtain ⟨rfl, rfl⟩ := hq843
          show own_Run p_ l e_ _ s_ m_ _ b_ mt_ c_ n0 _ h819 _ _ (mkF m_ 381 #[.val (.int p0), .val (.int p1), .val (.int p2), .val (.int p3), .val (.int x150), .val (.int z5), .val (.ref a6), .val (.int (3 : Int32)), .val (.int (0 : Int32)), .val (.ref a629), .val (.ref a727), .val (.int (1 : Int32)), .val (.int (1 : Int32)), .val (.int (1 : Int32)), .val (.int x2)] [(.int (1 : Int32))])
          refine own_iload C (pc' := 383) at_381 rfl rfl ?_
          refine own_ii_ne C (pc1 := 390) (pc2 := 386) at_383 rfl rfl (fun c844 => absurd c844 (by decide)) (fun c844 => ?_)
          refine own_iconst C (pc' := 387) (v := (1 : Int32)) at_386 rfl (by decide) ?_
          refine own_goto C (pc' := 391) at_387 rfl ?_
          refine own_istore C (pc' := 393) (Ls' := #[.val (.int p0), .val (.int p1), .val (.int p2), .val (.int p3), .val (.int x150), .val (.int z5), .val (.ref a6), .val (.int (3 : Int32)), .val (.int (0 : Int32)), .val (.ref a629), .val (.ref a727), .val (.int (1 : Int32)), .val (.int (1 : Int32)), .val (.int (1 : Int32)), .val (.int x2)]) at_391 rfl rfl ?_
          refine own_iload C (pc' := 395) at_393 rfl rfl ?_
          exact own_ret C (t := .boolean) rfl rfl (Or.inl ⟨rfl, by simp, _, rfl⟩) at_395 (by decide) (by decide) (rfl)
      · skip
        rw [e627]
        show own_Run p_ l e_ _ s_ m_ _ b_ mt_ c_ n0 _ hh _ _ (mkF m_ 90 #[.val (.int p0), .val (.int p1), .val (.int p2), .val (.int p3), .val (.int x150), .val (.int z5), .val (.ref a6), .val (.int (3 : Int32)), .val (.int (1 : Int32)), .unset, .unset, .unset, .unset, .unset, .unset] [])
        refine own_new C (pc' := 93) (hw _ (List.mem_of_getElem? (i := 6) rfl)) (hw _ (List.mem_of_getElem? (i := 7) rfl)) (hw _ (List.mem_of_getElem? (i := 8) rfl)) Z1 at_90 rfl (by decide) (by decide) (fun h845 a846 ea847 ga848 Z849 E850 A851 D852 => ?_)
        have ne853 : a6 ≠ a846 := by rw [ea847]; exact Nat.ne_of_lt (own_A.lt V6)
        have F854 : own_AI Z h845 a6 3 (own_upd (own_upd (own_upd (fun _ => (0 : Int32)) 0 x0) 1 x1) 2 x2) := own_A.ext V6 E850
        have F855 : Fld Z h845 a846 "com/example/murmuration/murmuration/search/IndexedSet" "members" "[I" .null := D852 (Or.inr (hw _ (List.mem_of_getElem? (i := 16) rfl))) (ty := (.array .int)) (by decide)
        have F856 : Fld Z h845 a846 "com/example/murmuration/murmuration/search/IndexedSet" "positions" "[I" .null := D852 (Or.inr (hw _ (List.mem_of_getElem? (i := 18) rfl))) (ty := (.array .int)) (by decide)
        have F857 : Fld Z h845 a846 "com/example/murmuration/murmuration/search/IndexedSet" "size" "I" (.int (0 : Int32)) := D852 (Or.inl (hw _ (List.mem_of_getElem? (i := 29) rfl))) (ty := .int) (by decide)
        refine own_dup C (pc' := 94) at_93 rfl rfl ?_
        refine own_iconst C (pc' := 95) (v := (3 : Int32)) at_94 rfl (by decide) ?_
        refine own_callN C (pc' := 98) (y := (⟨"com/example/murmuration/murmuration/search/IndexedSet", "<init>", "(I)V"⟩ : MethodName)) (a := a846) (argsL := [(.int (3 : Int32))]) (rest := [(.ref a846)]) 1 rfl (hw _ (List.mem_of_getElem? (i := 9) rfl)) (hw _ (List.mem_of_getElem? (i := 10) rfl)) (hw _ (List.mem_of_getElem? (i := 11) rfl)) (hw _ (List.mem_of_getElem? (i := 8) rfl)) (by decide) (own_m2 hw a846 (3 : Int32) 3 Z849 A851 ga848 F855 F856 F857 (by decide) (by omega)) (by decide) (by decide) (lenOf own_pd2 rfl) rfl (Nat.le_of_eq rfl) at_95 rfl rfl (by decide) (by decide) (fun v858 h859 hq860 => ?_)
        obtain ⟨a861, a862, rfl, K863, ⟨ga864, gk865⟩, ⟨ga866, gk867⟩, F868, F869, F870, F871, F872, F873, F874, F875, F876⟩ := hq860
        have ne877 : a6 ≠ a861 := Nat.ne_of_lt (Nat.lt_of_lt_of_le (own_A.lt F854) gk865)
        have ne878 : a846 ≠ a861 := Nat.ne_of_lt (Nat.lt_of_lt_of_le (Exa.lt A851) gk865)
        have ne879 : a6 ≠ a862 := Nat.ne_of_lt (Nat.lt_of_lt_of_le (own_A.lt F854) gk867)
        have ne880 : a846 ≠ a862 := Nat.ne_of_lt (Nat.lt_of_lt_of_le (Exa.lt A851) gk867)
        have Z882 : n0 ≤ h859.size := Nat.le_trans Z849 K863.1
        have F883 : own_AI Z h859 a6 3 (own_upd (own_upd (own_upd (fun _ => (0 : Int32)) 0 x0) 1 x1) 2 x2) := own_A.keep F854 K863 (ninS ne853 nin0)
        have F884 : Exa Z h859 a846 "com/example/murmuration/murmuration/search/IndexedSet" := Exa.keep A851 K863
        show own_Run p_ l e_ _ s_ m_ _ b_ mt_ c_ n0 _ h859 _ _ (mkF m_ 98 #[.val (.int p0), .val (.int p1), .val (.int p2), .val (.int p3), .val (.int x150), .val (.int z5), .val (.ref a6), .val (.int (3 : Int32)), .val (.int (1 : Int32)), .unset, .unset, .unset, .unset, .unset, .unset] [(.ref a846)])
        refine own_astore C (pc' := 100) (Ls' := #[.val (.int p0), .val (.int p1), .val (.int p2), .val (.int p3), .val (.int x150), .val (.int z5), .val (.ref a6), .val (.int (3 : Int32)), .val (.int (1 : Int32)), .val (.ref a846), .unset, .unset, .unset, .unset, .unset]) at_98 rfl rfl rfl ?_
        refine own_aload C (pc' := 102) at_100 rfl rfl rfl ?_
        refine own_aload C (pc' := 104) at_102 rfl rfl rfl ?_
        refine own_iconst C (pc' := 105) (v := (0 : Int32)) at_104 rfl (by decide) ?_
        refine own_ldIV C (pc' := 106) F883 (i := 0) (v := x0) (by decide) (by decide) rfl at_105 rfl ?_
        refine own_callV C (pc' := 109) (y := (⟨"com/example/murmuration/murmuration/search/IndexedSet", "add", "(I)V"⟩ : MethodName)) (a := a846) (argsL := [(.int x0)]) (rest := []) 0 F868 (hw _ (List.mem_of_getElem? (i := 23) rfl)) (hw _ (List.mem_of_getElem? (i := 24) rfl)) (hw _ (List.mem_of_getElem? (i := 26) rfl)) (hw _ (List.mem_of_getElem? (i := 25) rfl)) (hw _ (List.mem_of_getElem? (i := 27) rfl)) (hw _ (List.mem_of_getElem? (i := 8) rfl)) (by decide) (own_m5 hw a846 a861 a862 3 (0 : Int32) (fun _ => (0 : Int32)) (fun _ => (-1 : Int32)) x0 A0 0 (1 : Int32) Z882 F868 ga848 ga864 ga866 ne878 ne880 F876 F869 F870 F871 F872 F873 hA0 (by omega) (by decide) (by decide) (by decide)) (by decide) (by decide) (lenOf own_pd2 rfl) rfl (Nat.le_of_eq rfl) at_106 rfl rfl (by decide) (by decide) (fun v885 h886 hq887 => ?_)
        obtain ⟨rfl, K888, F889, F890, F891, F892, F893, F894⟩ := hq887
        have Z896 : n0 ≤ h886.size := Nat.le_trans Z882 K888.1
        have F897 : own_AI Z h886 a6 3 (own_upd (own_upd (own_upd (fun _ => (0 : Int32)) 0 x0) 1 x1) 2 x2) := own_A.keep F883 K888 (ninS ne853 (ninS ne877 (ninS ne879 nin0)))
        have F898 : Exa Z h886 a846 "com/example/murmuration/murmuration/search/IndexedSet" := Exa.keep F868 K888
        show own_Run p_ l e_ _ s_ m_ _ b_ mt_ c_ n0 _ h886 _ _ (mkF m_ 109 #[.val (.int p0), .val (.int p1), .val (.int p2), .val (.int p3), .val (.int x150), .val (.int z5), .val (.ref a6), .val (.int (3 : Int32)), .val (.int (1 : Int32)), .val (.ref a846), .unset, .unset, .unset, .unset, .unset] [])
        refine own_iload C (pc' := 111) at_109 rfl rfl ?_
        refine own_iconst C (pc' := 112) (v := (2 : Int32)) at_111 rfl (by decide) ?_
        refine own_ii_lt C (pc1 := 124) (pc2 := 115) at_112 rfl rfl (fun c899 => absurd c899 (by decide)) (fun c899 => ?_)
        refine own_aload C (pc' := 117) at_115 rfl rfl rfl ?_
        refine own_aload C (pc' := 119) at_117 rfl rfl rfl ?_
        refine own_iconst C (pc' := 120) (v := (1 : Int32)) at_119 rfl (by decide) ?_
        refine own_ldIV C (pc' := 121) F897 (i := 1) (v := x1) (by decide) (by decide) rfl at_120 rfl ?_
        refine own_callV C (pc' := 124) (y := (⟨"com/example/murmuration/murmuration/search/IndexedSet", "add", "(I)V"⟩ : MethodName)) (a := a846) (argsL := [(.int x1)]) (rest := []) 0 F889 (hw _ (List.mem_of_getElem? (i := 23) rfl)) (hw _ (List.mem_of_getElem? (i := 24) rfl)) (hw _ (List.mem_of_getElem? (i := 26) rfl)) (hw _ (List.mem_of_getElem? (i := 25) rfl)) (hw _ (List.mem_of_getElem? (i := 27) rfl)) (hw _ (List.mem_of_getElem? (i := 8) rfl)) (by decide) (own_m5 hw a846 a861 a862 3 (1 : Int32) (own_upd (fun _ => (0 : Int32)) 0 x0) (own_upd (fun _ => (-1 : Int32)) A0 (0 : Int32)) x1 A1 1 (2 : Int32) Z896 F889 ga848 ga864 ga866 ne878 ne880 F876 F890 F891 F892 F893 F894 hA1 (by omega) (by decide) (by decide) (by decide)) (by decide) (by decide) (lenOf own_pd2 rfl) rfl (Nat.le_of_eq rfl) at_121 rfl rfl (by decide) (by decide) (fun v900 h901 hq902 => ?_)
        obtain ⟨rfl, K903, F904, F905, F906, F907, F908, F909⟩ := hq902
        have Z911 : n0 ≤ h901.size := Nat.le_trans Z896 K903.1
        have F912 : own_AI Z h901 a6 3 (own_upd (own_upd (own_upd (fun _ => (0 : Int32)) 0 x0) 1 x1) 2 x2) := own_A.keep F897 K903 (ninS ne853 (ninS ne877 (ninS ne879 nin0)))
        have F913 : Exa Z h901 a846 "com/example/murmuration/murmuration/search/IndexedSet" := Exa.keep F889 K903
        show own_Run p_ l e_ _ s_ m_ _ b_ mt_ c_ n0 _ h901 _ _ (mkF m_ 124 #[.val (.int p0), .val (.int p1), .val (.int p2), .val (.int p3), .val (.int x150), .val (.int z5), .val (.ref a6), .val (.int (3 : Int32)), .val (.int (1 : Int32)), .val (.ref a846), .unset, .unset, .unset, .unset, .unset] [])
        refine own_iload C (pc' := 126) at_124 rfl rfl ?_
        refine own_iconst C (pc' := 127) (v := (3 : Int32)) at_126 rfl (by decide) ?_
        refine own_ii_lt C (pc1 := 139) (pc2 := 130) at_127 rfl rfl (fun c914 => absurd c914 (by decide)) (fun c914 => ?_)
        refine own_aload C (pc' := 132) at_130 rfl rfl rfl ?_
        refine own_aload C (pc' := 134) at_132 rfl rfl rfl ?_
        refine own_iconst C (pc' := 135) (v := (2 : Int32)) at_134 rfl (by decide) ?_
        refine own_ldIV C (pc' := 136) F912 (i := 2) (v := x2) (by decide) (by decide) rfl at_135 rfl ?_
        refine own_callV C (pc' := 139) (y := (⟨"com/example/murmuration/murmuration/search/IndexedSet", "add", "(I)V"⟩ : MethodName)) (a := a846) (argsL := [(.int x2)]) (rest := []) 0 F904 (hw _ (List.mem_of_getElem? (i := 23) rfl)) (hw _ (List.mem_of_getElem? (i := 24) rfl)) (hw _ (List.mem_of_getElem? (i := 26) rfl)) (hw _ (List.mem_of_getElem? (i := 25) rfl)) (hw _ (List.mem_of_getElem? (i := 27) rfl)) (hw _ (List.mem_of_getElem? (i := 8) rfl)) (by decide) (own_m5 hw a846 a861 a862 3 (2 : Int32) (own_upd (own_upd (fun _ => (0 : Int32)) 0 x0) 1 x1) (own_upd (own_upd (fun _ => (-1 : Int32)) A0 (0 : Int32)) A1 (1 : Int32)) x2 A2 2 (3 : Int32) Z911 F904 ga848 ga864 ga866 ne878 ne880 F876 F905 F906 F907 F908 F909 hA2 (by omega) (by decide) (by decide) (by decide)) (by decide) (by decide) (lenOf own_pd2 rfl) rfl (Nat.le_of_eq rfl) at_136 rfl rfl (by decide) (by decide) (fun v915 h916 hq917 => ?_)
        obtain ⟨rfl, K918, F919, F920, F921, F922, F923, F924⟩ := hq917
        have Z926 : n0 ≤ h916.size := Nat.le_trans Z911 K918.1
        have F927 : own_AI Z h916 a6 3 (own_upd (own_upd (own_upd (fun _ => (0 : Int32)) 0 x0) 1 x1) 2 x2) := own_A.keep F912 K918 (ninS ne853 (ninS ne877 (ninS ne879 nin0)))
        have F928 : Exa Z h916 a846 "com/example/murmuration/murmuration/search/IndexedSet" := Exa.keep F904 K918
        show own_Run p_ l e_ _ s_ m_ _ b_ mt_ c_ n0 _ h916 _ _ (mkF m_ 139 #[.val (.int p0), .val (.int p1), .val (.int p2), .val (.int p3), .val (.int x150), .val (.int z5), .val (.ref a6), .val (.int (3 : Int32)), .val (.int (1 : Int32)), .val (.ref a846), .unset, .unset, .unset, .unset, .unset] [])
        refine own_aload C (pc' := 141) at_139 rfl rfl rfl ?_
        refine own_aload C (pc' := 143) at_141 rfl rfl rfl ?_
        refine own_iload C (pc' := 145) at_143 rfl rfl ?_
        refine own_ldIV C (pc' := 146) F927 (i := 1) (v := x1) (by decide) (by decide) rfl at_145 rfl ?_
        refine own_callV C (pc' := 149) (y := (⟨"com/example/murmuration/murmuration/search/IndexedSet", "remove", "(I)V"⟩ : MethodName)) (a := a846) (argsL := [(.int x1)]) (rest := []) 0 F919 (hw _ (List.mem_of_getElem? (i := 30) rfl)) (hw _ (List.mem_of_getElem? (i := 31) rfl)) (hw _ (List.mem_of_getElem? (i := 33) rfl)) (hw _ (List.mem_of_getElem? (i := 32) rfl)) (hw _ (List.mem_of_getElem? (i := 34) rfl)) (hw _ (List.mem_of_getElem? (i := 8) rfl)) (by decide) (own_m6 hw a846 a861 a862 3 (3 : Int32) (own_upd (own_upd (own_upd (fun _ => (0 : Int32)) 0 x0) 1 x1) 2 x2) (own_upd (own_upd (own_upd (fun _ => (-1 : Int32)) A0 (0 : Int32)) A1 (1 : Int32)) A2 (2 : Int32)) x1 A1 2 (1 : Int32) x2 1 A2 (2 : Int32) Z926 F919 ga848 ga864 ga866 ne878 ne880 F876 F920 F921 F922 F923 F924 hA1 (by omega) (by simp [own_upd, d01, d02, d12, Ne.symm d01, Ne.symm d02, Ne.symm d12]) (by decide) (by decide) (by decide) (by decide) rfl hA2 (by omega) (by decide)) (by decide) (by decide) (lenOf own_pd2 rfl) rfl (Nat.le_of_eq rfl) at_146 rfl rfl (by decide) (by decide) (fun v929 h930 hq931 => ?_)
        obtain ⟨rfl, K932, F933, F934, F935, F936, F937, F938⟩ := hq931
        have Z940 : n0 ≤ h930.size := Nat.le_trans Z926 K932.1
        have F941 : own_AI Z h930 a6 3 (own_upd (own_upd (own_upd (fun _ => (0 : Int32)) 0 x0) 1 x1) 2 x2) := own_A.keep F927 K932 (ninS ne853 (ninS ne877 (ninS ne879 nin0)))
        have F942 : Exa Z h930 a846 "com/example/murmuration/murmuration/search/IndexedSet" := Exa.keep F919 K932
        show own_Run p_ l e_ _ s_ m_ _ b_ mt_ c_ n0 _ h930 _ _ (mkF m_ 149 #[.val (.int p0), .val (.int p1), .val (.int p2), .val (.int p3), .val (.int x150), .val (.int z5), .val (.ref a6), .val (.int (3 : Int32)), .val (.int (1 : Int32)), .val (.ref a846), .unset, .unset, .unset, .unset, .unset] [])
        refine own_iconst C (pc' := 150) (v := (2 : Int32)) at_149 rfl (by decide) ?_
        refine own_newAI C (pc' := 152) (hw _ (List.mem_of_getElem? (i := 5) rfl)) Z940 at_150 rfl (nn := 2) (cap := 2) (by decide) (by decide) (by decide) (by decide) (by decide) (fun h943 a944 ea945 ga946 Z947 E948 V949 => ?_)
        have ne950 : a6 ≠ a944 := by rw [ea945]; exact Nat.ne_of_lt (own_A.lt F941)
        have ne951 : a846 ≠ a944 := by rw [ea945]; exact Nat.ne_of_lt (Exa.lt F933)
        have ne952 : a861 ≠ a944 := by rw [ea945]; exact Nat.ne_of_lt (own_A.lt F937)
        have ne953 : a862 ≠ a944 := by rw [ea945]; exact Nat.ne_of_lt (own_A.lt F938)
        have F954 : own_AI Z h943 a6 3 (own_upd (own_upd (own_upd (fun _ => (0 : Int32)) 0 x0) 1 x1) 2 x2) := own_A.ext F941 E948
        have F955 : Exa Z h943 a846 "com/example/murmuration/murmuration/search/IndexedSet" := Exa.ext E948 F933
        have F956 : Fld Z h943 a846 "com/example/murmuration/murmuration/search/IndexedSet" "members" "[I" (.ref a861) := Fld.ext E948 F934
        have F957 : Fld Z h943 a846 "com/example/murmuration/murmuration/search/IndexedSet" "positions" "[I" (.ref a862) := Fld.ext E948 F935
        have F958 : Fld Z h943 a846 "com/example/murmuration/murmuration/search/IndexedSet" "size" "I" (.int (2 : Int32)) := Fld.ext E948 F936
        have F959 : own_AI Z h943 a861 3 (own_upd (own_upd (own_upd (own_upd (fun _ => (0 : Int32)) 0 x0) 1 x1) 2 x2) 1 x2) := own_A.ext F937 E948
        have F960 : own_AI Z h943 a862 3 (own_upd (own_upd (own_upd (own_upd (own_upd (fun _ => (-1 : Int32)) A0 (0 : Int32)) A1 (1 : Int32)) A2 (2 : Int32)) A2 (1 : Int32)) A1 (-1 : Int32)) := own_A.ext F938 E948
        refine own_astore C (pc' := 154) (Ls' := #[.val (.int p0), .val (.int p1), .val (.int p2), .val (.int p3), .val (.int x150), .val (.int z5), .val (.ref a6), .val (.int (3 : Int32)), .val (.int (1 : Int32)), .val (.ref a846), .val (.ref a944), .unset, .unset, .unset, .unset]) at_152 rfl rfl rfl ?_
        refine own_aload C (pc' := 156) at_154 rfl rfl rfl ?_
        refine own_iconst C (pc' := 157) (v := (0 : Int32)) at_156 rfl (by decide) ?_
        refine own_iload C (pc' := 159) at_157 rfl rfl ?_
        refine own_i0_ne C (pc1 := 172) (pc2 := 162) at_159 rfl rfl (fun c961 => ?_) (fun c961 => absurd c961 (by decide))
        refine own_aload C (pc' := 174) at_172 rfl rfl rfl ?_
        refine own_iconst C (pc' := 175) (v := (0 : Int32)) at_174 rfl (by decide) ?_
        refine own_ldIV C (pc' := 176) F954 (i := 0) (v := x0) (by decide) (by decide) rfl at_175 rfl ?_
        refine own_stI C (pc' := 177) V949 (i := 0) (by decide) (by decide) ga946 at_176 rfl (fun h962 W963 V964 => ?_)
        have Z965 : n0 ≤ h962.size := Nat.le_trans Z947 (Nat.le_of_eq (Wr.size W963).symm)
        have F966 : own_AI Z h962 a6 3 (own_upd (own_upd (own_upd (fun _ => (0 : Int32)) 0 x0) 1 x1) 2 x2) := own_A.other F954 W963 ne950
        have F967 : Exa Z h962 a846 "com/example/murmuration/murmuration/search/IndexedSet" := Exa.wr W963 F955
        have F968 : Fld Z h962 a846 "com/example/murmuration/murmuration/search/IndexedSet" "members" "[I" (.ref a861) := Fld.other W963 F956 (Or.inl ne951)
        have F969 : Fld Z h962 a846 "com/example/murmuration/murmuration/search/IndexedSet" "positions" "[I" (.ref a862) := Fld.other W963 F957 (Or.inl ne951)
        have F970 : Fld Z h962 a846 "com/example/murmuration/murmuration/search/IndexedSet" "size" "I" (.int (2 : Int32)) := Fld.other W963 F958 (Or.inl ne951)
        have F971 : own_AI Z h962 a861 3 (own_upd (own_upd (own_upd (own_upd (fun _ => (0 : Int32)) 0 x0) 1 x1) 2 x2) 1 x2) := own_A.other F959 W963 ne952
        have F972 : own_AI Z h962 a862 3 (own_upd (own_upd (own_upd (own_upd (own_upd (fun _ => (-1 : Int32)) A0 (0 : Int32)) A1 (1 : Int32)) A2 (2 : Int32)) A2 (1 : Int32)) A1 (-1 : Int32)) := own_A.other F960 W963 ne953
        have F973 : own_AI Z h962 a944 2 (own_upd (fun _ => (0 : Int32)) 0 x0) := V964
        refine own_aload C (pc' := 179) at_177 rfl rfl rfl ?_
        refine own_iconst C (pc' := 180) (v := (1 : Int32)) at_179 rfl (by decide) ?_
        refine own_iload C (pc' := 182) at_180 rfl rfl ?_
        refine own_iconst C (pc' := 183) (v := (1 : Int32)) at_182 rfl (by decide) ?_
        refine own_ii_ne C (pc1 := 196) (pc2 := 186) at_183 rfl rfl (fun c974 => absurd c974 (by decide)) (fun c974 => ?_)
        refine own_aload C (pc' := 188) at_186 rfl rfl rfl ?_
        refine own_iload C (pc' := 190) at_188 rfl rfl ?_
        refine own_iconst C (pc' := 191) (v := (1 : Int32)) at_190 rfl (by decide) ?_
        refine own_isubV C (pc' := 192) (v := (2 : Int32)) at_191 rfl (by decide) ?_
        refine own_ldIV C (pc' := 193) F966 (i := 2) (v := x2) (by decide) (by decide) rfl at_192 rfl ?_
        refine own_goto C (pc' := 200) at_193 rfl ?_
        refine own_stI C (pc' := 201) F973 (i := 1) (by decide) (by decide) ga946 at_200 rfl (fun h975 W976 V977 => ?_)
        have Z978 : n0 ≤ h975.size := Nat.le_trans Z965 (Nat.le_of_eq (Wr.size W976).symm)
        have F979 : own_AI Z h975 a6 3 (own_upd (own_upd (own_upd (fun _ => (0 : Int32)) 0 x0) 1 x1) 2 x2) := own_A.other F966 W976 ne950
        have F980 : Exa Z h975 a846 "com/example/murmuration/murmuration/search/IndexedSet" := Exa.wr W976 F967
        have F981 : Fld Z h975 a846 "com/example/murmuration/murmuration/search/IndexedSet" "members" "[I" (.ref a861) := Fld.other W976 F968 (Or.inl ne951)
        have F982 : Fld Z h975 a846 "com/example/murmuration/murmuration/search/IndexedSet" "positions" "[I" (.ref a862) := Fld.other W976 F969 (Or.inl ne951)
        have F983 : Fld Z h975 a846 "com/example/murmuration/murmuration/search/IndexedSet" "size" "I" (.int (2 : Int32)) := Fld.other W976 F970 (Or.inl ne951)
        have F984 : own_AI Z h975 a861 3 (own_upd (own_upd (own_upd (own_upd (fun _ => (0 : Int32)) 0 x0) 1 x1) 2 x2) 1 x2) := own_A.other F971 W976 ne952
        have F985 : own_AI Z h975 a862 3 (own_upd (own_upd (own_upd (own_upd (own_upd (fun _ => (-1 : Int32)) A0 (0 : Int32)) A1 (1 : Int32)) A2 (2 : Int32)) A2 (1 : Int32)) A1 (-1 : Int32)) := own_A.other F972 W976 ne953
        have F986 : own_AI Z h975 a944 2 (own_upd (own_upd (fun _ => (0 : Int32)) 0 x0) 1 x2) := V977
        refine own_aload C (pc' := 203) at_201 rfl rfl rfl ?_
        refine own_aload C (pc' := 205) at_203 rfl rfl rfl ?_
        refine own_iload C (pc' := 207) at_205 rfl rfl ?_
        refine own_ldIV C (pc' := 208) F979 (i := 1) (v := x1) (by decide) (by decide) rfl at_207 rfl ?_
        refine own_callV C (pc' := 211) (y := (⟨"com/example/murmuration/murmuration/search/IndexedSet", "contains", "(I)Z"⟩ : MethodName)) (a := a846) (argsL := [(.int x1)]) (rest := []) 0 F980 (hw _ (List.mem_of_getElem? (i := 35) rfl)) (hw _ (List.mem_of_getElem? (i := 36) rfl)) (hw _ (List.mem_of_getElem? (i := 38) rfl)) (hw _ (List.mem_of_getElem? (i := 37) rfl)) (hw _ (List.mem_of_getElem? (i := 39) rfl)) (hw _ (List.mem_of_getElem? (i := 8) rfl)) (by decide) (own_m7 hw a846 a862 3 (own_upd (own_upd (own_upd (own_upd (own_upd (fun _ => (-1 : Int32)) A0 (0 : Int32)) A1 (1 : Int32)) A2 (2 : Int32)) A2 (1 : Int32)) A1 (-1 : Int32)) x1 A1 (0 : Int32) Z978 F982 F985 hA1 (by omega) (by simp [own_upd, d01, d02, d12, Ne.symm d01, Ne.symm d02, Ne.symm d12])) (by decide) (by decide) (lenOf own_pd3 rfl) rfl (Nat.le_of_eq rfl) at_208 rfl rfl (by decide) (by decide) (fun v987 h988 hq989 => ?_)
        obtain ⟨rfl, rfl⟩ := hq989
        show own_Run p_ l e_ _ s_ m_ _ b_ mt_ c_ n0 _ h975 _ _ (mkF m_ 211 #[.val (.int p0), .val (.int p1), .val (.int p2), .val (.int p3), .val (.int x150), .val (.int z5), .val (.ref a6), .val (.int (3 : Int32)), .val (.int (1 : Int32)), .val (.ref a846), .val (.ref a944), .unset, .unset, .unset, .unset] [(.int (0 : Int32))])
        refine own_i0_ne C (pc1 := 218) (pc2 := 214) at_211 rfl rfl (fun c990 => absurd c990 (by decide)) (fun c990 => ?_)
        refine own_iconst C (pc' := 215) (v := (1 : Int32)) at_214 rfl (by decide) ?_
        refine own_goto C (pc' := 219) at_215 rfl ?_
        refine own_istore C (pc' := 221) (Ls' := #[.val (.int p0), .val (.int p1), .val (.int p2), .val (.int p3), .val (.int x150), .val (.int z5), .val (.ref a6), .val (.int (3 : Int32)), .val (.int (1 : Int32)), .val (.ref a846), .val (.ref a944), .val (.int (1 : Int32)), .unset, .unset, .unset]) at_219 rfl rfl ?_
        refine own_iload C (pc' := 223) at_221 rfl rfl ?_
        refine own_iconst C (pc' := 224) (v := (2 : Int32)) at_223 rfl (by decide) ?_
        refine own_ii_lt C (pc1 := 252) (pc2 := 227) at_224 rfl rfl (fun c991 => absurd c991 (by decide)) (fun c991 => ?_)
        refine own_iload C (pc' := 229) at_227 rfl rfl ?_
        refine own_i0_eq C (pc1 := 249) (pc2 := 232) at_229 rfl rfl (fun c992 => absurd c992 (by decide)) (fun c992 => ?_)
        refine own_aload C (pc' := 234) at_232 rfl rfl rfl ?_
        refine own_iconst C (pc' := 235) (v := (0 : Int32)) at_234 rfl (by decide) ?_
        refine own_callV C (pc' := 238) (y := (⟨"com/example/murmuration/murmuration/search/IndexedSet", "get", "(I)I"⟩ : MethodName)) (a := a846) (argsL := [(.int (0 : Int32))]) (rest := []) 0 F980 (hw _ (List.mem_of_getElem? (i := 45) rfl)) (hw _ (List.mem_of_getElem? (i := 46) rfl)) (hw _ (List.mem_of_getElem? (i := 48) rfl)) (hw _ (List.mem_of_getElem? (i := 47) rfl)) (hw _ (List.mem_of_getElem? (i := 49) rfl)) (hw _ (List.mem_of_getElem? (i := 8) rfl)) (by decide) (own_m9 hw a846 a861 3 (own_upd (own_upd (own_upd (own_upd (fun _ => (0 : Int32)) 0 x0) 1 x1) 2 x2) 1 x2) (0 : Int32) 0 x0 Z978 F981 F984 (by decide) (by decide) rfl) (by decide) (by decide) (lenOf own_pd5 rfl) rfl (Nat.le_of_eq rfl) at_235 rfl rfl (by decide) (by decide) (fun v993 h994 hq995 => ?_)
        obtain ⟨rfl, rfl⟩ := hq995
        show own_Run p_ l e_ _ s_ m_ _ b_ mt_ c_ n0 _ h975 _ _ (mkF m_ 238 #[.val (.int p0), .val (.int p1), .val (.int p2), .val (.int p3), .val (.int x150), .val (.int z5), .val (.ref a6), .val (.int (3 : Int32)), .val (.int (1 : Int32)), .val (.ref a846), .val (.ref a944), .val (.int (1 : Int32)), .unset, .unset, .unset] [(.int x0)])
        refine own_aload C (pc' := 240) at_238 rfl rfl rfl ?_
        refine own_iconst C (pc' := 241) (v := (0 : Int32)) at_240 rfl (by decide) ?_
        refine own_ldIV C (pc' := 242) F986 (i := 0) (v := x0) (by decide) (by decide) rfl at_241 rfl ?_
        refine own_ii_ne C (pc1 := 249) (pc2 := 245) at_242 rfl rfl (fun c996 => absurd c996 (not_not_intro rfl)) (fun c996 => ?_)
        refine own_iconst C (pc' := 246) (v := (1 : Int32)) at_245 rfl (by decide) ?_
        refine own_goto C (pc' := 250) at_246 rfl ?_
        refine own_istore C (pc' := 252) (Ls' := #[.val (.int p0), .val (.int p1), .val (.int p2), .val (.int p3), .val (.int x150), .val (.int z5), .val (.ref a6), .val (.int (3 : Int32)), .val (.int (1 : Int32)), .val (.ref a846), .val (.ref a944), .val (.int (1 : Int32)), .unset, .unset, .unset]) at_250 rfl rfl ?_
        refine own_iload C (pc' := 254) at_252 rfl rfl ?_
        refine own_iconst C (pc' := 255) (v := (3 : Int32)) at_254 rfl (by decide) ?_
        refine own_ii_lt C (pc1 := 283) (pc2 := 258) at_255 rfl rfl (fun c997 => absurd c997 (by decide)) (fun c997 => ?_)
        refine own_iload C (pc' := 260) at_258 rfl rfl ?_
        refine own_i0_eq C (pc1 := 280) (pc2 := 263) at_260 rfl rfl (fun c998 => absurd c998 (by decide)) (fun c998 => ?_)
        refine own_aload C (pc' := 265) at_263 rfl rfl rfl ?_
        refine own_iconst C (pc' := 266) (v := (1 : Int32)) at_265 rfl (by decide) ?_
        refine own_callV C (pc' := 269) (y := (⟨"com/example/murmuration/murmuration/search/IndexedSet", "get", "(I)I"⟩ : MethodName)) (a := a846) (argsL := [(.int (1 : Int32))]) (rest := []) 0 F980 (hw _ (List.mem_of_getElem? (i := 45) rfl)) (hw _ (List.mem_of_getElem? (i := 46) rfl)) (hw _ (List.mem_of_getElem? (i := 48) rfl)) (hw _ (List.mem_of_getElem? (i := 47) rfl)) (hw _ (List.mem_of_getElem? (i := 49) rfl)) (hw _ (List.mem_of_getElem? (i := 8) rfl)) (by decide) (own_m9 hw a846 a861 3 (own_upd (own_upd (own_upd (own_upd (fun _ => (0 : Int32)) 0 x0) 1 x1) 2 x2) 1 x2) (1 : Int32) 1 x2 Z978 F981 F984 (by decide) (by decide) rfl) (by decide) (by decide) (lenOf own_pd5 rfl) rfl (Nat.le_of_eq rfl) at_266 rfl rfl (by decide) (by decide) (fun v999 h1000 hq1001 => ?_)
        obtain ⟨rfl, rfl⟩ := hq1001
        show own_Run p_ l e_ _ s_ m_ _ b_ mt_ c_ n0 _ h975 _ _ (mkF m_ 269 #[.val (.int p0), .val (.int p1), .val (.int p2), .val (.int p3), .val (.int x150), .val (.int z5), .val (.ref a6), .val (.int (3 : Int32)), .val (.int (1 : Int32)), .val (.ref a846), .val (.ref a944), .val (.int (1 : Int32)), .unset, .unset, .unset] [(.int x2)])
        refine own_aload C (pc' := 271) at_269 rfl rfl rfl ?_
        refine own_iconst C (pc' := 272) (v := (1 : Int32)) at_271 rfl (by decide) ?_
        refine own_ldIV C (pc' := 273) F986 (i := 1) (v := x2) (by decide) (by decide) rfl at_272 rfl ?_
        refine own_ii_ne C (pc1 := 280) (pc2 := 276) at_273 rfl rfl (fun c1002 => absurd c1002 (not_not_intro rfl)) (fun c1002 => ?_)
        refine own_iconst C (pc' := 277) (v := (1 : Int32)) at_276 rfl (by decide) ?_
        refine own_goto C (pc' := 281) at_277 rfl ?_
        refine own_istore C (pc' := 283) (Ls' := #[.val (.int p0), .val (.int p1), .val (.int p2), .val (.int p3), .val (.int x150), .val (.int z5), .val (.ref a6), .val (.int (3 : Int32)), .val (.int (1 : Int32)), .val (.ref a846), .val (.ref a944), .val (.int (1 : Int32)), .unset, .unset, .unset]) at_281 rfl rfl ?_
        refine own_iload C (pc' := 285) at_283 rfl rfl ?_
        refine own_iconst C (pc' := 286) (v := (1 : Int32)) at_285 rfl (by decide) ?_
        refine own_isubV C (pc' := 287) (v := (2 : Int32)) at_286 rfl (by decide) ?_
        refine own_istore C (pc' := 289) (Ls' := #[.val (.int p0), .val (.int p1), .val (.int p2), .val (.int p3), .val (.int x150), .val (.int z5), .val (.ref a6), .val (.int (3 : Int32)), .val (.int (1 : Int32)), .val (.ref a846), .val (.ref a944), .val (.int (1 : Int32)), .val (.int (2 : Int32)), .unset, .unset]) at_287 rfl rfl ?_
        refine own_iload C (pc' := 291) at_289 rfl rfl ?_
        refine own_iconst C (pc' := 292) (v := (2 : Int32)) at_291 rfl (by decide) ?_
        refine own_ii_lt C (pc1 := 371) (pc2 := 295) at_292 rfl rfl (fun c1003 => absurd c1003 (by decide)) (fun c1003 => ?_)
        refine own_iloadN C (pc' := 296) at_295 rfl rfl ?_
        refine own_iload C (pc' := 298) at_296 rfl rfl ?_
        refine own_iconst C (pc' := 299) (v := (1 : Int32)) at_298 rfl (by decide) ?_
        refine own_isubV C (pc' := 300) (v := (2 : Int32)) at_299 rfl (by decide) ?_
        refine own_callS C (pc' := 303) (y := (⟨"com/example/murmuration/murmuration/search/IndexedSetRemovePinLaw", "mod", "(II)I"⟩ : MethodName)) (argsL := [(.int p3), (.int (2 : Int32))]) (rest := []) 0 (hw _ (List.mem_of_getElem? (i := 0) rfl)) (hw _ (List.mem_of_getElem? (i := 1) rfl)) (hw _ (List.mem_of_getElem? (i := 2) rfl)) (hw _ (List.mem_of_getElem? (i := 3) rfl)) (by decide) (own_m1 hw p3 (2 : Int32)   (by decide)) (by decide) (by decide) (lenOf own_pd1 rfl) rfl (Nat.le_of_eq rfl) at_300 rfl rfl (by decide) (by decide) (fun v1004 h1005 hq1006 => ?_)
        obtain ⟨rfl, rfl⟩ := hq1006
        show own_Run p_ l e_ _ s_ m_ _ b_ mt_ c_ n0 _ h975 _ _ (mkF m_ 303 #[.val (.int p0), .val (.int p1), .val (.int p2), .val (.int p3), .val (.int x150), .val (.int z5), .val (.ref a6), .val (.int (3 : Int32)), .val (.int (1 : Int32)), .val (.ref a846), .val (.ref a944), .val (.int (1 : Int32)), .val (.int (2 : Int32)), .unset, .unset] [(.int ((p3 &&& (2147483647 : Int32)) % (2 : Int32)))])
        refine own_istore C (pc' := 305) (Ls' := #[.val (.int p0), .val (.int p1), .val (.int p2), .val (.int p3), .val (.int x150), .val (.int z5), .val (.ref a6), .val (.int (3 : Int32)), .val (.int (1 : Int32)), .val (.ref a846), .val (.ref a944), .val (.int (1 : Int32)), .val (.int (2 : Int32)), .val (.int ((p3 &&& (2147483647 : Int32)) % (2 : Int32))), .unset]) at_303 rfl rfl ?_
        rcases own_md2 p3 with e1007 | e1007
        · skip
          rw [e1007]
          show own_Run p_ l e_ _ s_ m_ _ b_ mt_ c_ n0 _ h975 _ _ (mkF m_ 305 #[.val (.int p0), .val (.int p1), .val (.int p2), .val (.int p3), .val (.int x150), .val (.int z5), .val (.ref a6), .val (.int (3 : Int32)), .val (.int (1 : Int32)), .val (.ref a846), .val (.ref a944), .val (.int (1 : Int32)), .val (.int (2 : Int32)), .val (.int (0 : Int32)), .unset] [])
          refine own_aload C (pc' := 307) at_305 rfl rfl rfl ?_
          refine own_aload C (pc' := 309) at_307 rfl rfl rfl ?_
          refine own_iload C (pc' := 311) at_309 rfl rfl ?_
          refine own_ldIV C (pc' := 312) F986 (i := 0) (v := x0) (by decide) (by decide) rfl at_311 rfl ?_
          refine own_callV C (pc' := 315) (y := (⟨"com/example/murmuration/murmuration/search/IndexedSet", "remove", "(I)V"⟩ : MethodName)) (a := a846) (argsL := [(.int x0)]) (rest := []) 0 F980 (hw _ (List.mem_of_getElem? (i := 30) rfl)) (hw _ (List.mem_of_getElem? (i := 31) rfl)) (hw _ (List.mem_of_getElem? (i := 33) rfl)) (hw _ (List.mem_of_getElem? (i := 32) rfl)) (hw _ (List.mem_of_getElem? (i := 34) rfl)) (hw _ (List.mem_of_getElem? (i := 8) rfl)) (by decide) (own_m6 hw a846 a861 a862 3 (2 : Int32) (own_upd (own_upd (own_upd (own_upd (fun _ => (0 : Int32)) 0 x0) 1 x1) 2 x2) 1 x2) (own_upd (own_upd (own_upd (own_upd (own_upd (fun _ => (-1 : Int32)) A0 (0 : Int32)) A1 (1 : Int32)) A2 (2 : Int32)) A2 (1 : Int32)) A1 (-1 : Int32)) x0 A0 1 (0 : Int32) x2 0 A2 (1 : Int32) Z978 F980 ga848 ga864 ga866 ne878 ne880 F876 F981 F982 F983 F984 F985 hA0 (by omega) (by simp [own_upd, d01, d02, d12, Ne.symm d01, Ne.symm d02, Ne.symm d12]) (by decide) (by decide) (by decide) (by decide) rfl hA2 (by omega) (by decide)) (by decide) (by decide) (lenOf own_pd2 rfl) rfl (Nat.le_of_eq rfl) at_312 rfl rfl (by decide) (by decide) (fun v1008 h1009 hq1010 => ?_)
          obtain ⟨rfl, K1011, F1012, F1013, F1014, F1015, F1016, F1017⟩ := hq1010
          have Z1019 : n0 ≤ h1009.size := Nat.le_trans Z978 K1011.1
          have F1020 : own_AI Z h1009 a6 3 (own_upd (own_upd (own_upd (fun _ => (0 : Int32)) 0 x0) 1 x1) 2 x2) := own_A.keep F979 K1011 (ninS ne853 (ninS ne877 (ninS ne879 nin0)))
          have F1021 : Exa Z h1009 a846 "com/example/murmuration/murmuration/search/IndexedSet" := Exa.keep F980 K1011
          have F1022 : own_AI Z h1009 a944 2 (own_upd (own_upd (fun _ => (0 : Int32)) 0 x0) 1 x2) := own_A.keep F986 K1011 (ninS (Ne.symm ne951) (ninS (Ne.symm ne952) (ninS (Ne.symm ne953) nin0)))
          show own_Run p_ l e_ _ s_ m_ _ b_ mt_ c_ n0 _ h1009 _ _ (mkF m_ 315 #[.val (.int p0), .val (.int p1), .val (.int p2), .val (.int p3), .val (.int x150), .val (.int z5), .val (.ref a6), .val (.int (3 : Int32)), .val (.int (1 : Int32)), .val (.ref a846), .val (.ref a944), .val (.int (1 : Int32)), .val (.int (2 : Int32)), .val (.int (0 : Int32)), .unset] [])
          refine own_iload C (pc' := 317) at_315 rfl rfl ?_
          refine own_i0_ne C (pc1 := 330) (pc2 := 320) at_317 rfl rfl (fun c1023 => absurd c1023 (by decide)) (fun c1023 => ?_)
          refine own_aload C (pc' := 322) at_320 rfl rfl rfl ?_
          refine own_iload C (pc' := 324) at_322 rfl rfl ?_
          refine own_iconst C (pc' := 325) (v := (2 : Int32)) at_324 rfl (by decide) ?_
          refine own_isubV C (pc' := 326) (v := (1 : Int32)) at_325 rfl (by decide) ?_
          refine own_ldIV C (pc' := 327) F1022 (i := 1) (v := x2) (by decide) (by decide) rfl at_326 rfl ?_
          refine own_goto C (pc' := 334) at_327 rfl ?_
          refine own_istore C (pc' := 336) (Ls' := #[.val (.int p0), .val (.int p1), .val (.int p2), .val (.int p3), .val (.int x150), .val (.int z5), .val (.ref a6), .val (.int (3 : Int32)), .val (.int (1 : Int32)), .val (.ref a846), .val (.ref a944), .val (.int (1 : Int32)), .val (.int (2 : Int32)), .val (.int (0 : Int32)), .val (.int x2)]) at_334 rfl rfl ?_
          refine own_iload C (pc' := 338) at_336 rfl rfl ?_
          refine own_iconst C (pc' := 339) (v := (3 : Int32)) at_338 rfl (by decide) ?_
          refine own_ii_lt C (pc1 := 365) (pc2 := 342) at_339 rfl rfl (fun c1024 => absurd c1024 (by decide)) (fun c1024 => ?_)
          refine own_iload C (pc' := 344) at_342 rfl rfl ?_
          refine own_i0_eq C (pc1 := 362) (pc2 := 347) at_344 rfl rfl (fun c1025 => absurd c1025 (by decide)) (fun c1025 => ?_)
          refine own_aload C (pc' := 349) at_347 rfl rfl rfl ?_
          refine own_iconst C (pc' := 350) (v := (0 : Int32)) at_349 rfl (by decide) ?_
          refine own_callV C (pc' := 353) (y := (⟨"com/example/murmuration/murmuration/search/IndexedSet", "get", "(I)I"⟩ : MethodName)) (a := a846) (argsL := [(.int (0 : Int32))]) (rest := []) 0 F1012 (hw _ (List.mem_of_getElem? (i := 45) rfl)) (hw _ (List.mem_of_getElem? (i := 46) rfl)) (hw _ (List.mem_of_getElem? (i := 48) rfl)) (hw _ (List.mem_of_getElem? (i := 47) rfl)) (hw _ (List.mem_of_getElem? (i := 49) rfl)) (hw _ (List.mem_of_getElem? (i := 8) rfl)) (by decide) (own_m9 hw a846 a861 3 (own_upd (own_upd (own_upd (own_upd (own_upd (fun _ => (0 : Int32)) 0 x0) 1 x1) 2 x2) 1 x2) 0 x2) (0 : Int32) 0 x2 Z1019 F1013 F1016 (by decide) (by decide) rfl) (by decide) (by decide) (lenOf own_pd5 rfl) rfl (Nat.le_of_eq rfl) at_350 rfl rfl (by decide) (by decide) (fun v1026 h1027 hq1028 => ?_)
          obtain ⟨rfl, rfl⟩ := hq1028
          show own_Run p_ l e_ _ s_ m_ _ b_ mt_ c_ n0 _ h1009 _ _ (mkF m_ 353 #[.val (.int p0), .val (.int p1), .val (.int p2), .val (.int p3), .val (.int x150), .val (.int z5), .val (.ref a6), .val (.int (3 : Int32)), .val (.int (1 : Int32)), .val (.ref a846), .val (.ref a944), .val (.int (1 : Int32)), .val (.int (2 : Int32)), .val (.int (0 : Int32)), .val (.int x2)] [(.int x2)])
          refine own_iload C (pc' := 355) at_353 rfl rfl ?_
          refine own_ii_ne C (pc1 := 362) (pc2 := 358) at_355 rfl rfl (fun c1029 => absurd c1029 (not_not_intro rfl)) (fun c1029 => ?_)
          refine own_iconst C (pc' := 359) (v := (1 : Int32)) at_358 rfl (by decide) ?_
          refine own_goto C (pc' := 363) at_359 rfl ?_
          refine own_istore C (pc' := 365) (Ls' := #[.val (.int p0), .val (.int p1), .val (.int p2), .val (.int p3), .val (.int x150), .val (.int z5), .val (.ref a6), .val (.int (3 : Int32)), .val (.int (1 : Int32)), .val (.ref a846), .val (.ref a944), .val (.int (1 : Int32)), .val (.int (2 : Int32)), .val (.int (0 : Int32)), .val (.int x2)]) at_363 rfl rfl ?_
          refine own_iload C (pc' := 367) at_365 rfl rfl ?_
          refine own_iconst C (pc' := 368) (v := (2 : Int32)) at_367 rfl (by decide) ?_
          refine own_isubV C (pc' := 369) (v := (1 : Int32)) at_368 rfl (by decide) ?_
          refine own_istore C (pc' := 371) (Ls' := #[.val (.int p0), .val (.int p1), .val (.int p2), .val (.int p3), .val (.int x150), .val (.int z5), .val (.ref a6), .val (.int (3 : Int32)), .val (.int (1 : Int32)), .val (.ref a846), .val (.ref a944), .val (.int (1 : Int32)), .val (.int (1 : Int32)), .val (.int (0 : Int32)), .val (.int x2)]) at_369 rfl rfl ?_
          refine own_iload C (pc' := 373) at_371 rfl rfl ?_
          refine own_i0_eq C (pc1 := 390) (pc2 := 376) at_373 rfl rfl (fun c1030 => absurd c1030 (by decide)) (fun c1030 => ?_)
          refine own_aload C (pc' := 378) at_376 rfl rfl rfl ?_
          refine own_callV C (pc' := 381) (y := (⟨"com/example/murmuration/murmuration/search/IndexedSet", "size", "()I"⟩ : MethodName)) (a := a846) (argsL := []) (rest := []) 0 F1012 (hw _ (List.mem_of_getElem? (i := 40) rfl)) (hw _ (List.mem_of_getElem? (i := 41) rfl)) (hw _ (List.mem_of_getElem? (i := 43) rfl)) (hw _ (List.mem_of_getElem? (i := 42) rfl)) (hw _ (List.mem_of_getElem? (i := 44) rfl)) (hw _ (List.mem_of_getElem? (i := 8) rfl)) (by decide) (own_m8 hw a846 (1 : Int32) Z1019 F1015 ) (by decide) (by decide) (lenOf own_pd4 rfl) rfl (Nat.le_of_eq rfl) at_378 rfl rfl (by decide) (by decide) (fun v1031 h1032 hq1033 => ?_)
          obtain ⟨rfl, rfl⟩ := hq1033
          show own_Run p_ l e_ _ s_ m_ _ b_ mt_ c_ n0 _ h1009 _ _ (mkF m_ 381 #[.val (.int p0), .val (.int p1), .val (.int p2), .val (.int p3), .val (.int x150), .val (.int z5), .val (.ref a6), .val (.int (3 : Int32)), .val (.int (1 : Int32)), .val (.ref a846), .val (.ref a944), .val (.int (1 : Int32)), .val (.int (1 : Int32)), .val (.int (0 : Int32)), .val (.int x2)] [(.int (1 : Int32))])
          refine own_iload C (pc' := 383) at_381 rfl rfl ?_
          refine own_ii_ne C (pc1 := 390) (pc2 := 386) at_383 rfl rfl (fun c1034 => absurd c1034 (by decide)) (fun c1034 => ?_)
          refine own_iconst C (pc' := 387) (v := (1 : Int32)) at_386 rfl (by decide) ?_
          refine own_goto C (pc' := 391) at_387 rfl ?_
          refine own_istore C (pc' := 393) (Ls' := #[.val (.int p0), .val (.int p1), .val (.int p2), .val (.int p3), .val (.int x150), .val (.int z5), .val (.ref a6), .val (.int (3 : Int32)), .val (.int (1 : Int32)), .val (.ref a846), .val (.ref a944), .val (.int (1 : Int32)), .val (.int (1 : Int32)), .val (.int (0 : Int32)), .val (.int x2)]) at_391 rfl rfl ?_
          refine own_iload C (pc' := 395) at_393 rfl rfl ?_
          exact own_ret C (t := .boolean) rfl rfl (Or.inl ⟨rfl, by simp, _, rfl⟩) at_395 (by decide) (by decide) (rfl)
        · skip
          rw [e1007]
          show own_Run p_ l e_ _ s_ m_ _ b_ mt_ c_ n0 _ h975 _ _ (mkF m_ 305 #[.val (.int p0), .val (.int p1), .val (.int p2), .val (.int p3), .val (.int x150), .val (.int z5), .val (.ref a6), .val (.int (3 : Int32)), .val (.int (1 : Int32)), .val (.ref a846), .val (.ref a944), .val (.int (1 : Int32)), .val (.int (2 : Int32)), .val (.int (1 : Int32)), .unset] [])
          refine own_aload C (pc' := 307) at_305 rfl rfl rfl ?_
          refine own_aload C (pc' := 309) at_307 rfl rfl rfl ?_
          refine own_iload C (pc' := 311) at_309 rfl rfl ?_
          refine own_ldIV C (pc' := 312) F986 (i := 1) (v := x2) (by decide) (by decide) rfl at_311 rfl ?_
          refine own_callV C (pc' := 315) (y := (⟨"com/example/murmuration/murmuration/search/IndexedSet", "remove", "(I)V"⟩ : MethodName)) (a := a846) (argsL := [(.int x2)]) (rest := []) 0 F980 (hw _ (List.mem_of_getElem? (i := 30) rfl)) (hw _ (List.mem_of_getElem? (i := 31) rfl)) (hw _ (List.mem_of_getElem? (i := 33) rfl)) (hw _ (List.mem_of_getElem? (i := 32) rfl)) (hw _ (List.mem_of_getElem? (i := 34) rfl)) (hw _ (List.mem_of_getElem? (i := 8) rfl)) (by decide) (own_m6 hw a846 a861 a862 3 (2 : Int32) (own_upd (own_upd (own_upd (own_upd (fun _ => (0 : Int32)) 0 x0) 1 x1) 2 x2) 1 x2) (own_upd (own_upd (own_upd (own_upd (own_upd (fun _ => (-1 : Int32)) A0 (0 : Int32)) A1 (1 : Int32)) A2 (2 : Int32)) A2 (1 : Int32)) A1 (-1 : Int32)) x2 A2 1 (1 : Int32) x2 1 A2 (1 : Int32) Z978 F980 ga848 ga864 ga866 ne878 ne880 F876 F981 F982 F983 F984 F985 hA2 (by omega) (by simp [own_upd, d01, d02, d12, Ne.symm d01, Ne.symm d02, Ne.symm d12]) (by decide) (by decide) (by decide) (by decide) rfl hA2 (by omega) (by decide)) (by decide) (by decide) (lenOf own_pd2 rfl) rfl (Nat.le_of_eq rfl) at_312 rfl rfl (by decide) (by decide) (fun v1035 h1036 hq1037 => ?_)
          obtain ⟨rfl, K1038, F1039, F1040, F1041, F1042, F1043, F1044⟩ := hq1037
          have Z1046 : n0 ≤ h1036.size := Nat.le_trans Z978 K1038.1
          have F1047 : own_AI Z h1036 a6 3 (own_upd (own_upd (own_upd (fun _ => (0 : Int32)) 0 x0) 1 x1) 2 x2) := own_A.keep F979 K1038 (ninS ne853 (ninS ne877 (ninS ne879 nin0)))
          have F1048 : Exa Z h1036 a846 "com/example/murmuration/murmuration/search/IndexedSet" := Exa.keep F980 K1038
          have F1049 : own_AI Z h1036 a944 2 (own_upd (own_upd (fun _ => (0 : Int32)) 0 x0) 1 x2) := own_A.keep F986 K1038 (ninS (Ne.symm ne951) (ninS (Ne.symm ne952) (ninS (Ne.symm ne953) nin0)))
          show own_Run p_ l e_ _ s_ m_ _ b_ mt_ c_ n0 _ h1036 _ _ (mkF m_ 315 #[.val (.int p0), .val (.int p1), .val (.int p2), .val (.int p3), .val (.int x150), .val (.int z5), .val (.ref a6), .val (.int (3 : Int32)), .val (.int (1 : Int32)), .val (.ref a846), .val (.ref a944), .val (.int (1 : Int32)), .val (.int (2 : Int32)), .val (.int (1 : Int32)), .unset] [])
          refine own_iload C (pc' := 317) at_315 rfl rfl ?_
          refine own_i0_ne C (pc1 := 330) (pc2 := 320) at_317 rfl rfl (fun c1050 => ?_) (fun c1050 => absurd c1050 (by decide))
          refine own_aload C (pc' := 332) at_330 rfl rfl rfl ?_
          refine own_iconst C (pc' := 333) (v := (0 : Int32)) at_332 rfl (by decide) ?_
          refine own_ldIV C (pc' := 334) F1049 (i := 0) (v := x0) (by decide) (by decide) rfl at_333 rfl ?_
          refine own_istore C (pc' := 336) (Ls' := #[.val (.int p0), .val (.int p1), .val (.int p2), .val (.int p3), .val (.int x150), .val (.int z5), .val (.ref a6), .val (.int (3 : Int32)), .val (.int (1 : Int32)), .val (.ref a846), .val (.ref a944), .val (.int (1 : Int32)), .val (.int (2 : Int32)), .val (.int (1 : Int32)), .val (.int x0)]) at_334 rfl rfl ?_
          refine own_iload C (pc' := 338) at_336 rfl rfl ?_
          refine own_iconst C (pc' := 339) (v := (3 : Int32)) at_338 rfl (by decide) ?_
          refine own_ii_lt C (pc1 := 365) (pc2 := 342) at_339 rfl rfl (fun c1051 => absurd c1051 (by decide)) (fun c1051 => ?_)
          refine own_iload C (pc' := 344) at_342 rfl rfl ?_
          refine own_i0_eq C (pc1 := 362) (pc2 := 347) at_344 rfl rfl (fun c1052 => absurd c1052 (by decide)) (fun c1052 => ?_)
          refine own_aload C (pc' := 349) at_347 rfl rfl rfl ?_
          refine own_iconst C (pc' := 350) (v := (0 : Int32)) at_349 rfl (by decide) ?_
          refine own_callV C (pc' := 353) (y := (⟨"com/example/murmuration/murmuration/search/IndexedSet", "get", "(I)I"⟩ : MethodName)) (a := a846) (argsL := [(.int (0 : Int32))]) (rest := []) 0 F1039 (hw _ (List.mem_of_getElem? (i := 45) rfl)) (hw _ (List.mem_of_getElem? (i := 46) rfl)) (hw _ (List.mem_of_getElem? (i := 48) rfl)) (hw _ (List.mem_of_getElem? (i := 47) rfl)) (hw _ (List.mem_of_getElem? (i := 49) rfl)) (hw _ (List.mem_of_getElem? (i := 8) rfl)) (by decide) (own_m9 hw a846 a861 3 (own_upd (own_upd (own_upd (own_upd (own_upd (fun _ => (0 : Int32)) 0 x0) 1 x1) 2 x2) 1 x2) 1 x2) (0 : Int32) 0 x0 Z1046 F1040 F1043 (by decide) (by decide) rfl) (by decide) (by decide) (lenOf own_pd5 rfl) rfl (Nat.le_of_eq rfl) at_350 rfl rfl (by decide) (by decide) (fun v1053 h1054 hq1055 => ?_)
          obtain ⟨rfl, rfl⟩ := hq1055
          show own_Run p_ l e_ _ s_ m_ _ b_ mt_ c_ n0 _ h1036 _ _ (mkF m_ 353 #[.val (.int p0), .val (.int p1), .val (.int p2), .val (.int p3), .val (.int x150), .val (.int z5), .val (.ref a6), .val (.int (3 : Int32)), .val (.int (1 : Int32)), .val (.ref a846), .val (.ref a944), .val (.int (1 : Int32)), .val (.int (2 : Int32)), .val (.int (1 : Int32)), .val (.int x0)] [(.int x0)])
          refine own_iload C (pc' := 355) at_353 rfl rfl ?_
          refine own_ii_ne C (pc1 := 362) (pc2 := 358) at_355 rfl rfl (fun c1056 => absurd c1056 (not_not_intro rfl)) (fun c1056 => ?_)
          refine own_iconst C (pc' := 359) (v := (1 : Int32)) at_358 rfl (by decide) ?_
          refine own_goto C (pc' := 363) at_359 rfl ?_
          refine own_istore C (pc' := 365) (Ls' := #[.val (.int p0), .val (.int p1), .val (.int p2), .val (.int p3), .val (.int x150), .val (.int z5), .val (.ref a6), .val (.int (3 : Int32)), .val (.int (1 : Int32)), .val (.ref a846), .val (.ref a944), .val (.int (1 : Int32)), .val (.int (2 : Int32)), .val (.int (1 : Int32)), .val (.int x0)]) at_363 rfl rfl ?_
          refine own_iload C (pc' := 367) at_365 rfl rfl ?_
          refine own_iconst C (pc' := 368) (v := (2 : Int32)) at_367 rfl (by decide) ?_
          refine own_isubV C (pc' := 369) (v := (1 : Int32)) at_368 rfl (by decide) ?_
          refine own_istore C (pc' := 371) (Ls' := #[.val (.int p0), .val (.int p1), .val (.int p2), .val (.int p3), .val (.int x150), .val (.int z5), .val (.ref a6), .val (.int (3 : Int32)), .val (.int (1 : Int32)), .val (.ref a846), .val (.ref a944), .val (.int (1 : Int32)), .val (.int (1 : Int32)), .val (.int (1 : Int32)), .val (.int x0)]) at_369 rfl rfl ?_
          refine own_iload C (pc' := 373) at_371 rfl rfl ?_
          refine own_i0_eq C (pc1 := 390) (pc2 := 376) at_373 rfl rfl (fun c1057 => absurd c1057 (by decide)) (fun c1057 => ?_)
          refine own_aload C (pc' := 378) at_376 rfl rfl rfl ?_
          refine own_callV C (pc' := 381) (y := (⟨"com/example/murmuration/murmuration/search/IndexedSet", "size", "()I"⟩ : MethodName)) (a := a846) (argsL := []) (rest := []) 0 F1039 (hw _ (List.mem_of_getElem? (i := 40) rfl)) (hw _ (List.mem_of_getElem? (i := 41) rfl)) (hw _ (List.mem_of_getElem? (i := 43) rfl)) (hw _ (List.mem_of_getElem? (i := 42) rfl)) (hw _ (List.mem_of_getElem? (i := 44) rfl)) (hw _ (List.mem_of_getElem? (i := 8) rfl)) (by decide) (own_m8 hw a846 (1 : Int32) Z1046 F1042 ) (by decide) (by decide) (lenOf own_pd4 rfl) rfl (Nat.le_of_eq rfl) at_378 rfl rfl (by decide) (by decide) (fun v1058 h1059 hq1060 => ?_)
          obtain ⟨rfl, rfl⟩ := hq1060
          show own_Run p_ l e_ _ s_ m_ _ b_ mt_ c_ n0 _ h1036 _ _ (mkF m_ 381 #[.val (.int p0), .val (.int p1), .val (.int p2), .val (.int p3), .val (.int x150), .val (.int z5), .val (.ref a6), .val (.int (3 : Int32)), .val (.int (1 : Int32)), .val (.ref a846), .val (.ref a944), .val (.int (1 : Int32)), .val (.int (1 : Int32)), .val (.int (1 : Int32)), .val (.int x0)] [(.int (1 : Int32))])
          refine own_iload C (pc' := 383) at_381 rfl rfl ?_
          refine own_ii_ne C (pc1 := 390) (pc2 := 386) at_383 rfl rfl (fun c1061 => absurd c1061 (by decide)) (fun c1061 => ?_)
          refine own_iconst C (pc' := 387) (v := (1 : Int32)) at_386 rfl (by decide) ?_
          refine own_goto C (pc' := 391) at_387 rfl ?_
          refine own_istore C (pc' := 393) (Ls' := #[.val (.int p0), .val (.int p1), .val (.int p2), .val (.int p3), .val (.int x150), .val (.int z5), .val (.ref a6), .val (.int (3 : Int32)), .val (.int (1 : Int32)), .val (.ref a846), .val (.ref a944), .val (.int (1 : Int32)), .val (.int (1 : Int32)), .val (.int (1 : Int32)), .val (.int x0)]) at_391 rfl rfl ?_
          refine own_iload C (pc' := 395) at_393 rfl rfl ?_
          exact own_ret C (t := .boolean) rfl rfl (Or.inl ⟨rfl, by simp, _, rfl⟩) at_395 (by decide) (by decide) (rfl)
      · skip
        rw [e627]
        show own_Run p_ l e_ _ s_ m_ _ b_ mt_ c_ n0 _ hh _ _ (mkF m_ 90 #[.val (.int p0), .val (.int p1), .val (.int p2), .val (.int p3), .val (.int x150), .val (.int z5), .val (.ref a6), .val (.int (3 : Int32)), .val (.int (2 : Int32)), .unset, .unset, .unset, .unset, .unset, .unset] [])
        refine own_new C (pc' := 93) (hw _ (List.mem_of_getElem? (i := 6) rfl)) (hw _ (List.mem_of_getElem? (i := 7) rfl)) (hw _ (List.mem_of_getElem? (i := 8) rfl)) Z1 at_90 rfl (by decide) (by decide) (fun h1062 a1063 ea1064 ga1065 Z1066 E1067 A1068 D1069 => ?_)
        have ne1070 : a6 ≠ a1063 := by rw [ea1064]; exact Nat.ne_of_lt (own_A.lt V6)
        have F1071 : own_AI Z h1062 a6 3 (own_upd (own_upd (own_upd (fun _ => (0 : Int32)) 0 x0) 1 x1) 2 x2) := own_A.ext V6 E1067
        have F1072 : Fld Z h1062 a1063 "com/example/murmuration/murmuration/search/IndexedSet" "members" "[I" .null := D1069 (Or.inr (hw _ (List.mem_of_getElem? (i := 16) rfl))) (ty := (.array .int)) (by decide)
        have F1073 : Fld Z h1062 a1063 "com/example/murmuration/murmuration/search/IndexedSet" "positions" "[I" .null := D1069 (Or.inr (hw _ (List.mem_of_getElem? (i := 18) rfl))) (ty := (.array .int)) (by decide)
        have F1074 : Fld Z h1062 a1063 "com/example/murmuration/murmuration/search/IndexedSet" "size" "I" (.int (0 : Int32)) := D1069 (Or.inl (hw _ (List.mem_of_getElem? (i := 29) rfl))) (ty := .int) (by decide)
        refine own_dup C (pc' := 94) at_93 rfl rfl ?_
        refine own_iconst C (pc' := 95) (v := (3 : Int32)) at_94 rfl (by decide) ?_
        refine own_callN C (pc' := 98) (y := (⟨"com/example/murmuration/murmuration/search/IndexedSet", "<init>", "(I)V"⟩ : MethodName)) (a := a1063) (argsL := [(.int (3 : Int32))]) (rest := [(.ref a1063)]) 1 rfl (hw _ (List.mem_of_getElem? (i := 9) rfl)) (hw _ (List.mem_of_getElem? (i := 10) rfl)) (hw _ (List.mem_of_getElem? (i := 11) rfl)) (hw _ (List.mem_of_getElem? (i := 8) rfl)) (by decide) (own_m2 hw a1063 (3 : Int32) 3 Z1066 A1068 ga1065 F1072 F1073 F1074 (by decide) (by omega)) (by decide) (by decide) (lenOf own_pd2 rfl) rfl (Nat.le_of_eq rfl) at_95 rfl rfl (by decide) (by decide) (fun v1075 h1076 hq1077 => ?_)
        obtain ⟨a1078, a1079, rfl, K1080, ⟨ga1081, gk1082⟩, ⟨ga1083, gk1084⟩, F1085, F1086, F1087, F1088, F1089, F1090, F1091, F1092, F1093⟩ := hq1077
        have ne1094 : a6 ≠ a1078 := Nat.ne_of_lt (Nat.lt_of_lt_of_le (own_A.lt F1071) gk1082)
        have ne1095 : a1063 ≠ a1078 := Nat.ne_of_lt (Nat.lt_of_lt_of_le (Exa.lt A1068) gk1082)
        have ne1096 : a6 ≠ a1079 := Nat.ne_of_lt (Nat.lt_of_lt_of_le (own_A.lt F1071) gk1084)
        have ne1097 : a1063 ≠ a1079 := Nat.ne_of_lt (Nat.lt_of_lt_of_le (Exa.lt A1068) gk1084)
        have Z1099 : n0 ≤ h1076.size := Nat.le_trans Z1066 K1080.1
        have F1100 : own_AI Z h1076 a6 3 (own_upd (own_upd (own_upd (fun _ => (0 : Int32)) 0 x0) 1 x1) 2 x2) := own_A.keep F1071 K1080 (ninS ne1070 nin0)
        have F1101 : Exa Z h1076 a1063 "com/example/murmuration/murmuration/search/IndexedSet" := Exa.keep A1068 K1080
        show own_Run p_ l e_ _ s_ m_ _ b_ mt_ c_ n0 _ h1076 _ _ (mkF m_ 98 #[.val (.int p0), .val (.int p1), .val (.int p2), .val (.int p3), .val (.int x150), .val (.int z5), .val (.ref a6), .val (.int (3 : Int32)), .val (.int (2 : Int32)), .unset, .unset, .unset, .unset, .unset, .unset] [(.ref a1063)])
        refine own_astore C (pc' := 100) (Ls' := #[.val (.int p0), .val (.int p1), .val (.int p2), .val (.int p3), .val (.int x150), .val (.int z5), .val (.ref a6), .val (.int (3 : Int32)), .val (.int (2 : Int32)), .val (.ref a1063), .unset, .unset, .unset, .unset, .unset]) at_98 rfl rfl rfl ?_
        refine own_aload C (pc' := 102) at_100 rfl rfl rfl ?_
        refine own_aload C (pc' := 104) at_102 rfl rfl rfl ?_
        refine own_iconst C (pc' := 105) (v := (0 : Int32)) at_104 rfl (by decide) ?_
        refine own_ldIV C (pc' := 106) F1100 (i := 0) (v := x0) (by decide) (by decide) rfl at_105 rfl ?_
        refine own_callV C (pc' := 109) (y := (⟨"com/example/murmuration/murmuration/search/IndexedSet", "add", "(I)V"⟩ : MethodName)) (a := a1063) (argsL := [(.int x0)]) (rest := []) 0 F1085 (hw _ (List.mem_of_getElem? (i := 23) rfl)) (hw _ (List.mem_of_getElem? (i := 24) rfl)) (hw _ (List.mem_of_getElem? (i := 26) rfl)) (hw _ (List.mem_of_getElem? (i := 25) rfl)) (hw _ (List.mem_of_getElem? (i := 27) rfl)) (hw _ (List.mem_of_getElem? (i := 8) rfl)) (by decide) (own_m5 hw a1063 a1078 a1079 3 (0 : Int32) (fun _ => (0 : Int32)) (fun _ => (-1 : Int32)) x0 A0 0 (1 : Int32) Z1099 F1085 ga1065 ga1081 ga1083 ne1095 ne1097 F1093 F1086 F1087 F1088 F1089 F1090 hA0 (by omega) (by decide) (by decide) (by decide)) (by decide) (by decide) (lenOf own_pd2 rfl) rfl (Nat.le_of_eq rfl) at_106 rfl rfl (by decide) (by decide) (fun v1102 h1103 hq1104 => ?_)
        obtain ⟨rfl, K1105, F1106, F1107, F1108, F1109, F1110, F1111⟩ := hq1104
        have Z1113 : n0 ≤ h1103.size := Nat.le_trans Z1099 K1105.1
        have F1114 : own_AI Z h1103 a6 3 (own_upd (own_upd (own_upd (fun _ => (0 : Int32)) 0 x0) 1 x1) 2 x2) := own_A.keep F1100 K1105 (ninS ne1070 (ninS ne1094 (ninS ne1096 nin0)))
        have F1115 : Exa Z h1103 a1063 "com/example/murmuration/murmuration/search/IndexedSet" := Exa.keep F1085 K1105
        show own_Run p_ l e_ _ s_ m_ _ b_ mt_ c_ n0 _ h1103 _ _ (mkF m_ 109 #[.val (.int p0), .val (.int p1), .val (.int p2), .val (.int p3), .val (.int x150), .val (.int z5), .val (.ref a6), .val (.int (3 : Int32)), .val (.int (2 : Int32)), .val (.ref a1063), .unset, .unset, .unset, .unset, .unset] [])
        refine own_iload C (pc' := 111) at_109 rfl rfl ?_
        refine own_iconst C (pc' := 112) (v := (2 : Int32)) at_111 rfl (by decide) ?_
        refine own_ii_lt C (pc1 := 124) (pc2 := 115) at_112 rfl rfl (fun c1116 => absurd c1116 (by decide)) (fun c1116 => ?_)
        refine own_aload C (pc' := 117) at_115 rfl rfl rfl ?_
        refine own_aload C (pc' := 119) at_117 rfl rfl rfl ?_
        refine own_iconst C (pc' := 120) (v := (1 : Int32)) at_119 rfl (by decide) ?_
        refine own_ldIV C (pc' := 121) F1114 (i := 1) (v := x1) (by decide) (by decide) rfl at_120 rfl ?_
        refine own_callV C (pc' := 124) (y := (⟨"com/example/murmuration/murmuration/search/IndexedSet", "add", "(I)V"⟩ : MethodName)) (a := a1063) (argsL := [(.int x1)]) (rest := []) 0 F1106 (hw _ (List.mem_of_getElem? (i := 23) rfl)) (hw _ (List.mem_of_getElem? (i := 24) rfl)) (hw _ (List.mem_of_getElem? (i := 26) rfl)) (hw _ (List.mem_of_getElem? (i := 25) rfl)) (hw _ (List.mem_of_getElem? (i := 27) rfl)) (hw _ (List.mem_of_getElem? (i := 8) rfl)) (by decide) (own_m5 hw a1063 a1078 a1079 3 (1 : Int32) (own_upd (fun _ => (0 : Int32)) 0 x0) (own_upd (fun _ => (-1 : Int32)) A0 (0 : Int32)) x1 A1 1 (2 : Int32) Z1113 F1106 ga1065 ga1081 ga1083 ne1095 ne1097 F1093 F1107 F1108 F1109 F1110 F1111 hA1 (by omega) (by decide) (by decide) (by decide)) (by decide) (by decide) (lenOf own_pd2 rfl) rfl (Nat.le_of_eq rfl) at_121 rfl rfl (by decide) (by decide) (fun v1117 h1118 hq1119 => ?_)
        obtain ⟨rfl, K1120, F1121, F1122, F1123, F1124, F1125, F1126⟩ := hq1119
        have Z1128 : n0 ≤ h1118.size := Nat.le_trans Z1113 K1120.1
        have F1129 : own_AI Z h1118 a6 3 (own_upd (own_upd (own_upd (fun _ => (0 : Int32)) 0 x0) 1 x1) 2 x2) := own_A.keep F1114 K1120 (ninS ne1070 (ninS ne1094 (ninS ne1096 nin0)))
        have F1130 : Exa Z h1118 a1063 "com/example/murmuration/murmuration/search/IndexedSet" := Exa.keep F1106 K1120
        show own_Run p_ l e_ _ s_ m_ _ b_ mt_ c_ n0 _ h1118 _ _ (mkF m_ 124 #[.val (.int p0), .val (.int p1), .val (.int p2), .val (.int p3), .val (.int x150), .val (.int z5), .val (.ref a6), .val (.int (3 : Int32)), .val (.int (2 : Int32)), .val (.ref a1063), .unset, .unset, .unset, .unset, .unset] [])
        refine own_iload C (pc' := 126) at_124 rfl rfl ?_
        refine own_iconst C (pc' := 127) (v := (3 : Int32)) at_126 rfl (by decide) ?_
        refine own_ii_lt C (pc1 := 139) (pc2 := 130) at_127 rfl rfl (fun c1131 => absurd c1131 (by decide)) (fun c1131 => ?_)
        refine own_aload C (pc' := 132) at_130 rfl rfl rfl ?_
        refine own_aload C (pc' := 134) at_132 rfl rfl rfl ?_
        refine own_iconst C (pc' := 135) (v := (2 : Int32)) at_134 rfl (by decide) ?_
        refine own_ldIV C (pc' := 136) F1129 (i := 2) (v := x2) (by decide) (by decide) rfl at_135 rfl ?_
        refine own_callV C (pc' := 139) (y := (⟨"com/example/murmuration/murmuration/search/IndexedSet", "add", "(I)V"⟩ : MethodName)) (a := a1063) (argsL := [(.int x2)]) (rest := []) 0 F1121 (hw _ (List.mem_of_getElem? (i := 23) rfl)) (hw _ (List.mem_of_getElem? (i := 24) rfl)) (hw _ (List.mem_of_getElem? (i := 26) rfl)) (hw _ (List.mem_of_getElem? (i := 25) rfl)) (hw _ (List.mem_of_getElem? (i := 27) rfl)) (hw _ (List.mem_of_getElem? (i := 8) rfl)) (by decide) (own_m5 hw a1063 a1078 a1079 3 (2 : Int32) (own_upd (own_upd (fun _ => (0 : Int32)) 0 x0) 1 x1) (own_upd (own_upd (fun _ => (-1 : Int32)) A0 (0 : Int32)) A1 (1 : Int32)) x2 A2 2 (3 : Int32) Z1128 F1121 ga1065 ga1081 ga1083 ne1095 ne1097 F1093 F1122 F1123 F1124 F1125 F1126 hA2 (by omega) (by decide) (by decide) (by decide)) (by decide) (by decide) (lenOf own_pd2 rfl) rfl (Nat.le_of_eq rfl) at_136 rfl rfl (by decide) (by decide) (fun v1132 h1133 hq1134 => ?_)
        obtain ⟨rfl, K1135, F1136, F1137, F1138, F1139, F1140, F1141⟩ := hq1134
        have Z1143 : n0 ≤ h1133.size := Nat.le_trans Z1128 K1135.1
        have F1144 : own_AI Z h1133 a6 3 (own_upd (own_upd (own_upd (fun _ => (0 : Int32)) 0 x0) 1 x1) 2 x2) := own_A.keep F1129 K1135 (ninS ne1070 (ninS ne1094 (ninS ne1096 nin0)))
        have F1145 : Exa Z h1133 a1063 "com/example/murmuration/murmuration/search/IndexedSet" := Exa.keep F1121 K1135
        show own_Run p_ l e_ _ s_ m_ _ b_ mt_ c_ n0 _ h1133 _ _ (mkF m_ 139 #[.val (.int p0), .val (.int p1), .val (.int p2), .val (.int p3), .val (.int x150), .val (.int z5), .val (.ref a6), .val (.int (3 : Int32)), .val (.int (2 : Int32)), .val (.ref a1063), .unset, .unset, .unset, .unset, .unset] [])
        refine own_aload C (pc' := 141) at_139 rfl rfl rfl ?_
        refine own_aload C (pc' := 143) at_141 rfl rfl rfl ?_
        refine own_iload C (pc' := 145) at_143 rfl rfl ?_
        refine own_ldIV C (pc' := 146) F1144 (i := 2) (v := x2) (by decide) (by decide) rfl at_145 rfl ?_
        refine own_callV C (pc' := 149) (y := (⟨"com/example/murmuration/murmuration/search/IndexedSet", "remove", "(I)V"⟩ : MethodName)) (a := a1063) (argsL := [(.int x2)]) (rest := []) 0 F1136 (hw _ (List.mem_of_getElem? (i := 30) rfl)) (hw _ (List.mem_of_getElem? (i := 31) rfl)) (hw _ (List.mem_of_getElem? (i := 33) rfl)) (hw _ (List.mem_of_getElem? (i := 32) rfl)) (hw _ (List.mem_of_getElem? (i := 34) rfl)) (hw _ (List.mem_of_getElem? (i := 8) rfl)) (by decide) (own_m6 hw a1063 a1078 a1079 3 (3 : Int32) (own_upd (own_upd (own_upd (fun _ => (0 : Int32)) 0 x0) 1 x1) 2 x2) (own_upd (own_upd (own_upd (fun _ => (-1 : Int32)) A0 (0 : Int32)) A1 (1 : Int32)) A2 (2 : Int32)) x2 A2 2 (2 : Int32) x2 2 A2 (2 : Int32) Z1143 F1136 ga1065 ga1081 ga1083 ne1095 ne1097 F1093 F1137 F1138 F1139 F1140 F1141 hA2 (by omega) (by simp [own_upd, d01, d02, d12, Ne.symm d01, Ne.symm d02, Ne.symm d12]) (by decide) (by decide) (by decide) (by decide) rfl hA2 (by omega) (by decide)) (by decide) (by decide) (lenOf own_pd2 rfl) rfl (Nat.le_of_eq rfl) at_146 rfl rfl (by decide) (by decide) (fun v1146 h1147 hq1148 => ?_)
        obtain ⟨rfl, K1149, F1150, F1151, F1152, F1153, F1154, F1155⟩ := hq1148
        have Z1157 : n0 ≤ h1147.size := Nat.le_trans Z1143 K1149.1
        have F1158 : own_AI Z h1147 a6 3 (own_upd (own_upd (own_upd (fun _ => (0 : Int32)) 0 x0) 1 x1) 2 x2) := own_A.keep F1144 K1149 (ninS ne1070 (ninS ne1094 (ninS ne1096 nin0)))
        have F1159 : Exa Z h1147 a1063 "com/example/murmuration/murmuration/search/IndexedSet" := Exa.keep F1136 K1149
        show own_Run p_ l e_ _ s_ m_ _ b_ mt_ c_ n0 _ h1147 _ _ (mkF m_ 149 #[.val (.int p0), .val (.int p1), .val (.int p2), .val (.int p3), .val (.int x150), .val (.int z5), .val (.ref a6), .val (.int (3 : Int32)), .val (.int (2 : Int32)), .val (.ref a1063), .unset, .unset, .unset, .unset, .unset] [])
        refine own_iconst C (pc' := 150) (v := (2 : Int32)) at_149 rfl (by decide) ?_
        refine own_newAI C (pc' := 152) (hw _ (List.mem_of_getElem? (i := 5) rfl)) Z1157 at_150 rfl (nn := 2) (cap := 2) (by decide) (by decide) (by decide) (by decide) (by decide) (fun h1160 a1161 ea1162 ga1163 Z1164 E1165 V1166 => ?_)
        have ne1167 : a6 ≠ a1161 := by rw [ea1162]; exact Nat.ne_of_lt (own_A.lt F1158)
        have ne1168 : a1063 ≠ a1161 := by rw [ea1162]; exact Nat.ne_of_lt (Exa.lt F1150)
        have ne1169 : a1078 ≠ a1161 := by rw [ea1162]; exact Nat.ne_of_lt (own_A.lt F1154)
        have ne1170 : a1079 ≠ a1161 := by rw [ea1162]; exact Nat.ne_of_lt (own_A.lt F1155)
        have F1171 : own_AI Z h1160 a6 3 (own_upd (own_upd (own_upd (fun _ => (0 : Int32)) 0 x0) 1 x1) 2 x2) := own_A.ext F1158 E1165
        have F1172 : Exa Z h1160 a1063 "com/example/murmuration/murmuration/search/IndexedSet" := Exa.ext E1165 F1150
        have F1173 : Fld Z h1160 a1063 "com/example/murmuration/murmuration/search/IndexedSet" "members" "[I" (.ref a1078) := Fld.ext E1165 F1151
        have F1174 : Fld Z h1160 a1063 "com/example/murmuration/murmuration/search/IndexedSet" "positions" "[I" (.ref a1079) := Fld.ext E1165 F1152
        have F1175 : Fld Z h1160 a1063 "com/example/murmuration/murmuration/search/IndexedSet" "size" "I" (.int (2 : Int32)) := Fld.ext E1165 F1153
        have F1176 : own_AI Z h1160 a1078 3 (own_upd (own_upd (own_upd (own_upd (fun _ => (0 : Int32)) 0 x0) 1 x1) 2 x2) 2 x2) := own_A.ext F1154 E1165
        have F1177 : own_AI Z h1160 a1079 3 (own_upd (own_upd (own_upd (own_upd (own_upd (fun _ => (-1 : Int32)) A0 (0 : Int32)) A1 (1 : Int32)) A2 (2 : Int32)) A2 (2 : Int32)) A2 (-1 : Int32)) := own_A.ext F1155 E1165
        refine own_astore C (pc' := 154) (Ls' := #[.val (.int p0), .val (.int p1), .val (.int p2), .val (.int p3), .val (.int x150), .val (.int z5), .val (.ref a6), .val (.int (3 : Int32)), .val (.int (2 : Int32)), .val (.ref a1063), .val (.ref a1161), .unset, .unset, .unset, .unset]) at_152 rfl rfl rfl ?_
        refine own_aload C (pc' := 156) at_154 rfl rfl rfl ?_
        refine own_iconst C (pc' := 157) (v := (0 : Int32)) at_156 rfl (by decide) ?_
        refine own_iload C (pc' := 159) at_157 rfl rfl ?_
        refine own_i0_ne C (pc1 := 172) (pc2 := 162) at_159 rfl rfl (fun c1178 => ?_) (fun c1178 => absurd c1178 (by decide))
        refine own_aload C (pc' := 174) at_172 rfl rfl rfl ?_
        refine own_iconst C (pc' := 175) (v := (0 : Int32)) at_174 rfl (by decide) ?_
        refine own_ldIV C (pc' := 176) F1171 (i := 0) (v := x0) (by decide) (by decide) rfl at_175 rfl ?_
        refine own_stI C (pc' := 177) V1166 (i := 0) (by decide) (by decide) ga1163 at_176 rfl (fun h1179 W1180 V1181 => ?_)
        have Z1182 : n0 ≤ h1179.size := Nat.le_trans Z1164 (Nat.le_of_eq (Wr.size W1180).symm)
        have F1183 : own_AI Z h1179 a6 3 (own_upd (own_upd (own_upd (fun _ => (0 : Int32)) 0 x0) 1 x1) 2 x2) := own_A.other F1171 W1180 ne1167
        have F1184 : Exa Z h1179 a1063 "com/example/murmuration/murmuration/search/IndexedSet" := Exa.wr W1180 F1172
        have F1185 : Fld Z h1179 a1063 "com/example/murmuration/murmuration/search/IndexedSet" "members" "[I" (.ref a1078) := Fld.other W1180 F1173 (Or.inl ne1168)
        have F1186 : Fld Z h1179 a1063 "com/example/murmuration/murmuration/search/IndexedSet" "positions" "[I" (.ref a1079) := Fld.other W1180 F1174 (Or.inl ne1168)
        have F1187 : Fld Z h1179 a1063 "com/example/murmuration/murmuration/search/IndexedSet" "size" "I" (.int (2 : Int32)) := Fld.other W1180 F1175 (Or.inl ne1168)
        have F1188 : own_AI Z h1179 a1078 3 (own_upd (own_upd (own_upd (own_upd (fun _ => (0 : Int32)) 0 x0) 1 x1) 2 x2) 2 x2) := own_A.other F1176 W1180 ne1169
        have F1189 : own_AI Z h1179 a1079 3 (own_upd (own_upd (own_upd (own_upd (own_upd (fun _ => (-1 : Int32)) A0 (0 : Int32)) A1 (1 : Int32)) A2 (2 : Int32)) A2 (2 : Int32)) A2 (-1 : Int32)) := own_A.other F1177 W1180 ne1170
        have F1190 : own_AI Z h1179 a1161 2 (own_upd (fun _ => (0 : Int32)) 0 x0) := V1181
        refine own_aload C (pc' := 179) at_177 rfl rfl rfl ?_
        refine own_iconst C (pc' := 180) (v := (1 : Int32)) at_179 rfl (by decide) ?_
        refine own_iload C (pc' := 182) at_180 rfl rfl ?_
        refine own_iconst C (pc' := 183) (v := (1 : Int32)) at_182 rfl (by decide) ?_
        refine own_ii_ne C (pc1 := 196) (pc2 := 186) at_183 rfl rfl (fun c1191 => ?_) (fun c1191 => absurd c1191 (by decide))
        refine own_aload C (pc' := 198) at_196 rfl rfl rfl ?_
        refine own_iconst C (pc' := 199) (v := (1 : Int32)) at_198 rfl (by decide) ?_
        refine own_ldIV C (pc' := 200) F1183 (i := 1) (v := x1) (by decide) (by decide) rfl at_199 rfl ?_
        refine own_stI C (pc' := 201) F1190 (i := 1) (by decide) (by decide) ga1163 at_200 rfl (fun h1192 W1193 V1194 => ?_)
        have Z1195 : n0 ≤ h1192.size := Nat.le_trans Z1182 (Nat.le_of_eq (Wr.size W1193).symm)
        have F1196 : own_AI Z h1192 a6 3 (own_upd (own_upd (own_upd (fun _ => (0 : Int32)) 0 x0) 1 x1) 2 x2) := own_A.other F1183 W1193 ne1167
        have F1197 : Exa Z h1192 a1063 "com/example/murmuration/murmuration/search/IndexedSet" := Exa.wr W1193 F1184
        have F1198 : Fld Z h1192 a1063 "com/example/murmuration/murmuration/search/IndexedSet" "members" "[I" (.ref a1078) := Fld.other W1193 F1185 (Or.inl ne1168)
        have F1199 : Fld Z h1192 a1063 "com/example/murmuration/murmuration/search/IndexedSet" "positions" "[I" (.ref a1079) := Fld.other W1193 F1186 (Or.inl ne1168)
        have F1200 : Fld Z h1192 a1063 "com/example/murmuration/murmuration/search/IndexedSet" "size" "I" (.int (2 : Int32)) := Fld.other W1193 F1187 (Or.inl ne1168)
        have F1201 : own_AI Z h1192 a1078 3 (own_upd (own_upd (own_upd (own_upd (fun _ => (0 : Int32)) 0 x0) 1 x1) 2 x2) 2 x2) := own_A.other F1188 W1193 ne1169
        have F1202 : own_AI Z h1192 a1079 3 (own_upd (own_upd (own_upd (own_upd (own_upd (fun _ => (-1 : Int32)) A0 (0 : Int32)) A1 (1 : Int32)) A2 (2 : Int32)) A2 (2 : Int32)) A2 (-1 : Int32)) := own_A.other F1189 W1193 ne1170
        have F1203 : own_AI Z h1192 a1161 2 (own_upd (own_upd (fun _ => (0 : Int32)) 0 x0) 1 x1) := V1194
        refine own_aload C (pc' := 203) at_201 rfl rfl rfl ?_
        refine own_aload C (pc' := 205) at_203 rfl rfl rfl ?_
        refine own_iload C (pc' := 207) at_205 rfl rfl ?_
        refine own_ldIV C (pc' := 208) F1196 (i := 2) (v := x2) (by decide) (by decide) rfl at_207 rfl ?_
        refine own_callV C (pc' := 211) (y := (⟨"com/example/murmuration/murmuration/search/IndexedSet", "contains", "(I)Z"⟩ : MethodName)) (a := a1063) (argsL := [(.int x2)]) (rest := []) 0 F1197 (hw _ (List.mem_of_getElem? (i := 35) rfl)) (hw _ (List.mem_of_getElem? (i := 36) rfl)) (hw _ (List.mem_of_getElem? (i := 38) rfl)) (hw _ (List.mem_of_getElem? (i := 37) rfl)) (hw _ (List.mem_of_getElem? (i := 39) rfl)) (hw _ (List.mem_of_getElem? (i := 8) rfl)) (by decide) (own_m7 hw a1063 a1079 3 (own_upd (own_upd (own_upd (own_upd (own_upd (fun _ => (-1 : Int32)) A0 (0 : Int32)) A1 (1 : Int32)) A2 (2 : Int32)) A2 (2 : Int32)) A2 (-1 : Int32)) x2 A2 (0 : Int32) Z1195 F1199 F1202 hA2 (by omega) (by simp [own_upd, d01, d02, d12, Ne.symm d01, Ne.symm d02, Ne.symm d12])) (by decide) (by decide) (lenOf own_pd3 rfl) rfl (Nat.le_of_eq rfl) at_208 rfl rfl (by decide) (by decide) (fun v1204 h1205 hq1206 => ?_)
        obtain ⟨rfl, rfl⟩ := hq1206
        show own_Run p_ l e_ _ s_ m_ _ b_ mt_ c_ n0 _ h1192 _ _ (mkF m_ 211 #[.val (.int p0), .val (.int p1), .val (.int p2), .val (.int p3), .val (.int x150), .val (.int z5), .val (.ref a6), .val (.int (3 : Int32)), .val (.int (2 : Int32)), .val (.ref a1063), .val (.ref a1161), .unset, .unset, .unset, .unset] [(.int (0 : Int32))])
        refine own_i0_ne C (pc1 := 218) (pc2 := 214) at_211 rfl rfl (fun c1207 => absurd c1207 (by decide)) (fun c1207 => ?_)
        refine own_iconst C (pc' := 215) (v := (1 : Int32)) at_214 rfl (by decide) ?_
        refine own_goto C (pc' := 219) at_215 rfl ?_
        refine own_istore C (pc' := 221) (Ls' := #[.val (.int p0), .val (.int p1), .val (.int p2), .val (.int p3), .val (.int x150), .val (.int z5), .val (.ref a6), .val (.int (3 : Int32)), .val (.int (2 : Int32)), .val (.ref a1063), .val (.ref a1161), .val (.int (1 : Int32)), .unset, .unset, .unset]) at_219 rfl rfl ?_
        refine own_iload C (pc' := 223) at_221 rfl rfl ?_
        refine own_iconst C (pc' := 224) (v := (2 : Int32)) at_223 rfl (by decide) ?_
        refine own_ii_lt C (pc1 := 252) (pc2 := 227) at_224 rfl rfl (fun c1208 => absurd c1208 (by decide)) (fun c1208 => ?_)
        refine own_iload C (pc' := 229) at_227 rfl rfl ?_
        refine own_i0_eq C (pc1 := 249) (pc2 := 232) at_229 rfl rfl (fun c1209 => absurd c1209 (by decide)) (fun c1209 => ?_)
        refine own_aload C (pc' := 234) at_232 rfl rfl rfl ?_
        refine own_iconst C (pc' := 235) (v := (0 : Int32)) at_234 rfl (by decide) ?_
        refine own_callV C (pc' := 238) (y := (⟨"com/example/murmuration/murmuration/search/IndexedSet", "get", "(I)I"⟩ : MethodName)) (a := a1063) (argsL := [(.int (0 : Int32))]) (rest := []) 0 F1197 (hw _ (List.mem_of_getElem? (i := 45) rfl)) (hw _ (List.mem_of_getElem? (i := 46) rfl)) (hw _ (List.mem_of_getElem? (i := 48) rfl)) (hw _ (List.mem_of_getElem? (i := 47) rfl)) (hw _ (List.mem_of_getElem? (i := 49) rfl)) (hw _ (List.mem_of_getElem? (i := 8) rfl)) (by decide) (own_m9 hw a1063 a1078 3 (own_upd (own_upd (own_upd (own_upd (fun _ => (0 : Int32)) 0 x0) 1 x1) 2 x2) 2 x2) (0 : Int32) 0 x0 Z1195 F1198 F1201 (by decide) (by decide) rfl) (by decide) (by decide) (lenOf own_pd5 rfl) rfl (Nat.le_of_eq rfl) at_235 rfl rfl (by decide) (by decide) (fun v1210 h1211 hq1212 => ?_)
        obtain ⟨rfl, rfl⟩ := hq1212
        show own_Run p_ l e_ _ s_ m_ _ b_ mt_ c_ n0 _ h1192 _ _ (mkF m_ 238 #[.val (.int p0), .val (.int p1), .val (.int p2), .val (.int p3), .val (.int x150), .val (.int z5), .val (.ref a6), .val (.int (3 : Int32)), .val (.int (2 : Int32)), .val (.ref a1063), .val (.ref a1161), .val (.int (1 : Int32)), .unset, .unset, .unset] [(.int x0)])
        refine own_aload C (pc' := 240) at_238 rfl rfl rfl ?_
        refine own_iconst C (pc' := 241) (v := (0 : Int32)) at_240 rfl (by decide) ?_
        refine own_ldIV C (pc' := 242) F1203 (i := 0) (v := x0) (by decide) (by decide) rfl at_241 rfl ?_
        refine own_ii_ne C (pc1 := 249) (pc2 := 245) at_242 rfl rfl (fun c1213 => absurd c1213 (not_not_intro rfl)) (fun c1213 => ?_)
        refine own_iconst C (pc' := 246) (v := (1 : Int32)) at_245 rfl (by decide) ?_
        refine own_goto C (pc' := 250) at_246 rfl ?_
        refine own_istore C (pc' := 252) (Ls' := #[.val (.int p0), .val (.int p1), .val (.int p2), .val (.int p3), .val (.int x150), .val (.int z5), .val (.ref a6), .val (.int (3 : Int32)), .val (.int (2 : Int32)), .val (.ref a1063), .val (.ref a1161), .val (.int (1 : Int32)), .unset, .unset, .unset]) at_250 rfl rfl ?_
        refine own_iload C (pc' := 254) at_252 rfl rfl ?_
        refine own_iconst C (pc' := 255) (v := (3 : Int32)) at_254 rfl (by decide) ?_
        refine own_ii_lt C (pc1 := 283) (pc2 := 258) at_255 rfl rfl (fun c1214 => absurd c1214 (by decide)) (fun c1214 => ?_)
        refine own_iload C (pc' := 260) at_258 rfl rfl ?_
        refine own_i0_eq C (pc1 := 280) (pc2 := 263) at_260 rfl rfl (fun c1215 => absurd c1215 (by decide)) (fun c1215 => ?_)
        refine own_aload C (pc' := 265) at_263 rfl rfl rfl ?_
        refine own_iconst C (pc' := 266) (v := (1 : Int32)) at_265 rfl (by decide) ?_
        refine own_callV C (pc' := 269) (y := (⟨"com/example/murmuration/murmuration/search/IndexedSet", "get", "(I)I"⟩ : MethodName)) (a := a1063) (argsL := [(.int (1 : Int32))]) (rest := []) 0 F1197 (hw _ (List.mem_of_getElem? (i := 45) rfl)) (hw _ (List.mem_of_getElem? (i := 46) rfl)) (hw _ (List.mem_of_getElem? (i := 48) rfl)) (hw _ (List.mem_of_getElem? (i := 47) rfl)) (hw _ (List.mem_of_getElem? (i := 49) rfl)) (hw _ (List.mem_of_getElem? (i := 8) rfl)) (by decide) (own_m9 hw a1063 a1078 3 (own_upd (own_upd (own_upd (own_upd (fun _ => (0 : Int32)) 0 x0) 1 x1) 2 x2) 2 x2) (1 : Int32) 1 x1 Z1195 F1198 F1201 (by decide) (by decide) rfl) (by decide) (by decide) (lenOf own_pd5 rfl) rfl (Nat.le_of_eq rfl) at_266 rfl rfl (by decide) (by decide) (fun v1216 h1217 hq1218 => ?_)
        obtain ⟨rfl, rfl⟩ := hq1218
        show own_Run p_ l e_ _ s_ m_ _ b_ mt_ c_ n0 _ h1192 _ _ (mkF m_ 269 #[.val (.int p0), .val (.int p1), .val (.int p2), .val (.int p3), .val (.int x150), .val (.int z5), .val (.ref a6), .val (.int (3 : Int32)), .val (.int (2 : Int32)), .val (.ref a1063), .val (.ref a1161), .val (.int (1 : Int32)), .unset, .unset, .unset] [(.int x1)])
        refine own_aload C (pc' := 271) at_269 rfl rfl rfl ?_
        refine own_iconst C (pc' := 272) (v := (1 : Int32)) at_271 rfl (by decide) ?_
        refine own_ldIV C (pc' := 273) F1203 (i := 1) (v := x1) (by decide) (by decide) rfl at_272 rfl ?_
        refine own_ii_ne C (pc1 := 280) (pc2 := 276) at_273 rfl rfl (fun c1219 => absurd c1219 (not_not_intro rfl)) (fun c1219 => ?_)
        refine own_iconst C (pc' := 277) (v := (1 : Int32)) at_276 rfl (by decide) ?_
        refine own_goto C (pc' := 281) at_277 rfl ?_
        refine own_istore C (pc' := 283) (Ls' := #[.val (.int p0), .val (.int p1), .val (.int p2), .val (.int p3), .val (.int x150), .val (.int z5), .val (.ref a6), .val (.int (3 : Int32)), .val (.int (2 : Int32)), .val (.ref a1063), .val (.ref a1161), .val (.int (1 : Int32)), .unset, .unset, .unset]) at_281 rfl rfl ?_
        refine own_iload C (pc' := 285) at_283 rfl rfl ?_
        refine own_iconst C (pc' := 286) (v := (1 : Int32)) at_285 rfl (by decide) ?_
        refine own_isubV C (pc' := 287) (v := (2 : Int32)) at_286 rfl (by decide) ?_
        refine own_istore C (pc' := 289) (Ls' := #[.val (.int p0), .val (.int p1), .val (.int p2), .val (.int p3), .val (.int x150), .val (.int z5), .val (.ref a6), .val (.int (3 : Int32)), .val (.int (2 : Int32)), .val (.ref a1063), .val (.ref a1161), .val (.int (1 : Int32)), .val (.int (2 : Int32)), .unset, .unset]) at_287 rfl rfl ?_
        refine own_iload C (pc' := 291) at_289 rfl rfl ?_
        refine own_iconst C (pc' := 292) (v := (2 : Int32)) at_291 rfl (by decide) ?_
        refine own_ii_lt C (pc1 := 371) (pc2 := 295) at_292 rfl rfl (fun c1220 => absurd c1220 (by decide)) (fun c1220 => ?_)
        refine own_iloadN C (pc' := 296) at_295 rfl rfl ?_
        refine own_iload C (pc' := 298) at_296 rfl rfl ?_
        refine own_iconst C (pc' := 299) (v := (1 : Int32)) at_298 rfl (by decide) ?_
        refine own_isubV C (pc' := 300) (v := (2 : Int32)) at_299 rfl (by decide) ?_
        refine own_callS C (pc' := 303) (y := (⟨"com/example/murmuration/murmuration/search/IndexedSetRemovePinLaw", "mod", "(II)I"⟩ : MethodName)) (argsL := [(.int p3), (.int (2 : Int32))]) (rest := []) 0 (hw _ (List.mem_of_getElem? (i := 0) rfl)) (hw _ (List.mem_of_getElem? (i := 1) rfl)) (hw _ (List.mem_of_getElem? (i := 2) rfl)) (hw _ (List.mem_of_getElem? (i := 3) rfl)) (by decide) (own_m1 hw p3 (2 : Int32)   (by decide)) (by decide) (by decide) (lenOf own_pd1 rfl) rfl (Nat.le_of_eq rfl) at_300 rfl rfl (by decide) (by decide) (fun v1221 h1222 hq1223 => ?_)
        obtain ⟨rfl, rfl⟩ := hq1223
        show own_Run p_ l e_ _ s_ m_ _ b_ mt_ c_ n0 _ h1192 _ _ (mkF m_ 303 #[.val (.int p0), .val (.int p1), .val (.int p2), .val (.int p3), .val (.int x150), .val (.int z5), .val (.ref a6), .val (.int (3 : Int32)), .val (.int (2 : Int32)), .val (.ref a1063), .val (.ref a1161), .val (.int (1 : Int32)), .val (.int (2 : Int32)), .unset, .unset] [(.int ((p3 &&& (2147483647 : Int32)) % (2 : Int32)))])
        refine own_istore C (pc' := 305) (Ls' := #[.val (.int p0), .val (.int p1), .val (.int p2), .val (.int p3), .val (.int x150), .val (.int z5), .val (.ref a6), .val (.int (3 : Int32)), .val (.int (2 : Int32)), .val (.ref a1063), .val (.ref a1161), .val (.int (1 : Int32)), .val (.int (2 : Int32)), .val (.int ((p3 &&& (2147483647 : Int32)) % (2 : Int32))), .unset]) at_303 rfl rfl ?_
        rcases own_md2 p3 with e1224 | e1224
        · skip
          rw [e1224]
          show own_Run p_ l e_ _ s_ m_ _ b_ mt_ c_ n0 _ h1192 _ _ (mkF m_ 305 #[.val (.int p0), .val (.int p1), .val (.int p2), .val (.int p3), .val (.int x150), .val (.int z5), .val (.ref a6), .val (.int (3 : Int32)), .val (.int (2 : Int32)), .val (.ref a1063), .val (.ref a1161), .val (.int (1 : Int32)), .val (.int (2 : Int32)), .val (.int (0 : Int32)), .unset] [])
          refine own_aload C (pc' := 307) at_305 rfl rfl rfl ?_
          refine own_aload C (pc' := 309) at_307 rfl rfl rfl ?_
          refine own_iload C (pc' := 311) at_309 rfl rfl ?_
          refine own_ldIV C (pc' := 312) F1203 (i := 0) (v := x0) (by decide) (by decide) rfl at_311 rfl ?_
          refine own_callV C (pc' := 315) (y := (⟨"com/example/murmuration/murmuration/search/IndexedSet", "remove", "(I)V"⟩ : MethodName)) (a := a1063) (argsL := [(.int x0)]) (rest := []) 0 F1197 (hw _ (List.mem_of_getElem? (i := 30) rfl)) (hw _ (List.mem_of_getElem? (i := 31) rfl)) (hw _ (List.mem_of_getElem? (i := 33) rfl)) (hw _ (List.mem_of_getElem? (i := 32) rfl)) (hw _ (List.mem_of_getElem? (i := 34) rfl)) (hw _ (List.mem_of_getElem? (i := 8) rfl)) (by decide) (own_m6 hw a1063 a1078 a1079 3 (2 : Int32) (own_upd (own_upd (own_upd (own_upd (fun _ => (0 : Int32)) 0 x0) 1 x1) 2 x2) 2 x2) (own_upd (own_upd (own_upd (own_upd (own_upd (fun _ => (-1 : Int32)) A0 (0 : Int32)) A1 (1 : Int32)) A2 (2 : Int32)) A2 (2 : Int32)) A2 (-1 : Int32)) x0 A0 1 (0 : Int32) x1 0 A1 (1 : Int32) Z1195 F1197 ga1065 ga1081 ga1083 ne1095 ne1097 F1093 F1198 F1199 F1200 F1201 F1202 hA0 (by omega) (by simp [own_upd, d01, d02, d12, Ne.symm d01, Ne.symm d02, Ne.symm d12]) (by decide) (by decide) (by decide) (by decide) rfl hA1 (by omega) (by decide)) (by decide) (by decide) (lenOf own_pd2 rfl) rfl (Nat.le_of_eq rfl) at_312 rfl rfl (by decide) (by decide) (fun v1225 h1226 hq1227 => ?_)
          obtain ⟨rfl, K1228, F1229, F1230, F1231, F1232, F1233, F1234⟩ := hq1227
          have Z1236 : n0 ≤ h1226.size := Nat.le_trans Z1195 K1228.1
          have F1237 : own_AI Z h1226 a6 3 (own_upd (own_upd (own_upd (fun _ => (0 : Int32)) 0 x0) 1 x1) 2 x2) := own_A.keep F1196 K1228 (ninS ne1070 (ninS ne1094 (ninS ne1096 nin0)))
          have F1238 : Exa Z h1226 a1063 "com/example/murmuration/murmuration/search/IndexedSet" := Exa.keep F1197 K1228
          have F1239 : own_AI Z h1226 a1161 2 (own_upd (own_upd (fun _ => (0 : Int32)) 0 x0) 1 x1) := own_A.keep F1203 K1228 (ninS (Ne.symm ne1168) (ninS (Ne.symm ne1169) (ninS (Ne.symm ne1170) nin0)))
          show own_Run p_ l e_ _ s_ m_ _ b_ mt_ c_ n0 _ h1226 _ _ (mkF m_ 315 #[.val (.int p0), .val (.int p1), .val (.int p2), .val (.int p3), .val (.int x150), .val (.int z5), .val (.ref a6), .val (.int (3 : Int32)), .val (.int (2 : Int32)), .val (.ref a1063), .val (.ref a1161), .val (.int (1 : Int32)), .val (.int (2 : Int32)), .val (.int (0 : Int32)), .unset] [])
          refine own_iload C (pc' := 317) at_315 rfl rfl ?_
          refine own_i0_ne C (pc1 := 330) (pc2 := 320) at_317 rfl rfl (fun c1240 => absurd c1240 (by decide)) (fun c1240 => ?_)
          refine own_aload C (pc' := 322) at_320 rfl rfl rfl ?_
          refine own_iload C (pc' := 324) at_322 rfl rfl ?_
          refine own_iconst C (pc' := 325) (v := (2 : Int32)) at_324 rfl (by decide) ?_
          refine own_isubV C (pc' := 326) (v := (1 : Int32)) at_325 rfl (by decide) ?_
          refine own_ldIV C (pc' := 327) F1239 (i := 1) (v := x1) (by decide) (by decide) rfl at_326 rfl ?_
          refine own_goto C (pc' := 334) at_327 rfl ?_
          refine own_istore C (pc' := 336) (Ls' := #[.val (.int p0), .val (.int p1), .val (.int p2), .val (.int p3), .val (.int x150), .val (.int z5), .val (.ref a6), .val (.int (3 : Int32)), .val (.int (2 : Int32)), .val (.ref a1063), .val (.ref a1161), .val (.int (1 : Int32)), .val (.int (2 : Int32)), .val (.int (0 : Int32)), .val (.int x1)]) at_334 rfl rfl ?_
          refine own_iload C (pc' := 338) at_336 rfl rfl ?_
          refine own_iconst C (pc' := 339) (v := (3 : Int32)) at_338 rfl (by decide) ?_
          refine own_ii_lt C (pc1 := 365) (pc2 := 342) at_339 rfl rfl (fun c1241 => absurd c1241 (by decide)) (fun c1241 => ?_)
          refine own_iload C (pc' := 344) at_342 rfl rfl ?_
          refine own_i0_eq C (pc1 := 362) (pc2 := 347) at_344 rfl rfl (fun c1242 => absurd c1242 (by decide)) (fun c1242 => ?_)
          refine own_aload C (pc' := 349) at_347 rfl rfl rfl ?_
          refine own_iconst C (pc' := 350) (v := (0 : Int32)) at_349 rfl (by decide) ?_
          refine own_callV C (pc' := 353) (y := (⟨"com/example/murmuration/murmuration/search/IndexedSet", "get", "(I)I"⟩ : MethodName)) (a := a1063) (argsL := [(.int (0 : Int32))]) (rest := []) 0 F1229 (hw _ (List.mem_of_getElem? (i := 45) rfl)) (hw _ (List.mem_of_getElem? (i := 46) rfl)) (hw _ (List.mem_of_getElem? (i := 48) rfl)) (hw _ (List.mem_of_getElem? (i := 47) rfl)) (hw _ (List.mem_of_getElem? (i := 49) rfl)) (hw _ (List.mem_of_getElem? (i := 8) rfl)) (by decide) (own_m9 hw a1063 a1078 3 (own_upd (own_upd (own_upd (own_upd (own_upd (fun _ => (0 : Int32)) 0 x0) 1 x1) 2 x2) 2 x2) 0 x1) (0 : Int32) 0 x1 Z1236 F1230 F1233 (by decide) (by decide) rfl) (by decide) (by decide) (lenOf own_pd5 rfl) rfl (Nat.le_of_eq rfl) at_350 rfl rfl (by decide) (by decide) (fun v1243 h1244 hq1245 => ?_)
          obtain ⟨rfl, rfl⟩ := hq1245
          show own_Run p_ l e_ _ s_ m_ _ b_ mt_ c_ n0 _ h1226 _ _ (mkF m_ 353 #[.val (.int p0), .val (.int p1), .val (.int p2), .val (.int p3), .val (.int x150), .val (.int z5), .val (.ref a6), .val (.int (3 : Int32)), .val (.int (2 : Int32)), .val (.ref a1063), .val (.ref a1161), .val (.int (1 : Int32)), .val (.int (2 : Int32)), .val (.int (0 : Int32)), .val (.int x1)] [(.int x1)])
          refine own_iload C (pc' := 355) at_353 rfl rfl ?_
          refine own_ii_ne C (pc1 := 362) (pc2 := 358) at_355 rfl rfl (fun c1246 => absurd c1246 (not_not_intro rfl)) (fun c1246 => ?_)
          refine own_iconst C (pc' := 359) (v := (1 : Int32)) at_358 rfl (by decide) ?_
          refine own_goto C (pc' := 363) at_359 rfl ?_
          refine own_istore C (pc' := 365) (Ls' := #[.val (.int p0), .val (.int p1), .val (.int p2), .val (.int p3), .val (.int x150), .val (.int z5), .val (.ref a6), .val (.int (3 : Int32)), .val (.int (2 : Int32)), .val (.ref a1063), .val (.ref a1161), .val (.int (1 : Int32)), .val (.int (2 : Int32)), .val (.int (0 : Int32)), .val (.int x1)]) at_363 rfl rfl ?_
          refine own_iload C (pc' := 367) at_365 rfl rfl ?_
          refine own_iconst C (pc' := 368) (v := (2 : Int32)) at_367 rfl (by decide) ?_
          refine own_isubV C (pc' := 369) (v := (1 : Int32)) at_368 rfl (by decide) ?_
          refine own_istore C (pc' := 371) (Ls' := #[.val (.int p0), .val (.int p1), .val (.int p2), .val (.int p3), .val (.int x150), .val (.int z5), .val (.ref a6), .val (.int (3 : Int32)), .val (.int (2 : Int32)), .val (.ref a1063), .val (.ref a1161), .val (.int (1 : Int32)), .val (.int (1 : Int32)), .val (.int (0 : Int32)), .val (.int x1)]) at_369 rfl rfl ?_
          refine own_iload C (pc' := 373) at_371 rfl rfl ?_
          refine own_i0_eq C (pc1 := 390) (pc2 := 376) at_373 rfl rfl (fun c1247 => absurd c1247 (by decide)) (fun c1247 => ?_)
          refine own_aload C (pc' := 378) at_376 rfl rfl rfl ?_
          refine own_callV C (pc' := 381) (y := (⟨"com/example/murmuration/murmuration/search/IndexedSet", "size", "()I"⟩ : MethodName)) (a := a1063) (argsL := []) (rest := []) 0 F1229 (hw _ (List.mem_of_getElem? (i := 40) rfl)) (hw _ (List.mem_of_getElem? (i := 41) rfl)) (hw _ (List.mem_of_getElem? (i := 43) rfl)) (hw _ (List.mem_of_getElem? (i := 42) rfl)) (hw _ (List.mem_of_getElem? (i := 44) rfl)) (hw _ (List.mem_of_getElem? (i := 8) rfl)) (by decide) (own_m8 hw a1063 (1 : Int32) Z1236 F1232 ) (by decide) (by decide) (lenOf own_pd4 rfl) rfl (Nat.le_of_eq rfl) at_378 rfl rfl (by decide) (by decide) (fun v1248 h1249 hq1250 => ?_)
          obtain ⟨rfl, rfl⟩ := hq1250
          show own_Run p_ l e_ _ s_ m_ _ b_ mt_ c_ n0 _ h1226 _ _ (mkF m_ 381 #[.val (.int p0), .val (.int p1), .val (.int p2), .val (.int p3), .val (.int x150), .val (.int z5), .val (.ref a6), .val (.int (3 : Int32)), .val (.int (2 : Int32)), .val (.ref a1063), .val (.ref a1161), .val (.int (1 : Int32)), .val (.int (1 : Int32)), .val (.int (0 : Int32)), .val (.int x1)] [(.int (1 : Int32))])
          refine own_iload C (pc' := 383) at_381 rfl rfl ?_
          refine own_ii_ne C (pc1 := 390) (pc2 := 386) at_383 rfl rfl (fun c1251 => absurd c1251 (by decide)) (fun c1251 => ?_)
          refine own_iconst C (pc' := 387) (v := (1 : Int32)) at_386 rfl (by decide) ?_
          refine own_goto C (pc' := 391) at_387 rfl ?_
          refine own_istore C (pc' := 393) (Ls' := #[.val (.int p0), .val (.int p1), .val (.int p2), .val (.int p3), .val (.int x150), .val (.int z5), .val (.ref a6), .val (.int (3 : Int32)), .val (.int (2 : Int32)), .val (.ref a1063), .val (.ref a1161), .val (.int (1 : Int32)), .val (.int (1 : Int32)), .val (.int (0 : Int32)), .val (.int x1)]) at_391 rfl rfl ?_
          refine own_iload C (pc' := 395) at_393 rfl rfl ?_
          exact own_ret C (t := .boolean) rfl rfl (Or.inl ⟨rfl, by simp, _, rfl⟩) at_395 (by decide) (by decide) (rfl)
        · skip
          rw [e1224]
          show own_Run p_ l e_ _ s_ m_ _ b_ mt_ c_ n0 _ h1192 _ _ (mkF m_ 305 #[.val (.int p0), .val (.int p1), .val (.int p2), .val (.int p3), .val (.int x150), .val (.int z5), .val (.ref a6), .val (.int (3 : Int32)), .val (.int (2 : Int32)), .val (.ref a1063), .val (.ref a1161), .val (.int (1 : Int32)), .val (.int (2 : Int32)), .val (.int (1 : Int32)), .unset] [])
          refine own_aload C (pc' := 307) at_305 rfl rfl rfl ?_
          refine own_aload C (pc' := 309) at_307 rfl rfl rfl ?_
          refine own_iload C (pc' := 311) at_309 rfl rfl ?_
          refine own_ldIV C (pc' := 312) F1203 (i := 1) (v := x1) (by decide) (by decide) rfl at_311 rfl ?_
          refine own_callV C (pc' := 315) (y := (⟨"com/example/murmuration/murmuration/search/IndexedSet", "remove", "(I)V"⟩ : MethodName)) (a := a1063) (argsL := [(.int x1)]) (rest := []) 0 F1197 (hw _ (List.mem_of_getElem? (i := 30) rfl)) (hw _ (List.mem_of_getElem? (i := 31) rfl)) (hw _ (List.mem_of_getElem? (i := 33) rfl)) (hw _ (List.mem_of_getElem? (i := 32) rfl)) (hw _ (List.mem_of_getElem? (i := 34) rfl)) (hw _ (List.mem_of_getElem? (i := 8) rfl)) (by decide) (own_m6 hw a1063 a1078 a1079 3 (2 : Int32) (own_upd (own_upd (own_upd (own_upd (fun _ => (0 : Int32)) 0 x0) 1 x1) 2 x2) 2 x2) (own_upd (own_upd (own_upd (own_upd (own_upd (fun _ => (-1 : Int32)) A0 (0 : Int32)) A1 (1 : Int32)) A2 (2 : Int32)) A2 (2 : Int32)) A2 (-1 : Int32)) x1 A1 1 (1 : Int32) x1 1 A1 (1 : Int32) Z1195 F1197 ga1065 ga1081 ga1083 ne1095 ne1097 F1093 F1198 F1199 F1200 F1201 F1202 hA1 (by omega) (by simp [own_upd, d01, d02, d12, Ne.symm d01, Ne.symm d02, Ne.symm d12]) (by decide) (by decide) (by decide) (by decide) rfl hA1 (by omega) (by decide)) (by decide) (by decide) (lenOf own_pd2 rfl) rfl (Nat.le_of_eq rfl) at_312 rfl rfl (by decide) (by decide) (fun v1252 h1253 hq1254 => ?_)
          obtain ⟨rfl, K1255, F1256, F1257, F1258, F1259, F1260, F1261⟩ := hq1254
          have Z1263 : n0 ≤ h1253.size := Nat.le_trans Z1195 K1255.1
          have F1264 : own_AI Z h1253 a6 3 (own_upd (own_upd (own_upd (fun _ => (0 : Int32)) 0 x0) 1 x1) 2 x2) := own_A.keep F1196 K1255 (ninS ne1070 (ninS ne1094 (ninS ne1096 nin0)))
          have F1265 : Exa Z h1253 a1063 "com/example/murmuration/murmuration/search/IndexedSet" := Exa.keep F1197 K1255
          have F1266 : own_AI Z h1253 a1161 2 (own_upd (own_upd (fun _ => (0 : Int32)) 0 x0) 1 x1) := own_A.keep F1203 K1255 (ninS (Ne.symm ne1168) (ninS (Ne.symm ne1169) (ninS (Ne.symm ne1170) nin0)))
          show own_Run p_ l e_ _ s_ m_ _ b_ mt_ c_ n0 _ h1253 _ _ (mkF m_ 315 #[.val (.int p0), .val (.int p1), .val (.int p2), .val (.int p3), .val (.int x150), .val (.int z5), .val (.ref a6), .val (.int (3 : Int32)), .val (.int (2 : Int32)), .val (.ref a1063), .val (.ref a1161), .val (.int (1 : Int32)), .val (.int (2 : Int32)), .val (.int (1 : Int32)), .unset] [])
          refine own_iload C (pc' := 317) at_315 rfl rfl ?_
          refine own_i0_ne C (pc1 := 330) (pc2 := 320) at_317 rfl rfl (fun c1267 => ?_) (fun c1267 => absurd c1267 (by decide))
          refine own_aload C (pc' := 332) at_330 rfl rfl rfl ?_
          refine own_iconst C (pc' := 333) (v := (0 : Int32)) at_332 rfl (by decide) ?_
          refine own_ldIV C (pc' := 334) F1266 (i := 0) (v := x0) (by decide) (by decide) rfl at_333 rfl ?_
          refine own_istore C (pc' := 336) (Ls' := #[.val (.int p0), .val (.int p1), .val (.int p2), .val (.int p3), .val (.int x150), .val (.int z5), .val (.ref a6), .val (.int (3 : Int32)), .val (.int (2 : Int32)), .val (.ref a1063), .val (.ref a1161), .val (.int (1 : Int32)), .val (.int (2 : Int32)), .val (.int (1 : Int32)), .val (.int x0)]) at_334 rfl rfl ?_
          refine own_iload C (pc' := 338) at_336 rfl rfl ?_
          refine own_iconst C (pc' := 339) (v := (3 : Int32)) at_338 rfl (by decide) ?_
          refine own_ii_lt C (pc1 := 365) (pc2 := 342) at_339 rfl rfl (fun c1268 => absurd c1268 (by decide)) (fun c1268 => ?_)
          refine own_iload C (pc' := 344) at_342 rfl rfl ?_
          refine own_i0_eq C (pc1 := 362) (pc2 := 347) at_344 rfl rfl (fun c1269 => absurd c1269 (by decide)) (fun c1269 => ?_)
          refine own_aload C (pc' := 349) at_347 rfl rfl rfl ?_
          refine own_iconst C (pc' := 350) (v := (0 : Int32)) at_349 rfl (by decide) ?_
          refine own_callV C (pc' := 353) (y := (⟨"com/example/murmuration/murmuration/search/IndexedSet", "get", "(I)I"⟩ : MethodName)) (a := a1063) (argsL := [(.int (0 : Int32))]) (rest := []) 0 F1256 (hw _ (List.mem_of_getElem? (i := 45) rfl)) (hw _ (List.mem_of_getElem? (i := 46) rfl)) (hw _ (List.mem_of_getElem? (i := 48) rfl)) (hw _ (List.mem_of_getElem? (i := 47) rfl)) (hw _ (List.mem_of_getElem? (i := 49) rfl)) (hw _ (List.mem_of_getElem? (i := 8) rfl)) (by decide) (own_m9 hw a1063 a1078 3 (own_upd (own_upd (own_upd (own_upd (own_upd (fun _ => (0 : Int32)) 0 x0) 1 x1) 2 x2) 2 x2) 1 x1) (0 : Int32) 0 x0 Z1263 F1257 F1260 (by decide) (by decide) rfl) (by decide) (by decide) (lenOf own_pd5 rfl) rfl (Nat.le_of_eq rfl) at_350 rfl rfl (by decide) (by decide) (fun v1270 h1271 hq1272 => ?_)
          obtain ⟨rfl, rfl⟩ := hq1272
          show own_Run p_ l e_ _ s_ m_ _ b_ mt_ c_ n0 _ h1253 _ _ (mkF m_ 353 #[.val (.int p0), .val (.int p1), .val (.int p2), .val (.int p3), .val (.int x150), .val (.int z5), .val (.ref a6), .val (.int (3 : Int32)), .val (.int (2 : Int32)), .val (.ref a1063), .val (.ref a1161), .val (.int (1 : Int32)), .val (.int (2 : Int32)), .val (.int (1 : Int32)), .val (.int x0)] [(.int x0)])
          refine own_iload C (pc' := 355) at_353 rfl rfl ?_
          refine own_ii_ne C (pc1 := 362) (pc2 := 358) at_355 rfl rfl (fun c1273 => absurd c1273 (not_not_intro rfl)) (fun c1273 => ?_)
          refine own_iconst C (pc' := 359) (v := (1 : Int32)) at_358 rfl (by decide) ?_
          refine own_goto C (pc' := 363) at_359 rfl ?_
          refine own_istore C (pc' := 365) (Ls' := #[.val (.int p0), .val (.int p1), .val (.int p2), .val (.int p3), .val (.int x150), .val (.int z5), .val (.ref a6), .val (.int (3 : Int32)), .val (.int (2 : Int32)), .val (.ref a1063), .val (.ref a1161), .val (.int (1 : Int32)), .val (.int (2 : Int32)), .val (.int (1 : Int32)), .val (.int x0)]) at_363 rfl rfl ?_
          refine own_iload C (pc' := 367) at_365 rfl rfl ?_
          refine own_iconst C (pc' := 368) (v := (2 : Int32)) at_367 rfl (by decide) ?_
          refine own_isubV C (pc' := 369) (v := (1 : Int32)) at_368 rfl (by decide) ?_
          refine own_istore C (pc' := 371) (Ls' := #[.val (.int p0), .val (.int p1), .val (.int p2), .val (.int p3), .val (.int x150), .val (.int z5), .val (.ref a6), .val (.int (3 : Int32)), .val (.int (2 : Int32)), .val (.ref a1063), .val (.ref a1161), .val (.int (1 : Int32)), .val (.int (1 : Int32)), .val (.int (1 : Int32)), .val (.int x0)]) at_369 rfl rfl ?_
          refine own_iload C (pc' := 373) at_371 rfl rfl ?_
          refine own_i0_eq C (pc1 := 390) (pc2 := 376) at_373 rfl rfl (fun c1274 => absurd c1274 (by decide)) (fun c1274 => ?_)
          refine own_aload C (pc' := 378) at_376 rfl rfl rfl ?_
          refine own_callV C (pc' := 381) (y := (⟨"com/example/murmuration/murmuration/search/IndexedSet", "size", "()I"⟩ : MethodName)) (a := a1063) (argsL := []) (rest := []) 0 F1256 (hw _ (List.mem_of_getElem? (i := 40) rfl)) (hw _ (List.mem_of_getElem? (i := 41) rfl)) (hw _ (List.mem_of_getElem? (i := 43) rfl)) (hw _ (List.mem_of_getElem? (i := 42) rfl)) (hw _ (List.mem_of_getElem? (i := 44) rfl)) (hw _ (List.mem_of_getElem? (i := 8) rfl)) (by decide) (own_m8 hw a1063 (1 : Int32) Z1263 F1259 ) (by decide) (by decide) (lenOf own_pd4 rfl) rfl (Nat.le_of_eq rfl) at_378 rfl rfl (by decide) (by decide) (fun v1275 h1276 hq1277 => ?_)
          obtain ⟨rfl, rfl⟩ := hq1277
          show own_Run p_ l e_ _ s_ m_ _ b_ mt_ c_ n0 _ h1253 _ _ (mkF m_ 381 #[.val (.int p0), .val (.int p1), .val (.int p2), .val (.int p3), .val (.int x150), .val (.int z5), .val (.ref a6), .val (.int (3 : Int32)), .val (.int (2 : Int32)), .val (.ref a1063), .val (.ref a1161), .val (.int (1 : Int32)), .val (.int (1 : Int32)), .val (.int (1 : Int32)), .val (.int x0)] [(.int (1 : Int32))])
          refine own_iload C (pc' := 383) at_381 rfl rfl ?_
          refine own_ii_ne C (pc1 := 390) (pc2 := 386) at_383 rfl rfl (fun c1278 => absurd c1278 (by decide)) (fun c1278 => ?_)
          refine own_iconst C (pc' := 387) (v := (1 : Int32)) at_386 rfl (by decide) ?_
          refine own_goto C (pc' := 391) at_387 rfl ?_
          refine own_istore C (pc' := 393) (Ls' := #[.val (.int p0), .val (.int p1), .val (.int p2), .val (.int p3), .val (.int x150), .val (.int z5), .val (.ref a6), .val (.int (3 : Int32)), .val (.int (2 : Int32)), .val (.ref a1063), .val (.ref a1161), .val (.int (1 : Int32)), .val (.int (1 : Int32)), .val (.int (1 : Int32)), .val (.int x0)]) at_391 rfl rfl ?_
          refine own_iload C (pc' := 395) at_393 rfl rfl ?_
          exact own_ret C (t := .boolean) rfl rfl (Or.inl ⟨rfl, by simp, _, rfl⟩) at_395 (by decide) (by decide) (rfl)
  refine own_iloadN C (pc' := 8) at_7 rfl rfl ?_
  refine own_i0_ge C (pc1 := 15) (pc2 := 11) at_8 rfl rfl (fun c1279 => ?_) (fun c1279 => ?_)
  · skip
    refine own_iconst C (pc' := 16) (v := (0 : Int32)) at_15 rfl (by decide) ?_
    refine own_istore C (pc' := 18) (Ls' := #[.val (.int p0), .val (.int p1), .val (.int p2), .val (.int p3), .val (.int x150), .val (.int (0 : Int32)), .unset, .unset, .unset, .unset, .unset, .unset, .unset, .unset, .unset]) at_16 rfl rfl ?_
    refine own_iconst C (pc' := 19) (v := (3 : Int32)) at_18 rfl (by decide) ?_
    refine own_newAI C (pc' := 21) (hw _ (List.mem_of_getElem? (i := 5) rfl)) Z0 at_19 rfl (nn := 3) (cap := 3) (by decide) (by decide) (by decide) (by decide) (by decide) (fun h1280 a1281 ea1282 ga1283 Z1284 E1285 V1286 => ?_)
    refine own_astore C (pc' := 23) (Ls' := #[.val (.int p0), .val (.int p1), .val (.int p2), .val (.int p3), .val (.int x150), .val (.int (0 : Int32)), .val (.ref a1281), .unset, .unset, .unset, .unset, .unset, .unset, .unset, .unset]) at_21 rfl rfl rfl ?_
    refine own_aload C (pc' := 25) at_23 rfl rfl rfl ?_
    refine own_iconst C (pc' := 26) (v := (0 : Int32)) at_25 rfl (by decide) ?_
    refine own_iload C (pc' := 28) at_26 rfl rfl ?_
    refine own_i0_eq C (pc1 := 40) (pc2 := 31) at_28 rfl rfl (fun c1287 => ?_) (fun c1287 => absurd c1287 (by decide))
    refine own_iload C (pc' := 42) at_40 rfl rfl ?_
    refine own_stI C (pc' := 43) V1286 (i := 0) (by decide) (by decide) ga1283 at_42 rfl (fun h1288 W1289 V1290 => ?_)
    have Z1291 : n0 ≤ h1288.size := Nat.le_trans Z1284 (Nat.le_of_eq (Wr.size W1289).symm)
    have F1292 : own_AI Z h1288 a1281 3 (own_upd (fun _ => (0 : Int32)) 0 x150) := V1290
    refine own_aload C (pc' := 45) at_43 rfl rfl rfl ?_
    refine own_iconst C (pc' := 46) (v := (1 : Int32)) at_45 rfl (by decide) ?_
    refine own_iload C (pc' := 48) at_46 rfl rfl ?_
    refine own_iconst C (pc' := 49) (v := (1 : Int32)) at_48 rfl (by decide) ?_
    refine own_iadd C (pc' := 50) at_49 rfl ?_
    refine own_iconst C (pc' := 51) (v := (3 : Int32)) at_50 rfl (by decide) ?_
    refine own_irem C (pc' := 52) at_51 rfl (by decide) ?_
    refine own_stI C (pc' := 53) F1292 (i := 1) (by decide) (by decide) ga1283 at_52 rfl (fun h1293 W1294 V1295 => ?_)
    have Z1296 : n0 ≤ h1293.size := Nat.le_trans Z1291 (Nat.le_of_eq (Wr.size W1294).symm)
    have F1297 : own_AI Z h1293 a1281 3 (own_upd (own_upd (fun _ => (0 : Int32)) 0 x150) 1 ((x150 + (1 : Int32)) % (3 : Int32))) := V1295
    refine own_aload C (pc' := 55) at_53 rfl rfl rfl ?_
    refine own_iconst C (pc' := 56) (v := (2 : Int32)) at_55 rfl (by decide) ?_
    refine own_iload C (pc' := 58) at_56 rfl rfl ?_
    refine own_i0_eq C (pc1 := 66) (pc2 := 61) at_58 rfl rfl (fun c1298 => ?_) (fun c1298 => absurd c1298 (by decide))
    refine own_iload C (pc' := 68) at_66 rfl rfl ?_
    refine own_iconst C (pc' := 69) (v := (2 : Int32)) at_68 rfl (by decide) ?_
    refine own_iadd C (pc' := 70) at_69 rfl ?_
    refine own_iconst C (pc' := 71) (v := (3 : Int32)) at_70 rfl (by decide) ?_
    refine own_irem C (pc' := 72) at_71 rfl (by decide) ?_
    refine own_stI C (pc' := 73) F1297 (i := 2) (by decide) (by decide) ga1283 at_72 rfl (fun h1299 W1300 V1301 => ?_)
    have Z1302 : n0 ≤ h1299.size := Nat.le_trans Z1296 (Nat.le_of_eq (Wr.size W1300).symm)
    have F1303 : own_AI Z h1299 a1281 3 (own_upd (own_upd (own_upd (fun _ => (0 : Int32)) 0 x150) 1 ((x150 + (1 : Int32)) % (3 : Int32))) 2 ((x150 + (2 : Int32)) % (3 : Int32))) := V1301
    exact J (0 : Int32) h1299 a1281 x150 ((x150 + (1 : Int32)) % (3 : Int32)) ((x150 + (2 : Int32)) % (3 : Int32)) R151 ((R151 + 1) % 3) ((R151 + 2) % 3) F1303 ga1283 Z1302 hR153 (own_r1 hR153 b152) (own_r2 hR153 b152) (by omega) (by omega) (by omega) (by omega) (by omega) (by omega)
  · skip
    refine own_iconst C (pc' := 12) (v := (1 : Int32)) at_11 rfl (by decide) ?_
    refine own_goto C (pc' := 16) at_12 rfl ?_
    refine own_istore C (pc' := 18) (Ls' := #[.val (.int p0), .val (.int p1), .val (.int p2), .val (.int p3), .val (.int x150), .val (.int (1 : Int32)), .unset, .unset, .unset, .unset, .unset, .unset, .unset, .unset, .unset]) at_16 rfl rfl ?_
    refine own_iconst C (pc' := 19) (v := (3 : Int32)) at_18 rfl (by decide) ?_
    refine own_newAI C (pc' := 21) (hw _ (List.mem_of_getElem? (i := 5) rfl)) Z0 at_19 rfl (nn := 3) (cap := 3) (by decide) (by decide) (by decide) (by decide) (by decide) (fun h1304 a1305 ea1306 ga1307 Z1308 E1309 V1310 => ?_)
    refine own_astore C (pc' := 23) (Ls' := #[.val (.int p0), .val (.int p1), .val (.int p2), .val (.int p3), .val (.int x150), .val (.int (1 : Int32)), .val (.ref a1305), .unset, .unset, .unset, .unset, .unset, .unset, .unset, .unset]) at_21 rfl rfl rfl ?_
    refine own_aload C (pc' := 25) at_23 rfl rfl rfl ?_
    refine own_iconst C (pc' := 26) (v := (0 : Int32)) at_25 rfl (by decide) ?_
    refine own_iload C (pc' := 28) at_26 rfl rfl ?_
    refine own_i0_eq C (pc1 := 40) (pc2 := 31) at_28 rfl rfl (fun c1311 => absurd c1311 (by decide)) (fun c1311 => ?_)
    refine own_iload C (pc' := 33) at_31 rfl rfl ?_
    refine own_iconst C (pc' := 34) (v := (2 : Int32)) at_33 rfl (by decide) ?_
    refine own_iadd C (pc' := 35) at_34 rfl ?_
    refine own_iconst C (pc' := 36) (v := (3 : Int32)) at_35 rfl (by decide) ?_
    refine own_irem C (pc' := 37) at_36 rfl (by decide) ?_
    refine own_goto C (pc' := 42) at_37 rfl ?_
    refine own_stI C (pc' := 43) V1310 (i := 0) (by decide) (by decide) ga1307 at_42 rfl (fun h1312 W1313 V1314 => ?_)
    have Z1315 : n0 ≤ h1312.size := Nat.le_trans Z1308 (Nat.le_of_eq (Wr.size W1313).symm)
    have F1316 : own_AI Z h1312 a1305 3 (own_upd (fun _ => (0 : Int32)) 0 ((x150 + (2 : Int32)) % (3 : Int32))) := V1314
    refine own_aload C (pc' := 45) at_43 rfl rfl rfl ?_
    refine own_iconst C (pc' := 46) (v := (1 : Int32)) at_45 rfl (by decide) ?_
    refine own_iload C (pc' := 48) at_46 rfl rfl ?_
    refine own_iconst C (pc' := 49) (v := (1 : Int32)) at_48 rfl (by decide) ?_
    refine own_iadd C (pc' := 50) at_49 rfl ?_
    refine own_iconst C (pc' := 51) (v := (3 : Int32)) at_50 rfl (by decide) ?_
    refine own_irem C (pc' := 52) at_51 rfl (by decide) ?_
    refine own_stI C (pc' := 53) F1316 (i := 1) (by decide) (by decide) ga1307 at_52 rfl (fun h1317 W1318 V1319 => ?_)
    have Z1320 : n0 ≤ h1317.size := Nat.le_trans Z1315 (Nat.le_of_eq (Wr.size W1318).symm)
    have F1321 : own_AI Z h1317 a1305 3 (own_upd (own_upd (fun _ => (0 : Int32)) 0 ((x150 + (2 : Int32)) % (3 : Int32))) 1 ((x150 + (1 : Int32)) % (3 : Int32))) := V1319
    refine own_aload C (pc' := 55) at_53 rfl rfl rfl ?_
    refine own_iconst C (pc' := 56) (v := (2 : Int32)) at_55 rfl (by decide) ?_
    refine own_iload C (pc' := 58) at_56 rfl rfl ?_
    refine own_i0_eq C (pc1 := 66) (pc2 := 61) at_58 rfl rfl (fun c1322 => absurd c1322 (by decide)) (fun c1322 => ?_)
    refine own_iload C (pc' := 63) at_61 rfl rfl ?_
    refine own_goto C (pc' := 72) at_63 rfl ?_
    refine own_stI C (pc' := 73) F1321 (i := 2) (by decide) (by decide) ga1307 at_72 rfl (fun h1323 W1324 V1325 => ?_)
    have Z1326 : n0 ≤ h1323.size := Nat.le_trans Z1320 (Nat.le_of_eq (Wr.size W1324).symm)
    have F1327 : own_AI Z h1323 a1305 3 (own_upd (own_upd (own_upd (fun _ => (0 : Int32)) 0 ((x150 + (2 : Int32)) % (3 : Int32))) 1 ((x150 + (1 : Int32)) % (3 : Int32))) 2 x150) := V1325
    exact J (1 : Int32) h1323 a1305 ((x150 + (2 : Int32)) % (3 : Int32)) ((x150 + (1 : Int32)) % (3 : Int32)) x150 ((R151 + 2) % 3) ((R151 + 1) % 3) R151 F1327 ga1307 Z1326 (own_r2 hR153 b152) (own_r1 hR153 b152) hR153 (by omega) (by omega) (by omega) (by omega) (by omega) (by omega)
set_option maxRecDepth 65536 in
set_option maxHeartbeats 40000000 in
theorem own_comes {Post : Tables → Env → Array Value → State → Outcome → State → Prop} (hpost : ∀ tb e args s v u, (limb_1_1.after args s (.returned v) u = true ∧ limb_1_2.after args s (.returned v) u = true ∧ True) → FrameEnd s (.returned v) u (Jvm.fieldLocs frame_1_writes args s ++ Jvm.arrayLocs frame_1_arrays args s ++ Jvm.staticLocs frame_1_statics s) 24 128 → Post tb e args s (.returned v) u) :
    ArmFor flags0 classFile x code maxLocals ret World_1 tables_1 room_1 Calls_1 rest_1 Pre_1 Post := by
  intro l hfl _ _ p e ha hc hk s m args below hf hA hF happ hP
  obtain ⟨hcalls, hrest, hpre⟩ := hP
  obtain ⟨-, -, -, hnamed, -, -, -, hat⟩ := (Spec.applies_iff hf).mp happ
  obtain ⟨hg, hn⟩ := and_e (Cond.before_iff.mp (show (Jvm.Cond.and given_1 narrow_1).before args s = true from hpre))
  obtain ⟨g0, r0⟩ := and_e hg
  obtain ⟨q0, r1⟩ := and_e r0
  obtain ⟨q1, r2⟩ := and_e r1
  obtain ⟨q2, r3⟩ := and_e r2
  obtain ⟨w0, w1, w2, w3, rfl⟩ : ∃ w0 w1 w2 w3 : Value, args = #[w0, w1, w2, w3] := by
    have hs : args.size = 4 := by simpa [Cond.value, given_1] using g0
    obtain ⟨L⟩ := args
    match L, hs with
    | [w0, w1, w2, w3], _ => exact ⟨w0, w1, w2, w3, rfl⟩
  have hw := fun d (hd : d ∈ tables_1) => atoms_spec (ws := Jvm.Cond.code x code maxLocals ret :: tables_1) hat d (List.mem_cons_of_mem _ hd)
  obtain ⟨i0, ei0⟩ := is_v q0
  obtain rfl : w0 = (.int i0) := Option.some.inj ei0
  obtain ⟨i1, ei1⟩ := is_v q1
  obtain rfl : w1 = (.int i1) := Option.some.inj ei1
  obtain ⟨i2, ei2⟩ := is_v q2
  obtain rfl : w2 = (.int i2) := Option.some.inj ei2
  obtain ⟨i3, ei3⟩ := is_v r3
  obtain rfl : w3 = (.int i3) := Option.some.inj ei3
  obtain ⟨n, o, h1, h2, h3, _, L, rfl, ⟨N, rfl⟩, hq⟩ := own_law (l := l) (Z := s) hw (n0 := s.heap.size) (ws := tables_1) (h := s.heap) i0 i1 i2 i3 (Nat.le_refl _)  p e ha hc hk s m _ below hf ((Spec.applies_iff_loose hf).mp happ).1 ⟨rfl, State.Warmed39.refl s, rfl⟩ trivial
  refine ⟨n, _, h1, h2, h3, hpost _ _ _ _ _ _ ⟨Cond.after_iff.mpr rfl, Cond.after_iff.mpr (eq_i res_at (Term.int_eval (1)) rfl), trivial⟩ ⟨hq.1, hq.2.1, (hq.2.2.sift fun y hy => Or.inr (N y hy)).mono (by decide) (by decide)⟩⟩
theorem main_1_1 : Claimed_1_1 := own_comes fun _ _ _ _ _ _ h hF => ⟨h.1, hF⟩
theorem main_1_2 : Claimed_1_2 := own_comes fun _ _ _ _ _ _ h hF => ⟨h.2.1, hF⟩
end Jvm.Pilot.@@N@@
namespace Jvm.Pilot.@@N@@
open Jvm Jvm.ClassFile Sem Op Lib Jvm.Free Jvm.Stand Jvm.Pilot.@@N@@.Jvm.D
/-! MADE BY PROGRAM (witnessworld.py) out of the Statement's table words and the real class files: 10 classes; the members and pool entries that the words name. The judged class is class 1, her method 2. -/
namespace start1
open Jvm.ClassFile
def u (s : String) : CpInfo := .utf8 (stringToUtf16 s)
/-- a pool by its gaps: so many unusable entries, then the entry; so many at the end -/
def gap : Nat → List CpInfo → List CpInfo
  | 0, r => r
  | n + 1, r => .unusable :: gap n r
def poolList (es : List (Nat × CpInfo)) (last : Nat) : List CpInfo := es.foldr (fun e r => gap e.1 (e.2 :: r)) (gap last [])
def pool (es : List (Nat × CpInfo)) (last : Nat) : Array CpInfo := ⟨poolList es last⟩
def fileOf (pool : Array CpInfo) (this : Nat) (attrs : Array Attribute := #[]) (ms : Array MethodInfo := #[]) (fl : Nat := 33) (sup : Nat := 0) (ifs : Array Nat := #[]) (fds : Array FieldInfo := #[]) : ClassFile where
  minorVersion := 0
  majorVersion := 65
  constantPool := pool
  accessFlags := fl
  thisClass := this
  superClass := sup
  interfaces := ifs
  fields := fds
  methods := ms
  attributes := attrs
def plain (name : String) (sup : Option ClassId) : Class where
  name := name
  kind := .ordinary
  loader := none
  accessFlags := 33
  super := sup
  interfaces := #[]
  cf := none
  fields := #[]
  methods := #[]
  instanceTypes := #[]
  staticTypes := #[]
  resolved := #[]
  callSites := []
  init := .initialized
  statics := none
  mirror := none

def pool0 : Array CpInfo := pool [(5, u "<init>"), (0, u "()V"), (1, .class_ 10), (1, u "java/lang/Object")] 113

def k0c0 : Code := { maxStack := 0, maxLocals := 1, code := object_method_1_code, exceptionTable := #[], attributes := #[] }
def k0m0 : Method := { name := "<init>", desc := "()V", sig := { parameters := [], returnType := none }, accessFlags := 1, code := some k0c0 }
/-- java/lang/Object -/
def k0 : Class := { plain "java/lang/Object" none with
  accessFlags := 33
  interfaces := #[]
  cf := some (fileOf pool0 8 #[] #[{ accessFlags := 1, nameIndex := 5, descriptorIndex := 6, attributes := #[] }] 33 0 #[] #[])
  fields := #[]
  methods := #[k0m0]
  instanceTypes := #[]
  staticTypes := #[]
  resolved := Array.replicate 124 none
  statics := none }

def pool1 : Array CpInfo := pool [(2, .class_ 4), (1, u "java/lang/Object"), (0, u "<init>"), (0, u "()V"), (0, .integer 2147483647), (0, .methodref 9 10), (0, .class_ 11), (0, .nameAndType 12 13), (0, u "com/example/murmuration/murmuration/search/IndexedSetRemovePinLaw"), (0, u "mod"), (0, u "(II)I"), (0, .class_ 15), (0, u "com/example/murmuration/murmuration/search/IndexedSet"), (0, .methodref 14 17), (0, .nameAndType 5 18), (0, u "(I)V"), (0, .methodref 14 20), (0, .nameAndType 21 18), (0, u "add"), (0, .methodref 14 23), (0, .nameAndType 24 18), (0, u "remove"), (0, .methodref 14 26), (0, .nameAndType 27 28), (0, u "contains"), (0, u "(I)Z"), (0, .methodref 14 30), (0, .nameAndType 31 32), (0, u "get"), (0, u "(I)I"), (0, .methodref 14 34), (0, .nameAndType 35 36), (0, u "size"), (0, u "()I"), (2, u "law"), (0, u "(IIII)Z")] 5

def k1m0 : Method := { name := "<init>", desc := "()V", sig := { parameters := [], returnType := none }, accessFlags := 1, code := none }
def k1c1 : Code := { maxStack := 2, maxLocals := 2, code := method_2_code, exceptionTable := #[], attributes := #[] }
def k1m1 : Method := { name := "mod", desc := "(II)I", sig := { parameters := [.int, .int], returnType := some .int }, accessFlags := 10, code := some k1c1 }
def k1c2 : Code := { maxStack := 5, maxLocals := 15, code := code, exceptionTable := #[], attributes := #[] }
def k1m2 : Method := { name := "law", desc := "(IIII)Z", sig := { parameters := [.int, .int, .int, .int], returnType := some .boolean }, accessFlags := 9, code := some k1c2 }
/-- com/example/murmuration/murmuration/search/IndexedSetRemovePinLaw -/
def k1 : Class := { plain "com/example/murmuration/murmuration/search/IndexedSetRemovePinLaw" (some 0) with
  accessFlags := 49
  interfaces := #[]
  cf := some (fileOf pool1 9 #[] #[{ accessFlags := 1, nameIndex := 5, descriptorIndex := 6, attributes := #[] }, { accessFlags := 10, nameIndex := 12, descriptorIndex := 13, attributes := #[] }, { accessFlags := 9, nameIndex := 39, descriptorIndex := 40, attributes := #[] }] 49 2 #[] #[])
  fields := #[]
  methods := #[k1m0, k1m1, k1m2]
  instanceTypes := #[]
  staticTypes := #[]
  resolved := Array.replicate 46 none
  statics := none }

def pool2 : Array CpInfo := pool [(1, .methodref 2 3), (0, .class_ 4), (0, .nameAndType 5 6), (0, u "java/lang/Object"), (0, u "<init>"), (0, u "()V"), (0, .fieldref 8 9), (0, .class_ 10), (0, .nameAndType 11 12), (0, u "com/example/murmuration/murmuration/search/IndexedSet"), (0, u "members"), (0, u "[I"), (0, .fieldref 8 14), (0, .nameAndType 15 12), (0, u "positions"), (0, .methodref 17 18), (0, .class_ 19), (0, .nameAndType 20 21), (0, u "java/util/Arrays"), (0, u "fill"), (0, u "([II)V"), (0, .fieldref 8 23), (0, .nameAndType 24 25), (0, u "size"), (0, u "I"), (0, u "(I)V"), (2, u "()I"), (0, u "contains"), (0, u "(I)Z"), (1, u "get"), (0, u "(I)I"), (0, u "add"), (0, u "remove")] 3

def k2c0 : Code := { maxStack := 2, maxLocals := 2, code := prog_28_method_1_code, exceptionTable := #[], attributes := #[] }
def k2m0 : Method := { name := "<init>", desc := "(I)V", sig := { parameters := [.int], returnType := none }, accessFlags := 0, code := some k2c0 }
def k2c1 : Code := { maxStack := 1, maxLocals := 1, code := prog_28_method_2_code, exceptionTable := #[], attributes := #[] }
def k2m1 : Method := { name := "size", desc := "()I", sig := { parameters := [], returnType := some .int }, accessFlags := 0, code := some k2c1 }
def k2c2 : Code := { maxStack := 2, maxLocals := 2, code := prog_28_method_3_code, exceptionTable := #[], attributes := #[] }
def k2m2 : Method := { name := "contains", desc := "(I)Z", sig := { parameters := [.int], returnType := some .boolean }, accessFlags := 0, code := some k2c2 }
def k2c3 : Code := { maxStack := 2, maxLocals := 2, code := prog_28_method_4_code, exceptionTable := #[], attributes := #[] }
def k2m3 : Method := { name := "get", desc := "(I)I", sig := { parameters := [.int], returnType := some .int }, accessFlags := 0, code := some k2c3 }
def k2c4 : Code := { maxStack := 5, maxLocals := 2, code := prog_28_method_5_code, exceptionTable := #[], attributes := #[] }
def k2m4 : Method := { name := "add", desc := "(I)V", sig := { parameters := [.int], returnType := none }, accessFlags := 0, code := some k2c4 }
def k2c5 : Code := { maxStack := 4, maxLocals := 4, code := prog_28_method_6_code, exceptionTable := #[], attributes := #[] }
def k2m5 : Method := { name := "remove", desc := "(I)V", sig := { parameters := [.int], returnType := none }, accessFlags := 0, code := some k2c5 }
/-- com/example/murmuration/murmuration/search/IndexedSet -/
def k2 : Class := { plain "com/example/murmuration/murmuration/search/IndexedSet" (some 0) with
  accessFlags := 48
  interfaces := #[]
  cf := some (fileOf pool2 8 #[] #[{ accessFlags := 0, nameIndex := 5, descriptorIndex := 26, attributes := #[] }, { accessFlags := 0, nameIndex := 24, descriptorIndex := 29, attributes := #[] }, { accessFlags := 0, nameIndex := 30, descriptorIndex := 31, attributes := #[] }, { accessFlags := 0, nameIndex := 33, descriptorIndex := 34, attributes := #[] }, { accessFlags := 0, nameIndex := 35, descriptorIndex := 26, attributes := #[] }, { accessFlags := 0, nameIndex := 36, descriptorIndex := 26, attributes := #[] }] 48 2 #[] #[{ accessFlags := 18, nameIndex := 11, descriptorIndex := 12, attributes := #[] }, { accessFlags := 18, nameIndex := 15, descriptorIndex := 12, attributes := #[] }, { accessFlags := 2, nameIndex := 24, descriptorIndex := 25, attributes := #[] }])
  fields := #[{ name := "members", type := (.array .int), accessFlags := 18, slot := 0, constantValue := 0 }, { name := "positions", type := (.array .int), accessFlags := 18, slot := 1, constantValue := 0 }, { name := "size", type := .int, accessFlags := 2, slot := 2, constantValue := 0 }]
  methods := #[k2m0, k2m1, k2m2, k2m3, k2m4, k2m5]
  instanceTypes := #[(.array .int), (.array .int), .int]
  staticTypes := #[]
  resolved := Array.replicate 40 none
  statics := none }

def pool3 : Array CpInfo := pool [(2, .class_ 4), (1, u "java/lang/Object"), (0, u "<init>"), (0, u "()V"), (7, .class_ 16), (1, u "java/util/Arrays"), (57, .class_ 76), (1, u "java/util/Arrays$NaturalOrder"), (36, .class_ 115), (1, u "java/util/Arrays$LegacyMergeSort"), (1, u "Z"), (257, .class_ 376), (0, u "java/util/Arrays$ArrayList"), (68, u "$assertionsDisabled"), (269, u "MIN_ARRAY_SORT_GRAN"), (0, u "I"), (2, u "INSERTIONSORT_THRESHOLD"), (120, u "fill"), (4, u "([II)V"), (129, .class_ 976), (0, u "java/util/Arrays$ArrayItr")] 52

def k3m0 : Method := { name := "<init>", desc := "()V", sig := { parameters := [], returnType := none }, accessFlags := 2, code := none }
def k3c1 : Code := { maxStack := 3, maxLocals := 4, code := jdk_65_method_103_code, exceptionTable := #[], attributes := #[] }
def k3m1 : Method := { name := "fill", desc := "([II)V", sig := { parameters := [(.array .int), .int], returnType := none }, accessFlags := 9, code := some k3c1 }
/-- java/util/Arrays -/
def k3 : Class := { plain "java/util/Arrays" (some 0) with
  accessFlags := 49
  interfaces := #[]
  cf := some (fileOf pool3 14 #[.nestMembers #[975, 375, 113, 74]] #[{ accessFlags := 2, nameIndex := 5, descriptorIndex := 6, attributes := #[] }, { accessFlags := 9, nameIndex := 840, descriptorIndex := 845, attributes := #[] }] 49 2 #[] #[{ accessFlags := 26, nameIndex := 715, descriptorIndex := 716, attributes := #[] }, { accessFlags := 26, nameIndex := 719, descriptorIndex := 716, attributes := #[] }, { accessFlags := 4120, nameIndex := 445, descriptorIndex := 117, attributes := #[] }])
  fields := #[{ name := "MIN_ARRAY_SORT_GRAN", type := .int, accessFlags := 26, slot := 0, constantValue := 0 }, { name := "INSERTIONSORT_THRESHOLD", type := .int, accessFlags := 26, slot := 1, constantValue := 0 }, { name := "$assertionsDisabled", type := .boolean, accessFlags := 4120, slot := 2, constantValue := 0 }]
  methods := #[k3m0, k3m1]
  instanceTypes := #[]
  staticTypes := #[.int, .int, .boolean]
  resolved := Array.replicate 1029 none
  statics := none }

def pool4 : Array CpInfo := pool [(1, u "java/lang/Cloneable"), (0, .class_ 1), (0, u "java/lang/Object"), (0, .class_ 3)] 3

/-- java/lang/Cloneable -/
def k4 : Class := { plain "java/lang/Cloneable" (some 0) with
  accessFlags := 1537
  interfaces := #[]
  cf := some (fileOf pool4 2 #[] #[] 1537 4 #[] #[])
  fields := #[]
  methods := #[]
  instanceTypes := #[]
  staticTypes := #[]
  resolved := Array.replicate 8 none
  statics := none }

def pool5 : Array CpInfo := pool [(1, u "java/io/Serializable"), (0, .class_ 1), (0, u "java/lang/Object"), (0, .class_ 3)] 3

/-- java/io/Serializable -/
def k5 : Class := { plain "java/io/Serializable" (some 0) with
  accessFlags := 1537
  interfaces := #[]
  cf := some (fileOf pool5 2 #[] #[] 1537 4 #[] #[])
  fields := #[]
  methods := #[]
  instanceTypes := #[]
  staticTypes := #[]
  resolved := Array.replicate 8 none
  statics := none }

/-- the primitive byte -/
def k6 : Class := { plain "byte" none with kind := .primitive 'B', accessFlags := 0x411 }
/-- [B -/
def k7 : Class := { plain "[B" (some 0) with kind := .array 6 .byte, interfaces := #[4, 5], accessFlags := 1041 }

/-- the primitive int -/
def k8 : Class := { plain "int" none with kind := .primitive 'I', accessFlags := 0x411 }
/-- [I -/
def k9 : Class := { plain "[I" (some 0) with kind := .array 8 .int, interfaces := #[4, 5], accessFlags := 1041 }

def heap : Heap := #[]
def classes : Array Class := #[k0, k1, k2, k3, k4, k5, k6, k7, k8, k9]
def interned : List (Array UInt16 × Addr) := []
def slotsUsed : Nat := 0
def theMethod : MethodId := ⟨1, 2⟩
def args0 : Array Value := #[.int 5, .int 7, .int 6, .int 3]
def aboutOver (below : List Frame) : State where
  vm := { classes := classes, interned := interned.toArray }
  heap := heap
  slotsUsed := slotsUsed
  threads := #[{ frames := .invoking theMethod args0 :: below }]
def below0 : List Frame := [.native { method := ⟨0, 0⟩, args := #[] }]
def about1 : State := aboutOver below0
def p0 : Program := .bare "" "" ""
def e0 : Env := launch0.env 0 0 0
theorem w_frames : about1.frames = Frame.invoking theMethod args0 :: below0 := rfl
set_option maxRecDepth 65536 in
theorem w_args : argsFit about1.vm theMethod args0 = true := by decide +kernel
set_option maxRecDepth 65536 in
theorem w_heap : heapFits about1 = true := by decide +kernel
set_option maxRecDepth 65536 in
theorem w_runnable : about1.curStatus? = some .runnable := by decide +kernel
set_option maxRecDepth 65536 in
theorem w_alone : about1.alone = true := by decide +kernel
set_option maxRecDepth 65536 in
theorem w_named : about1.methodNamed? x = some theMethod := by decide +kernel
set_option maxRecDepth 65536 in
theorem w_hears : about1.hears theMethod below0 = true := by decide +kernel
set_option maxRecDepth 65536 in
theorem w_ripe : about1.ripe theMethod args0 below0 = true := by decide +kernel
theorem w_running : about1.status = .running := rfl
set_option maxRecDepth 65536 in
theorem w_room : about1.hasRoom e0.platform room_1 = true :=
  launch0.hasRoom_least _ room_1 (by decide +kernel) (by decide +kernel) (by decide +kernel) (by decide +kernel) (by decide +kernel) (by decide +kernel)
theorem allAtoms_all (ts : List Jvm.Cond) (a : Array Jvm.Value) (st : Jvm.State) : (allAtoms ts).before a st = ts.all (fun c => c.before a st) := by
  induction ts with
  | nil => rfl
  | cons c t ih =>
    show (Jvm.Cond.and c (allAtoms t)).before a st = _
    rw [Jvm.Cond.before_and, ih, List.all_cons]
def words1 : List Jvm.Cond := Jvm.Cond.code x code maxLocals ret :: tables_1
/-- a 'code' word, met by the world's own term for the bytes: nothing is compared byte by byte -/
theorem code_word {y : MethodName} {bytes : ByteArray} {mx : Nat} {rt : Option FieldType} {a : Array Value} {s : State} {m : MethodId} {meth : Method} {c : Code} (h1 : s.methodNamed? y = some m) (h2 : s.vm.method? m = some meth) (h3 : meth.code = some c) (h4 : c.code = bytes)
    (h5 : (c.maxLocals == mx && c.exceptionTable.isEmpty && decide (c.maxStack ≤ mostOperands) && decide (meth.sig.returnType = rt) && !meth.locks && decide (parseMethodDescriptor y.desc = some meth.sig)) = true) : (Jvm.Cond.code y bytes mx rt).before a s = true := by
  simp only [Bool.and_eq_true, beq_iff_eq, Bool.not_eq_true', decide_eq_true_eq] at h5
  obtain ⟨⟨⟨⟨⟨g1, g2⟩, g3⟩, g4⟩, g5⟩, g6⟩ := h5
  simp [Cond.before, Cond.holds, Cond.value, h1, h2, h3, h4, g1, g2, g3, g4, g5, g6]
def isCode : Jvm.Cond → Bool
  | .code _ _ _ _ => true
  | _ => false
theorem all_split {L : List Jvm.Cond} {P : Jvm.Cond → Bool} (h1 : L.all (fun c => isCode c || P c) = true) (h2 : ∀ c ∈ L.filter isCode, P c = true) : L.all P = true := by
  refine List.all_eq_true.mpr fun c hc => ?_
  have h := List.all_eq_true.mp h1 c hc
  rcases Bool.eq_false_or_eq_true (isCode c) with hi | hi
  · exact h2 c (List.mem_filter.mpr ⟨hc, hi⟩)
  · simpa [hi] using h
set_option maxRecDepth 65536 in
theorem w_c0 : (Jvm.Cond.code x code maxLocals ret).before args0 about1 = true := code_word (m := ⟨1, 2⟩) (meth := k1m2) (c := k1c2) (by decide +kernel) rfl rfl rfl (by decide +kernel)
set_option maxRecDepth 65536 in
theorem w_c1 : (Jvm.Cond.code ({ cls := "com/example/murmuration/murmuration/search/IndexedSetRemovePinLaw", name := "mod", desc := "(II)I" } : Jvm.MethodName) method_2_code (2 : Nat) (Option.some Jvm.ClassFile.FieldType.int)).before args0 about1 = true := code_word (m := ⟨1, 1⟩) (meth := k1m1) (c := k1c1) (by decide +kernel) rfl rfl rfl (by decide +kernel)
set_option maxRecDepth 65536 in
theorem w_c2 : (Jvm.Cond.code ({ cls := "com/example/murmuration/murmuration/search/IndexedSet", name := "<init>", desc := "(I)V" } : Jvm.MethodName) prog_28_method_1_code (2 : Nat) (Option.none : Option Jvm.ClassFile.FieldType)).before args0 about1 = true := code_word (m := ⟨2, 0⟩) (meth := k2m0) (c := k2c0) (by decide +kernel) rfl rfl rfl (by decide +kernel)
set_option maxRecDepth 65536 in
theorem w_c3 : (Jvm.Cond.code ({ cls := "java/lang/Object", name := "<init>", desc := "()V" } : Jvm.MethodName) object_method_1_code (1 : Nat) (Option.none : Option Jvm.ClassFile.FieldType)).before args0 about1 = true := code_word (m := ⟨0, 0⟩) (meth := k0m0) (c := k0c0) (by decide +kernel) rfl rfl rfl (by decide +kernel)
set_option maxRecDepth 65536 in
theorem w_c4 : (Jvm.Cond.code ({ cls := "java/util/Arrays", name := "fill", desc := "([II)V" } : Jvm.MethodName) jdk_65_method_103_code (4 : Nat) (Option.none : Option Jvm.ClassFile.FieldType)).before args0 about1 = true := code_word (m := ⟨3, 1⟩) (meth := k3m1) (c := k3c1) (by decide +kernel) rfl rfl rfl (by decide +kernel)
set_option maxRecDepth 65536 in
theorem w_c5 : (Jvm.Cond.code ({ cls := "com/example/murmuration/murmuration/search/IndexedSet", name := "add", desc := "(I)V" } : Jvm.MethodName) prog_28_method_5_code (2 : Nat) (Option.none : Option Jvm.ClassFile.FieldType)).before args0 about1 = true := code_word (m := ⟨2, 4⟩) (meth := k2m4) (c := k2c4) (by decide +kernel) rfl rfl rfl (by decide +kernel)
set_option maxRecDepth 65536 in
theorem w_c6 : (Jvm.Cond.code ({ cls := "com/example/murmuration/murmuration/search/IndexedSet", name := "remove", desc := "(I)V" } : Jvm.MethodName) prog_28_method_6_code (4 : Nat) (Option.none : Option Jvm.ClassFile.FieldType)).before args0 about1 = true := code_word (m := ⟨2, 5⟩) (meth := k2m5) (c := k2c5) (by decide +kernel) rfl rfl rfl (by decide +kernel)
set_option maxRecDepth 65536 in
theorem w_c7 : (Jvm.Cond.code ({ cls := "com/example/murmuration/murmuration/search/IndexedSet", name := "contains", desc := "(I)Z" } : Jvm.MethodName) prog_28_method_3_code (2 : Nat) (Option.some Jvm.ClassFile.FieldType.boolean)).before args0 about1 = true := code_word (m := ⟨2, 2⟩) (meth := k2m2) (c := k2c2) (by decide +kernel) rfl rfl rfl (by decide +kernel)
set_option maxRecDepth 65536 in
theorem w_c8 : (Jvm.Cond.code ({ cls := "com/example/murmuration/murmuration/search/IndexedSet", name := "size", desc := "()I" } : Jvm.MethodName) prog_28_method_2_code (1 : Nat) (Option.some Jvm.ClassFile.FieldType.int)).before args0 about1 = true := code_word (m := ⟨2, 1⟩) (meth := k2m1) (c := k2c1) (by decide +kernel) rfl rfl rfl (by decide +kernel)
set_option maxRecDepth 65536 in
theorem w_c9 : (Jvm.Cond.code ({ cls := "com/example/murmuration/murmuration/search/IndexedSet", name := "get", desc := "(I)I" } : Jvm.MethodName) prog_28_method_4_code (2 : Nat) (Option.some Jvm.ClassFile.FieldType.int)).before args0 about1 = true := code_word (m := ⟨2, 3⟩) (meth := k2m3) (c := k2c3) (by decide +kernel) rfl rfl rfl (by decide +kernel)
def codes1 : List Jvm.Cond := [Jvm.Cond.code x code maxLocals ret, Jvm.Cond.code ({ cls := "com/example/murmuration/murmuration/search/IndexedSetRemovePinLaw", name := "mod", desc := "(II)I" } : Jvm.MethodName) method_2_code (2 : Nat) (Option.some Jvm.ClassFile.FieldType.int), Jvm.Cond.code ({ cls := "com/example/murmuration/murmuration/search/IndexedSet", name := "<init>", desc := "(I)V" } : Jvm.MethodName) prog_28_method_1_code (2 : Nat) (Option.none : Option Jvm.ClassFile.FieldType), Jvm.Cond.code ({ cls := "java/lang/Object", name := "<init>", desc := "()V" } : Jvm.MethodName) object_method_1_code (1 : Nat) (Option.none : Option Jvm.ClassFile.FieldType), Jvm.Cond.code ({ cls := "java/util/Arrays", name := "fill", desc := "([II)V" } : Jvm.MethodName) jdk_65_method_103_code (4 : Nat) (Option.none : Option Jvm.ClassFile.FieldType), Jvm.Cond.code ({ cls := "com/example/murmuration/murmuration/search/IndexedSet", name := "add", desc := "(I)V" } : Jvm.MethodName) prog_28_method_5_code (2 : Nat) (Option.none : Option Jvm.ClassFile.FieldType), Jvm.Cond.code ({ cls := "com/example/murmuration/murmuration/search/IndexedSet", name := "remove", desc := "(I)V" } : Jvm.MethodName) prog_28_method_6_code (4 : Nat) (Option.none : Option Jvm.ClassFile.FieldType), Jvm.Cond.code ({ cls := "com/example/murmuration/murmuration/search/IndexedSet", name := "contains", desc := "(I)Z" } : Jvm.MethodName) prog_28_method_3_code (2 : Nat) (Option.some Jvm.ClassFile.FieldType.boolean), Jvm.Cond.code ({ cls := "com/example/murmuration/murmuration/search/IndexedSet", name := "size", desc := "()I" } : Jvm.MethodName) prog_28_method_2_code (1 : Nat) (Option.some Jvm.ClassFile.FieldType.int), Jvm.Cond.code ({ cls := "com/example/murmuration/murmuration/search/IndexedSet", name := "get", desc := "(I)I" } : Jvm.MethodName) prog_28_method_4_code (2 : Nat) (Option.some Jvm.ClassFile.FieldType.int)]
set_option maxRecDepth 65536 in
theorem codes_eq : words1.filter isCode = codes1 := rfl
theorem w_codes : ∀ c ∈ words1.filter isCode, c.before args0 about1 = true := by
  rw [codes_eq]
  intro c hc
  simp only [codes1, List.mem_cons, List.not_mem_nil, or_false] at hc
  rcases hc with rfl | rfl | rfl | rfl | rfl | rfl | rfl | rfl | rfl | rfl
  · exact w_c0
  · exact w_c1
  · exact w_c2
  · exact w_c3
  · exact w_c4
  · exact w_c5
  · exact w_c6
  · exact w_c7
  · exact w_c8
  · exact w_c9
set_option maxRecDepth 65536 in
theorem w_t1 : (words1.take 24).all (fun c => isCode c || c.before args0 about1) = true := by decide +kernel
set_option maxRecDepth 65536 in
theorem w_t2 : ((words1.drop 24).take 24).all (fun c => isCode c || c.before args0 about1) = true := by decide +kernel
set_option maxRecDepth 65536 in
theorem w_t3 : ((words1.drop 24).drop 24).all (fun c => isCode c || c.before args0 about1) = true := by decide +kernel
theorem w_tables : (allAtoms (Jvm.Cond.code x code maxLocals ret :: tables_1)).before args0 about1 = true := by
  rw [allAtoms_all]
  show words1.all (fun c => c.before args0 about1) = true
  refine all_split ?_ w_codes
  rw [← List.take_append_drop 24 words1, List.all_append, w_t1, ← List.take_append_drop 24 (words1.drop 24), List.all_append, w_t2, w_t3]
  rfl
set_option maxRecDepth 65536 in
theorem w_case : (Jvm.Cond.and given_1 narrow_1).before args0 about1 = true := by decide +kernel
theorem w_applies : (headSpec (Jvm.Cond.code x code maxLocals ret :: tables_1) room_1).applies x e0.platform about1 = true :=
  (Spec.applies_iff w_frames).mpr ⟨w_running, w_runnable, w_alone, w_named, w_hears, w_ripe, w_room, w_tables⟩
theorem atStart : AtStart classFile x code maxLocals ret World_1 tables_1 room_1 Calls_1 rest_1 Pre_1 launch0 p0 e0 about1 theMethod args0 below0 :=
  ⟨lists_1, trivial, launch0.admits_env _ _ _, launch0.least_env, fairChoices_fair.cas, fairChoices_fair.clock, w_frames, w_args, w_heap, w_applies, trivial, trivial, w_case⟩
end start1
theorem witness_1 : WitnessClaimed_1 := ⟨start1.p0, start1.e0, start1.about1, start1.theMethod, start1.args0, start1.below0, start1.atStart⟩
end Jvm.Pilot.@@N@@
