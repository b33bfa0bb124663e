import JvmDerived
import JvmDerived.Pilot.@@N@@Statement
import JvmDerived.Pilot.@@N@@Code
set_option linter.unusedVariables false
set_option linter.unusedSimpArgs false
namespace Jvm.Pilot.@@N@@
open Jvm Jvm.ClassFile Sem Op Lib Jvm.Free Jvm.Stand Jvm.LawKit Jvm.RoadKit Bundle Jvm.Pilot.@@N@@.Jvm.D
section Own
variable {p : Program} {l : Launch} {e : Env} {R : Room} {s : State} {m : MethodId} {args : Array Value} {below : List Frame} {meth : Method} {c : Code} {Z : State} {a0 : Array Value} {n0 : Nat} {Q : Option Value → Heap → Prop} {Kf : State → Outcome → Prop} {h : Heap} {k q : Nat} {own nm : String} {bytes : ByteArray} {maxL : Nat} {ret : Option FieldType} {pc pc' pc1 pc2 : Nat} {Ls Ls' : Array Slot} {rest : List Value}
/-- how a run of the body ends: it returns, nothing old is written, and Q holds of what is returned and of the heap -/
def own_K (below : List Frame) (R : Room) (s : State) (n0 : Nat) (Q : Option Value → Heap → Prop) (t : State) (o : Outcome) : Prop :=
  t.status = .running ∧ Ended t below o ∧ ∃ v L, o = .returned v ∧ (Fr n0 L ∧ Q v t.heap) ∧ FrameEnd s o t L R.cells R.slots
/-- from the frame g, with the heap h, k cells and q slots made so far: the run ends as own_K says -/
def own_Run (p : Program) (l : Launch) (e : Env) (R : Room) (s : State) (m : MethodId) (args : Array Value) (below : List Frame) (meth : Method) (c : Code) (n0 : Nat) (Kf : State → Outcome → Prop) (h : Heap) (k q : Nat) (g : JFrame) : Prop :=
  ∀ (T : State) (locs : List Loc), Stand p l e R s m args below meth c T locs k q → T.heap = h → Fr n0 locs → ∃ t o, Steps p.tables e below (T.setTop g) t ∧ Kf t o
/-- what stands fast through a body -/
def own_Ctx (p : Program) (s : State) (m : MethodId) (meth : Method) (c : Code) (Z : State) (own nm : String) (bytes : ByteArray) (maxL : Nat) (ret : Option FieldType) : Prop :=
  p.tables.exec = Jvm.exec ∧ Z.Warmed39 s.vm ∧ s.vm.findClass own = some m.cls ∧ c.code = bytes ∧ c.maxLocals = maxL ∧ meth.sig.returnType = ret ∧ meth.locks = false ∧ meth.name = nm
theorem own_Ctx.g_x (C : own_Ctx p s m meth c Z own nm bytes maxL ret) : p.tables.exec = Jvm.exec := C.1
theorem own_Ctx.g_z (C : own_Ctx p s m meth c Z own nm bytes maxL ret) : Z.Warmed39 s.vm := C.2.1
theorem own_Ctx.g_own (C : own_Ctx p s m meth c Z own nm bytes maxL ret) : s.vm.findClass own = some m.cls := C.2.2.1
theorem own_Ctx.g_by (C : own_Ctx p s m meth c Z own nm bytes maxL ret) : c.code = bytes := C.2.2.2.1
theorem own_Ctx.g_ml (C : own_Ctx p s m meth c Z own nm bytes maxL ret) : c.maxLocals = maxL := C.2.2.2.2.1
theorem own_Ctx.g_rt (C : own_Ctx p s m meth c Z own nm bytes maxL ret) : meth.sig.returnType = ret := C.2.2.2.2.2.1
theorem own_Ctx.g_lk (C : own_Ctx p s m meth c Z own nm bytes maxL ret) : meth.locks = false := C.2.2.2.2.2.2.1
theorem own_Ctx.g_nm (C : own_Ctx p s m meth c Z own nm bytes maxL ret) : meth.name = nm := C.2.2.2.2.2.2.2
/-- a method's contract: called with these arguments at the heap h, it returns as Q says -/
def own_Met (l : Launch) (Z : State) (n0 : Nat) (y : MethodName) (bytes : ByteArray) (maxL : Nat) (ret : Option FieldType) (rm : Room) (ws : List Jvm.Cond) (as' : Array Value) (h : Heap) (Q : Option Value → Heap → Prop) : Prop :=
  MetFree l y (head1 (Jvm.Cond.code y bytes maxL ret :: ws) rm) (fun a U => a = as' ∧ Z.Warmed39 U.vm ∧ U.heap = h) (fun _ _ _ _ _ => True) (fun _ U o U' => ∃ v L, o = .returned v ∧ (Fr n0 L ∧ Q v U'.heap) ∧ FrameEnd U o U' L rm.cells rm.slots)
theorem own_met {y : MethodName} {rm : Room} {ws : List Jvm.Cond} {as' : Array Value} (hn : plainName y.cls = true) (Ls : Array Slot) (hef : ∀ m : MethodId, entryFrame m as' maxL = mkF m 0 Ls [])
    (body : ∀ (p : Program) (e : Env) (s : State) (m : MethodId) (below : List Frame) (meth : Method) (c : Code), own_Ctx p s m meth c Z y.cls y.name bytes maxL ret → own_Run p l e rm s m as' below meth c n0 (own_K below rm s n0 Q) h 0 0 (mkF m 0 Ls [])) :
    own_Met l Z n0 y bytes maxL ret rm ws as' h Q := by
  refine MetFree.of_bodySF (plainFor_of_name hn) hisR ?_
  intro p e s m args below meth c s₁ Bd hml0 hP hK
  obtain ⟨rfl, hZ, hh⟩ := hP
  have C : own_Ctx p s m meth c Z y.cls y.name bytes maxL ret := ⟨Bd.exec, hZ, findClass_of_methodNamed Bd.named, Bd.bytes, hml0, Bd.returns, BodyLoose.notSynchronized Bd, (name_of_methodNamed Bd.named Bd.method).1⟩
  obtain ⟨t, o, h1, h2, h3, h4⟩ := body p e s m below meth c C s₁ [] (Stand.of_body Bd) (by rw [← hh, Bd.state]; rfl) (Fr.nil n0)
  exact ⟨t, o, castTop (hef m) h1, h2, h3, h4⟩
theorem own_st {g g' : JFrame} (h1 : ∀ (T : State) (locs : List Loc), Stand p l e R s m args below meth c T locs k q → T.heap = h → ∀ target, Steps p.tables e below (T.setTop g') target → Steps p.tables e below (T.setTop g) target) (r : own_Run p l e R s m args below meth c n0 Kf h k q g') : own_Run p l e R s m args below meth c n0 Kf h k q g := fun T locs X eT N => by
  obtain ⟨t, o, h2, h3⟩ := r T locs X eT N
  exact ⟨t, o, h1 T locs X eT t h2, h3⟩
theorem own_more {k' q' : Nat} {g : JFrame} (hk : k ≤ k') (hq : q ≤ q') (r : own_Run p l e R s m args below meth c n0 Kf h k' q' g) : own_Run p l e R s m args below meth c n0 Kf h k q g := fun T locs X eT N => r T locs (X.more hk hq) eT N
theorem own_iloadN (C : own_Ctx p s m meth c Z own nm bytes maxL ret) {i : Fin 4} {v : Int32} (hd : decode bytes pc = .ok (.iload_n i, 1)) (hp : pc + 1 = pc') (hl : Ls[i.val]? = some (.val (.int v))) (r : own_Run p l e R s m args below meth c n0 Kf h k q (mkF m pc' Ls (.int v :: rest))) : own_Run p l e R s m args below meth c n0 Kf h k q (mkF m pc Ls (rest)) :=
  own_st (fun T locs X eT t kk => by subst hp; exact Jvm.Free.XS.iloadN X.here C.g_x rfl (hb C.g_by hd) hl kk) r
theorem own_iload (C : own_Ctx p s m meth c Z own nm bytes maxL ret) {i : Nat} {v : Int32} (hd : decode bytes pc = .ok (.iload i, 2)) (hp : pc + 2 = pc') (hl : Ls[i]? = some (.val (.int v))) (r : own_Run p l e R s m args below meth c n0 Kf h k q (mkF m pc' Ls (.int v :: rest))) : own_Run p l e R s m args below meth c n0 Kf h k q (mkF m pc Ls (rest)) :=
  own_st (fun T locs X eT t kk => by subst hp; exact Jvm.Free.XS.iload X.here C.g_x rfl (hb C.g_by hd) hl kk) r
theorem own_lloadN (C : own_Ctx p s m meth c Z own nm bytes maxL ret) {i : Fin 4} {v : Int64} (hd : decode bytes pc = .ok (.lload_n i, 1)) (hp : pc + 1 = pc') (hl : Ls[i.val]? = some (.val (.long v))) (r : own_Run p l e R s m args below meth c n0 Kf h k q (mkF m pc' Ls (.long v :: rest))) : own_Run p l e R s m args below meth c n0 Kf h k q (mkF m pc Ls (rest)) :=
  own_st (fun T locs X eT t kk => by subst hp; exact Jvm.Free.XT.lloadN X.here C.g_x rfl (hb C.g_by hd) hl kk) r
theorem own_lload (C : own_Ctx p s m meth c Z own nm bytes maxL ret) {i : Nat} {v : Int64} (hd : decode bytes pc = .ok (.lload i, 2)) (hp : pc + 2 = pc') (hl : Ls[i]? = some (.val (.long v))) (r : own_Run p l e R s m args below meth c n0 Kf h k q (mkF m pc' Ls (.long v :: rest))) : own_Run p l e R s m args below meth c n0 Kf h k q (mkF m pc Ls (rest)) :=
  own_st (fun T locs X eT t kk => by subst hp; exact Jvm.Free.XT.lload X.here C.g_x rfl (hb C.g_by hd) hl kk) r
theorem own_aloadN (C : own_Ctx p s m meth c Z own nm bytes maxL ret) {i : Fin 4} {v : Value} (hd : decode bytes pc = .ok (.aload_n i, 1)) (hp : pc + 1 = pc') (hl : Ls[i.val]? = some (.val v)) (hv : v.isRef = true) (r : own_Run p l e R s m args below meth c n0 Kf h k q (mkF m pc' Ls (v :: rest))) : own_Run p l e R s m args below meth c n0 Kf h k q (mkF m pc Ls (rest)) :=
  own_st (fun T locs X eT t kk => by subst hp; exact Jvm.Free.XS.aloadN X.here C.g_x rfl (hb C.g_by hd) hl hv kk) r
theorem own_aload (C : own_Ctx p s m meth c Z own nm bytes maxL ret) {i : Nat} {v : Value} (hd : decode bytes pc = .ok (.aload i, 2)) (hp : pc + 2 = pc') (hl : Ls[i]? = some (.val v)) (hv : v.isRef = true) (r : own_Run p l e R s m args below meth c n0 Kf h k q (mkF m pc' Ls (v :: rest))) : own_Run p l e R s m args below meth c n0 Kf h k q (mkF m pc Ls (rest)) :=
  own_st (fun T locs X eT t kk => by subst hp; exact Jvm.Free.XS.aload X.here C.g_x rfl (hb C.g_by hd) hl hv kk) r
theorem own_istoreN (C : own_Ctx p s m meth c Z own nm bytes maxL ret) {i : Fin 4} {v : Int32} (hd : decode bytes pc = .ok (.istore_n i, 1)) (hp : pc + 1 = pc') (hl : storeLocals Ls i.val (.int v) = some Ls') (r : own_Run p l e R s m args below meth c n0 Kf h k q (mkF m pc' Ls' (rest))) : own_Run p l e R s m args below meth c n0 Kf h k q (mkF m pc Ls (.int v :: rest)) :=
  own_st (fun T locs X eT t kk => by subst hp; exact Jvm.Free.XS.istoreN X.here C.g_x rfl (hb C.g_by hd) rfl hl kk) r
theorem own_istore (C : own_Ctx p s m meth c Z own nm bytes maxL ret) {i : Nat} {v : Int32} (hd : decode bytes pc = .ok (.istore i, 2)) (hp : pc + 2 = pc') (hl : storeLocals Ls i (.int v) = some Ls') (r : own_Run p l e R s m args below meth c n0 Kf h k q (mkF m pc' Ls' (rest))) : own_Run p l e R s m args below meth c n0 Kf h k q (mkF m pc Ls (.int v :: rest)) :=
  own_st (fun T locs X eT t kk => by subst hp; exact Jvm.Free.XS.istore X.here C.g_x rfl (hb C.g_by hd) rfl hl kk) r
theorem own_lstoreN (C : own_Ctx p s m meth c Z own nm bytes maxL ret) {i : Fin 4} {v : Int64} (hd : decode bytes pc = .ok (.lstore_n i, 1)) (hp : pc + 1 = pc') (hl : storeLocals Ls i.val (.long v) = some Ls') (r : own_Run p l e R s m args below meth c n0 Kf h k q (mkF m pc' Ls' (rest))) : own_Run p l e R s m args below meth c n0 Kf h k q (mkF m pc Ls (.long v :: rest)) :=
  own_st (fun T locs X eT t kk => by subst hp; exact Jvm.Free.XT.lstoreN X.here C.g_x rfl (hb C.g_by hd) rfl hl kk) r
theorem own_lstore (C : own_Ctx p s m meth c Z own nm bytes maxL ret) {i : Nat} {v : Int64} (hd : decode bytes pc = .ok (.lstore i, 2)) (hp : pc + 2 = pc') (hl : storeLocals Ls i (.long v) = some Ls') (r : own_Run p l e R s m args below meth c n0 Kf h k q (mkF m pc' Ls' (rest))) : own_Run p l e R s m args below meth c n0 Kf h k q (mkF m pc Ls (.long v :: rest)) :=
  own_st (fun T locs X eT t kk => by subst hp; exact Jvm.Free.XT.lstore X.here C.g_x rfl (hb C.g_by hd) rfl hl kk) r
theorem own_astoreN (C : own_Ctx p s m meth c Z own nm bytes maxL ret) {i : Fin 4} {v : Value} (hd : decode bytes pc = .ok (.astore_n i, 1)) (hp : pc + 1 = pc') (hv : v.isRef = true) (hl : storeLocals Ls i.val v = some Ls') (r : own_Run p l e R s m args below meth c n0 Kf h k q (mkF m pc' Ls' (rest))) : own_Run p l e R s m args below meth c n0 Kf h k q (mkF m pc Ls (v :: rest)) :=
  own_st (fun T locs X eT t kk => by subst hp; exact Jvm.Free.XS.astoreN X.here C.g_x rfl (hb C.g_by hd) rfl hv hl kk) r
theorem own_astore (C : own_Ctx p s m meth c Z own nm bytes maxL ret) {i : Nat} {v : Value} (hd : decode bytes pc = .ok (.astore i, 2)) (hp : pc + 2 = pc') (hv : v.isRef = true) (hl : storeLocals Ls i v = some Ls') (r : own_Run p l e R s m args below meth c n0 Kf h k q (mkF m pc' Ls' (rest))) : own_Run p l e R s m args below meth c n0 Kf h k q (mkF m pc Ls (v :: rest)) :=
  own_st (fun T locs X eT t kk => by subst hp; exact Jvm.Free.XS.astore X.here C.g_x rfl (hb C.g_by hd) rfl hv hl kk) r
theorem own_iinc (C : own_Ctx p s m meth c Z own nm bytes maxL ret) {i : Nat} {cst : Int} {v w : Int32} (hd : decode bytes pc = .ok (.iinc i cst, 3)) (hp : pc + 3 = pc') (hv : Int32.ofInt cst = w) (hl : Ls[i]? = some (.val (.int v))) (hl' : storeLocals Ls i (.int (v + w)) = some Ls') (r : own_Run p l e R s m args below meth c n0 Kf h k q (mkF m pc' Ls' (rest))) : own_Run p l e R s m args below meth c n0 Kf h k q (mkF m pc Ls (rest)) :=
  own_st (fun T locs X eT t kk => by subst hp; exact Jvm.Free.XT.iincV X.here C.g_x rfl w (hb C.g_by hd) hv hl hl' kk) r
theorem own_iincV (C : own_Ctx p s m meth c Z own nm bytes maxL ret) {i : Nat} {cst : Int} {v w x : Int32} (hd : decode bytes pc = .ok (.iinc i cst, 3)) (hp : pc + 3 = pc') (hv : Int32.ofInt cst = w) (hs : v + w = x) (hl : Ls[i]? = some (.val (.int v))) (hl' : storeLocals Ls i (.int x) = some Ls') (r : own_Run p l e R s m args below meth c n0 Kf h k q (mkF m pc' Ls' (rest))) : own_Run p l e R s m args below meth c n0 Kf h k q (mkF m pc Ls (rest)) :=
  own_st (fun T locs X eT t kk => by subst hp; exact Jvm.Free.XT.iincV X.here C.g_x rfl w (hb C.g_by hd) hv hl (by rw [hs]; exact hl') kk) r
theorem own_iconst (C : own_Ctx p s m meth c Z own nm bytes maxL ret) {i : Int} {v : Int32} (hd : decode bytes pc = .ok (.iconst i, 1)) (hp : pc + 1 = pc') (hv : Int32.ofInt i = v) (r : own_Run p l e R s m args below meth c n0 Kf h k q (mkF m pc' Ls (.int v :: rest))) : own_Run p l e R s m args below meth c n0 Kf h k q (mkF m pc Ls (rest)) :=
  own_st (fun T locs X eT t kk => by subst hp; exact Jvm.Free.XT.iconstV X.here C.g_x rfl v (hb C.g_by hd) hv kk) r
theorem own_bipush (C : own_Ctx p s m meth c Z own nm bytes maxL ret) {i : Int} {v : Int32} (hd : decode bytes pc = .ok (.bipush i, 2)) (hp : pc + 2 = pc') (hv : (Int8.ofInt i).toInt32 = v) (r : own_Run p l e R s m args below meth c n0 Kf h k q (mkF m pc' Ls (.int v :: rest))) : own_Run p l e R s m args below meth c n0 Kf h k q (mkF m pc Ls (rest)) :=
  own_st (fun T locs X eT t kk => by subst hp; exact Jvm.Free.XT.bipushV X.here C.g_x rfl v (hb C.g_by hd) hv kk) r
theorem own_sipush (C : own_Ctx p s m meth c Z own nm bytes maxL ret) {i : Int} {v : Int32} (hd : decode bytes pc = .ok (.sipush i, 3)) (hp : pc + 3 = pc') (hv : (Int16.ofInt i).toInt32 = v) (r : own_Run p l e R s m args below meth c n0 Kf h k q (mkF m pc' Ls (.int v :: rest))) : own_Run p l e R s m args below meth c n0 Kf h k q (mkF m pc Ls (rest)) :=
  own_st (fun T locs X eT t kk => by subst hp; exact Jvm.Free.XT.sipushV X.here C.g_x rfl v (hb C.g_by hd) hv kk) r
theorem own_lconst (C : own_Ctx p s m meth c Z own nm bytes maxL ret) {i : Fin 2} {v : Int64} (hd : decode bytes pc = .ok (.lconst i, 1)) (hp : pc + 1 = pc') (hv : Int64.ofNat i = v) (r : own_Run p l e R s m args below meth c n0 Kf h k q (mkF m pc' Ls (.long v :: rest))) : own_Run p l e R s m args below meth c n0 Kf h k q (mkF m pc Ls (rest)) :=
  own_st (fun T locs X eT t kk => by subst hp; exact Jvm.Free.XT.lconstV X.here C.g_x rfl v (hb C.g_by hd) hv kk) r
theorem own_aconst (C : own_Ctx p s m meth c Z own nm bytes maxL ret)  (hd : decode bytes pc = .ok (.aconst_null, 1)) (hp : pc + 1 = pc')  (r : own_Run p l e R s m args below meth c n0 Kf h k q (mkF m pc' Ls (.null :: rest))) : own_Run p l e R s m args below meth c n0 Kf h k q (mkF m pc Ls (rest)) :=
  own_st (fun T locs X eT t kk => by subst hp; exact Jvm.Free.XS.aconstNull X.here C.g_x rfl (hb C.g_by hd) kk) r
theorem own_ldc (C : own_Ctx p s m meth c Z own nm bytes maxL ret) {i : Nat} {v : Int32} (hd : decode bytes pc = .ok (.ldc i, 2)) (hp : pc + 2 = pc') (hc : (Jvm.Cond.constant own i v).before a0 Z = true) (r : own_Run p l e R s m args below meth c n0 Kf h k q (mkF m pc' Ls (.int v :: rest))) : own_Run p l e R s m args below meth c n0 Kf h k q (mkF m pc Ls (rest)) :=
  own_st (fun T locs X eT t kk => by subst hp; exact X.ldcI C.g_x C.g_own (mvT C.g_z hc) rfl (hb C.g_by hd) kk) r
theorem own_ldc2 (C : own_Ctx p s m meth c Z own nm bytes maxL ret) {i : Nat} {v : Int64} (hd : decode bytes pc = .ok (.ldc2_w i, 3)) (hp : pc + 3 = pc') (hc : (Jvm.Cond.constantLong own i v).before a0 Z = true) (r : own_Run p l e R s m args below meth c n0 Kf h k q (mkF m pc' Ls (.long v :: rest))) : own_Run p l e R s m args below meth c n0 Kf h k q (mkF m pc Ls (rest)) :=
  own_st (fun T locs X eT t kk => by subst hp; exact X.ldc2J C.g_x C.g_own (mvT C.g_z hc) rfl (hb C.g_by hd) kk) r
theorem own_dup (C : own_Ctx p s m meth c Z own nm bytes maxL ret) {v : Value} (hd : decode bytes pc = .ok (.dup, 1)) (hp : pc + 1 = pc') (hc : v.category = 1) (r : own_Run p l e R s m args below meth c n0 Kf h k q (mkF m pc' Ls (v :: v :: rest))) : own_Run p l e R s m args below meth c n0 Kf h k q (mkF m pc Ls (v :: rest)) :=
  own_st (fun T locs X eT t kk => by subst hp; exact Jvm.Free.XS.dup X.here C.g_x rfl (hb C.g_by hd) rfl hc kk) r
theorem own_pop (C : own_Ctx p s m meth c Z own nm bytes maxL ret) {v : Value} (hd : decode bytes pc = .ok (.pop, 1)) (hp : pc + 1 = pc') (hc : v.category = 1) (r : own_Run p l e R s m args below meth c n0 Kf h k q (mkF m pc' Ls (rest))) : own_Run p l e R s m args below meth c n0 Kf h k q (mkF m pc Ls (v :: rest)) :=
  own_st (fun T locs X eT t kk => by subst hp; exact Jvm.Free.XT.pop X.here C.g_x rfl (hb C.g_by hd) rfl hc kk) r
theorem own_dupX1 (C : own_Ctx p s m meth c Z own nm bytes maxL ret) {v w : Value} (hd : decode bytes pc = .ok (.dup_x1, 1)) (hp : pc + 1 = pc') (hc : v.category = 1) (hc' : w.category = 1) (r : own_Run p l e R s m args below meth c n0 Kf h k q (mkF m pc' Ls (v :: w :: v :: rest))) : own_Run p l e R s m args below meth c n0 Kf h k q (mkF m pc Ls (v :: w :: rest)) :=
  own_st (fun T locs X eT t kk => by subst hp; exact Jvm.Free.XT.dupX1 X.here C.g_x rfl (hb C.g_by hd) rfl hc hc' kk) r
theorem own_dup2 (C : own_Ctx p s m meth c Z own nm bytes maxL ret) {v w : Value} (hd : decode bytes pc = .ok (.dup2, 1)) (hp : pc + 1 = pc') (hc : v.category = 1) (hc' : w.category = 1) (r : own_Run p l e R s m args below meth c n0 Kf h k q (mkF m pc' Ls (v :: w :: v :: w :: rest))) : own_Run p l e R s m args below meth c n0 Kf h k q (mkF m pc Ls (v :: w :: rest)) :=
  own_st (fun T locs X eT t kk => by subst hp; exact Jvm.Free.XT.dup2 X.here C.g_x rfl (hb C.g_by hd) rfl hc hc' kk) r
theorem own_iadd (C : own_Ctx p s m meth c Z own nm bytes maxL ret) {x y : Int32} (hd : decode bytes pc = .ok (.iadd, 1)) (hp : pc + 1 = pc')  (r : own_Run p l e R s m args below meth c n0 Kf h k q (mkF m pc' Ls (.int (x + y) :: rest))) : own_Run p l e R s m args below meth c n0 Kf h k q (mkF m pc Ls (.int y :: .int x :: rest)) :=
  own_st (fun T locs X eT t kk => by subst hp; exact Jvm.Free.XS.iadd X.here C.g_x rfl (hb C.g_by hd) rfl kk) r
theorem own_isub (C : own_Ctx p s m meth c Z own nm bytes maxL ret) {x y : Int32} (hd : decode bytes pc = .ok (.isub, 1)) (hp : pc + 1 = pc')  (r : own_Run p l e R s m args below meth c n0 Kf h k q (mkF m pc' Ls (.int (x - y) :: rest))) : own_Run p l e R s m args below meth c n0 Kf h k q (mkF m pc Ls (.int y :: .int x :: rest)) :=
  own_st (fun T locs X eT t kk => by subst hp; exact Jvm.Free.XS.isub X.here C.g_x rfl (hb C.g_by hd) rfl kk) r
theorem own_iand (C : own_Ctx p s m meth c Z own nm bytes maxL ret) {x y : Int32} (hd : decode bytes pc = .ok (.iand, 1)) (hp : pc + 1 = pc')  (r : own_Run p l e R s m args below meth c n0 Kf h k q (mkF m pc' Ls (.int (x &&& y) :: rest))) : own_Run p l e R s m args below meth c n0 Kf h k q (mkF m pc Ls (.int y :: .int x :: rest)) :=
  own_st (fun T locs X eT t kk => by subst hp; exact Jvm.Free.XS.iand X.here C.g_x rfl (hb C.g_by hd) rfl kk) r
theorem own_imul (C : own_Ctx p s m meth c Z own nm bytes maxL ret) {x y : Int32} (hd : decode bytes pc = .ok (.imul, 1)) (hp : pc + 1 = pc')  (r : own_Run p l e R s m args below meth c n0 Kf h k q (mkF m pc' Ls (.int (x * y) :: rest))) : own_Run p l e R s m args below meth c n0 Kf h k q (mkF m pc Ls (.int y :: .int x :: rest)) :=
  own_st (fun T locs X eT t kk => by subst hp; exact Jvm.Free.XS.imul X.here C.g_x rfl (hb C.g_by hd) rfl kk) r
theorem own_ior (C : own_Ctx p s m meth c Z own nm bytes maxL ret) {x y : Int32} (hd : decode bytes pc = .ok (.ior, 1)) (hp : pc + 1 = pc')  (r : own_Run p l e R s m args below meth c n0 Kf h k q (mkF m pc' Ls (.int (x ||| y) :: rest))) : own_Run p l e R s m args below meth c n0 Kf h k q (mkF m pc Ls (.int y :: .int x :: rest)) :=
  own_st (fun T locs X eT t kk => by subst hp; exact Jvm.Free.XT.ior X.here C.g_x rfl (hb C.g_by hd) rfl kk) r
theorem own_ixor (C : own_Ctx p s m meth c Z own nm bytes maxL ret) {x y : Int32} (hd : decode bytes pc = .ok (.ixor, 1)) (hp : pc + 1 = pc')  (r : own_Run p l e R s m args below meth c n0 Kf h k q (mkF m pc' Ls (.int (x ^^^ y) :: rest))) : own_Run p l e R s m args below meth c n0 Kf h k q (mkF m pc Ls (.int y :: .int x :: rest)) :=
  own_st (fun T locs X eT t kk => by subst hp; exact Jvm.Free.XT.ixor X.here C.g_x rfl (hb C.g_by hd) rfl kk) r
theorem own_ishl (C : own_Ctx p s m meth c Z own nm bytes maxL ret) {x y : Int32} (hd : decode bytes pc = .ok (.ishl, 1)) (hp : pc + 1 = pc')  (r : own_Run p l e R s m args below meth c n0 Kf h k q (mkF m pc' Ls (.int (x <<< (y &&& 31)) :: rest))) : own_Run p l e R s m args below meth c n0 Kf h k q (mkF m pc Ls (.int y :: .int x :: rest)) :=
  own_st (fun T locs X eT t kk => by subst hp; exact Jvm.Free.XT.ishl X.here C.g_x rfl (hb C.g_by hd) rfl kk) r
theorem own_ishr (C : own_Ctx p s m meth c Z own nm bytes maxL ret) {x y : Int32} (hd : decode bytes pc = .ok (.ishr, 1)) (hp : pc + 1 = pc')  (r : own_Run p l e R s m args below meth c n0 Kf h k q (mkF m pc' Ls (.int (x >>> (y &&& 31)) :: rest))) : own_Run p l e R s m args below meth c n0 Kf h k q (mkF m pc Ls (.int y :: .int x :: rest)) :=
  own_st (fun T locs X eT t kk => by subst hp; exact Jvm.Free.XT.ishr X.here C.g_x rfl (hb C.g_by hd) rfl kk) r
theorem own_iushr (C : own_Ctx p s m meth c Z own nm bytes maxL ret) {x y : Int32} (hd : decode bytes pc = .ok (.iushr, 1)) (hp : pc + 1 = pc')  (r : own_Run p l e R s m args below meth c n0 Kf h k q (mkF m pc' Ls (.int (Jvm.Free.XT.ushr x y) :: rest))) : own_Run p l e R s m args below meth c n0 Kf h k q (mkF m pc Ls (.int y :: .int x :: rest)) :=
  own_st (fun T locs X eT t kk => by subst hp; exact Jvm.Free.XT.iushr X.here C.g_x rfl (hb C.g_by hd) rfl kk) r
theorem own_irem (C : own_Ctx p s m meth c Z own nm bytes maxL ret) {x y : Int32} (hd : decode bytes pc = .ok (.irem, 1)) (hp : pc + 1 = pc') (hy : y ≠ 0) (r : own_Run p l e R s m args below meth c n0 Kf h k q (mkF m pc' Ls (.int (x % y) :: rest))) : own_Run p l e R s m args below meth c n0 Kf h k q (mkF m pc Ls (.int y :: .int x :: rest)) :=
  own_st (fun T locs X eT t kk => by subst hp; exact iremM X C.g_x rfl (hb C.g_by hd) rfl hy kk) r
theorem own_idivV (C : own_Ctx p s m meth c Z own nm bytes maxL ret) {x y v : Int32} (hd : decode bytes pc = .ok (.idiv, 1)) (hp : pc + 1 = pc') (hy : y ≠ 0) (hv : x / y = v) (r : own_Run p l e R s m args below meth c n0 Kf h k q (mkF m pc' Ls (.int v :: rest))) : own_Run p l e R s m args below meth c n0 Kf h k q (mkF m pc Ls (.int y :: .int x :: rest)) :=
  own_st (fun T locs X eT t kk => by subst hp; exact Jvm.Free.XS.idiv X.here C.g_x rfl (hb C.g_by hd) rfl hy (by rw [hv]; exact kk)) r
theorem own_ineg (C : own_Ctx p s m meth c Z own nm bytes maxL ret) {x : Int32} (hd : decode bytes pc = .ok (.ineg, 1)) (hp : pc + 1 = pc')  (r : own_Run p l e R s m args below meth c n0 Kf h k q (mkF m pc' Ls (.int (-x) :: rest))) : own_Run p l e R s m args below meth c n0 Kf h k q (mkF m pc Ls (.int x :: rest)) :=
  own_st (fun T locs X eT t kk => by subst hp; exact Jvm.Free.XS.ineg X.here C.g_x rfl (hb C.g_by hd) rfl kk) r
theorem own_ladd (C : own_Ctx p s m meth c Z own nm bytes maxL ret) {x y : Int64} (hd : decode bytes pc = .ok (.ladd, 1)) (hp : pc + 1 = pc')  (r : own_Run p l e R s m args below meth c n0 Kf h k q (mkF m pc' Ls (.long (x + y) :: rest))) : own_Run p l e R s m args below meth c n0 Kf h k q (mkF m pc Ls (.long y :: .long x :: rest)) :=
  own_st (fun T locs X eT t kk => by subst hp; exact Jvm.Free.XT.ladd X.here C.g_x rfl (hb C.g_by hd) rfl kk) r
theorem own_lsub (C : own_Ctx p s m meth c Z own nm bytes maxL ret) {x y : Int64} (hd : decode bytes pc = .ok (.lsub, 1)) (hp : pc + 1 = pc')  (r : own_Run p l e R s m args below meth c n0 Kf h k q (mkF m pc' Ls (.long (x - y) :: rest))) : own_Run p l e R s m args below meth c n0 Kf h k q (mkF m pc Ls (.long y :: .long x :: rest)) :=
  own_st (fun T locs X eT t kk => by subst hp; exact Jvm.Free.XT.lsub X.here C.g_x rfl (hb C.g_by hd) rfl kk) r
theorem own_land (C : own_Ctx p s m meth c Z own nm bytes maxL ret) {x y : Int64} (hd : decode bytes pc = .ok (.land, 1)) (hp : pc + 1 = pc')  (r : own_Run p l e R s m args below meth c n0 Kf h k q (mkF m pc' Ls (.long (x &&& y) :: rest))) : own_Run p l e R s m args below meth c n0 Kf h k q (mkF m pc Ls (.long y :: .long x :: rest)) :=
  own_st (fun T locs X eT t kk => by subst hp; exact Jvm.Free.XT.land X.here C.g_x rfl (hb C.g_by hd) rfl kk) r
theorem own_lor (C : own_Ctx p s m meth c Z own nm bytes maxL ret) {x y : Int64} (hd : decode bytes pc = .ok (.lor, 1)) (hp : pc + 1 = pc')  (r : own_Run p l e R s m args below meth c n0 Kf h k q (mkF m pc' Ls (.long (x ||| y) :: rest))) : own_Run p l e R s m args below meth c n0 Kf h k q (mkF m pc Ls (.long y :: .long x :: rest)) :=
  own_st (fun T locs X eT t kk => by subst hp; exact Jvm.Free.XT.lor X.here C.g_x rfl (hb C.g_by hd) rfl kk) r
theorem own_lxor (C : own_Ctx p s m meth c Z own nm bytes maxL ret) {x y : Int64} (hd : decode bytes pc = .ok (.lxor, 1)) (hp : pc + 1 = pc')  (r : own_Run p l e R s m args below meth c n0 Kf h k q (mkF m pc' Ls (.long (x ^^^ y) :: rest))) : own_Run p l e R s m args below meth c n0 Kf h k q (mkF m pc Ls (.long y :: .long x :: rest)) :=
  own_st (fun T locs X eT t kk => by subst hp; exact Jvm.Free.XT.lxor X.here C.g_x rfl (hb C.g_by hd) rfl kk) r
theorem own_lmul (C : own_Ctx p s m meth c Z own nm bytes maxL ret) {x y : Int64} (hd : decode bytes pc = .ok (.lmul, 1)) (hp : pc + 1 = pc')  (r : own_Run p l e R s m args below meth c n0 Kf h k q (mkF m pc' Ls (.long (x * y) :: rest))) : own_Run p l e R s m args below meth c n0 Kf h k q (mkF m pc Ls (.long y :: .long x :: rest)) :=
  own_st (fun T locs X eT t kk => by subst hp; exact Jvm.Free.XT.lmul X.here C.g_x rfl (hb C.g_by hd) rfl kk) r
theorem own_lcmp (C : own_Ctx p s m meth c Z own nm bytes maxL ret) {x y : Int64} (hd : decode bytes pc = .ok (.lcmp, 1)) (hp : pc + 1 = pc')  (r : own_Run p l e R s m args below meth c n0 Kf h k q (mkF m pc' Ls (.int (Jvm.Free.XT.cmpL x y) :: rest))) : own_Run p l e R s m args below meth c n0 Kf h k q (mkF m pc Ls (.long y :: .long x :: rest)) :=
  own_st (fun T locs X eT t kk => by subst hp; exact Jvm.Free.XT.lcmp X.here C.g_x rfl (hb C.g_by hd) rfl kk) r
theorem own_lshl (C : own_Ctx p s m meth c Z own nm bytes maxL ret) {x : Int64} {y : Int32} (hd : decode bytes pc = .ok (.lshl, 1)) (hp : pc + 1 = pc')  (r : own_Run p l e R s m args below meth c n0 Kf h k q (mkF m pc' Ls (.long (x <<< (y.toInt64 &&& 63)) :: rest))) : own_Run p l e R s m args below meth c n0 Kf h k q (mkF m pc Ls (.int y :: .long x :: rest)) :=
  own_st (fun T locs X eT t kk => by subst hp; exact Jvm.Free.XT.lshl X.here C.g_x rfl (hb C.g_by hd) rfl kk) r
theorem own_i2l (C : own_Ctx p s m meth c Z own nm bytes maxL ret) {x : Int32} (hd : decode bytes pc = .ok (.i2l, 1)) (hp : pc + 1 = pc')  (r : own_Run p l e R s m args below meth c n0 Kf h k q (mkF m pc' Ls (.long (x.toInt64) :: rest))) : own_Run p l e R s m args below meth c n0 Kf h k q (mkF m pc Ls (.int x :: rest)) :=
  own_st (fun T locs X eT t kk => by subst hp; exact Jvm.Free.XT.i2l X.here C.g_x rfl (hb C.g_by hd) rfl kk) r
theorem own_l2i (C : own_Ctx p s m meth c Z own nm bytes maxL ret) {x : Int64} (hd : decode bytes pc = .ok (.l2i, 1)) (hp : pc + 1 = pc')  (r : own_Run p l e R s m args below meth c n0 Kf h k q (mkF m pc' Ls (.int (x.toInt32) :: rest))) : own_Run p l e R s m args below meth c n0 Kf h k q (mkF m pc Ls (.long x :: rest)) :=
  own_st (fun T locs X eT t kk => by subst hp; exact Jvm.Free.XT.l2i X.here C.g_x rfl (hb C.g_by hd) rfl kk) r
theorem own_i2b (C : own_Ctx p s m meth c Z own nm bytes maxL ret) {x : Int32} (hd : decode bytes pc = .ok (.i2b, 1)) (hp : pc + 1 = pc')  (r : own_Run p l e R s m args below meth c n0 Kf h k q (mkF m pc' Ls (.int (x.toInt8.toInt32) :: rest))) : own_Run p l e R s m args below meth c n0 Kf h k q (mkF m pc Ls (.int x :: rest)) :=
  own_st (fun T locs X eT t kk => by subst hp; exact Jvm.Free.XT.i2b X.here C.g_x rfl (hb C.g_by hd) rfl kk) r
theorem own_i2c (C : own_Ctx p s m meth c Z own nm bytes maxL ret) {x : Int32} (hd : decode bytes pc = .ok (.i2c, 1)) (hp : pc + 1 = pc')  (r : own_Run p l e R s m args below meth c n0 Kf h k q (mkF m pc' Ls (.int (x.toUInt32.toUInt16.toUInt32.toInt32) :: rest))) : own_Run p l e R s m args below meth c n0 Kf h k q (mkF m pc Ls (.int x :: rest)) :=
  own_st (fun T locs X eT t kk => by subst hp; exact Jvm.Free.XT.i2c X.here C.g_x rfl (hb C.g_by hd) rfl kk) r
theorem own_iaddV (C : own_Ctx p s m meth c Z own nm bytes maxL ret) {x y v : Int32} (hd : decode bytes pc = .ok (.iadd, 1)) (hp : pc + 1 = pc') (hv : x + y = v) (r : own_Run p l e R s m args below meth c n0 Kf h k q (mkF m pc' Ls (.int v :: rest))) : own_Run p l e R s m args below meth c n0 Kf h k q (mkF m pc Ls (.int y :: .int x :: rest)) :=
  own_st (fun T locs X eT t kk => by subst hp; exact Jvm.Free.XS.iadd X.here C.g_x rfl (hb C.g_by hd) rfl (by rw [hv]; exact kk)) r
theorem own_isubV (C : own_Ctx p s m meth c Z own nm bytes maxL ret) {x y v : Int32} (hd : decode bytes pc = .ok (.isub, 1)) (hp : pc + 1 = pc') (hv : x - y = v) (r : own_Run p l e R s m args below meth c n0 Kf h k q (mkF m pc' Ls (.int v :: rest))) : own_Run p l e R s m args below meth c n0 Kf h k q (mkF m pc Ls (.int y :: .int x :: rest)) :=
  own_st (fun T locs X eT t kk => by subst hp; exact Jvm.Free.XS.isub X.here C.g_x rfl (hb C.g_by hd) rfl (by rw [hv]; exact kk)) r
theorem own_imulV (C : own_Ctx p s m meth c Z own nm bytes maxL ret) {x y v : Int32} (hd : decode bytes pc = .ok (.imul, 1)) (hp : pc + 1 = pc') (hv : x * y = v) (r : own_Run p l e R s m args below meth c n0 Kf h k q (mkF m pc' Ls (.int v :: rest))) : own_Run p l e R s m args below meth c n0 Kf h k q (mkF m pc Ls (.int y :: .int x :: rest)) :=
  own_st (fun T locs X eT t kk => by subst hp; exact Jvm.Free.XS.imul X.here C.g_x rfl (hb C.g_by hd) rfl (by rw [hv]; exact kk)) r
theorem own_iandV (C : own_Ctx p s m meth c Z own nm bytes maxL ret) {x y v : Int32} (hd : decode bytes pc = .ok (.iand, 1)) (hp : pc + 1 = pc') (hv : x &&& y = v) (r : own_Run p l e R s m args below meth c n0 Kf h k q (mkF m pc' Ls (.int v :: rest))) : own_Run p l e R s m args below meth c n0 Kf h k q (mkF m pc Ls (.int y :: .int x :: rest)) :=
  own_st (fun T locs X eT t kk => by subst hp; exact Jvm.Free.XS.iand X.here C.g_x rfl (hb C.g_by hd) rfl (by rw [hv]; exact kk)) r
theorem own_goto (C : own_Ctx p s m meth c Z own nm bytes maxL ret) {o : Int} {st : List Value} (hd : decode bytes pc = .ok (.goto o, 3)) (ho : (pc : Int) + o = (pc' : Int)) (r : own_Run p l e R s m args below meth c n0 Kf h k q (mkF m pc' Ls st)) : own_Run p l e R s m args below meth c n0 Kf h k q (mkF m pc Ls st) :=
  own_st (fun T locs X eT t kk => Jvm.Free.XS.goto X.here C.g_x rfl (pc0 := pc) (pc' := pc') rfl (hb C.g_by hd) (by omega) (by omega) kk) r
theorem own_ii_eq (C : own_Ctx p s m meth c Z own nm bytes maxL ret) {o : Int} {x y : Int32} (hd : decode bytes pc = .ok (.if_icmp .eq o, 3)) (ho : (pc : Int) + o = (pc1 : Int)) (hp : pc + 3 = pc2) (r1 : x = y → own_Run p l e R s m args below meth c n0 Kf h k q (mkF m pc1 Ls rest)) (r2 : ¬ x = y → own_Run p l e R s m args below meth c n0 Kf h k q (mkF m pc2 Ls rest)) : own_Run p l e R s m args below meth c n0 Kf h k q (mkF m pc Ls (.int y :: .int x :: rest)) := by
  by_cases hc : x = y
  · exact own_st (fun T locs X eT t kk => Jvm.Free.XS.icmpYes X.here C.g_x rfl (pc0 := pc) (pc' := pc1) rfl (hb C.g_by hd) rfl (Jvm.Free.XT.ii_eq_t hc) (by omega) (by omega) kk) (r1 hc)
  · subst hp; exact own_st (fun T locs X eT t kk => Jvm.Free.XS.icmpNo X.here C.g_x rfl (hb C.g_by hd) rfl (Jvm.Free.XT.ii_eq_f hc) kk) (r2 hc)
theorem own_i0_eq (C : own_Ctx p s m meth c Z own nm bytes maxL ret) {o : Int} {x : Int32} (hd : decode bytes pc = .ok (.ifCond .eq o, 3)) (ho : (pc : Int) + o = (pc1 : Int)) (hp : pc + 3 = pc2) (r1 : x = 0 → own_Run p l e R s m args below meth c n0 Kf h k q (mkF m pc1 Ls rest)) (r2 : ¬ x = 0 → own_Run p l e R s m args below meth c n0 Kf h k q (mkF m pc2 Ls rest)) : own_Run p l e R s m args below meth c n0 Kf h k q (mkF m pc Ls (.int x :: rest)) := by
  by_cases hc : x = 0
  · exact own_st (fun T locs X eT t kk => Jvm.Free.XS.ifYes X.here C.g_x rfl (pc0 := pc) (pc' := pc1) rfl (hb C.g_by hd) rfl (Jvm.Free.XT.i0_eq_t hc) (by omega) (by omega) kk) (r1 hc)
  · subst hp; exact own_st (fun T locs X eT t kk => Jvm.Free.XS.ifNo X.here C.g_x rfl (hb C.g_by hd) rfl (Jvm.Free.XT.i0_eq_f hc) kk) (r2 hc)
theorem own_ll_eq (C : own_Ctx p s m meth c Z own nm bytes maxL ret) {o : Int} {x y : Int64} (hd : decode bytes pc = .ok (.ifCond .eq o, 3)) (ho : (pc : Int) + o = (pc1 : Int)) (hp : pc + 3 = pc2) (r1 : x = y → own_Run p l e R s m args below meth c n0 Kf h k q (mkF m pc1 Ls rest)) (r2 : ¬ x = y → own_Run p l e R s m args below meth c n0 Kf h k q (mkF m pc2 Ls rest)) : own_Run p l e R s m args below meth c n0 Kf h k q (mkF m pc Ls (.int (Jvm.Free.XT.cmpL x y) :: rest)) := by
  by_cases hc : x = y
  · exact own_st (fun T locs X eT t kk => Jvm.Free.XS.ifYes X.here C.g_x rfl (pc0 := pc) (pc' := pc1) rfl (hb C.g_by hd) rfl (Jvm.Free.XT.ll_eq_t hc) (by omega) (by omega) kk) (r1 hc)
  · subst hp; exact own_st (fun T locs X eT t kk => Jvm.Free.XS.ifNo X.here C.g_x rfl (hb C.g_by hd) rfl (Jvm.Free.XT.ll_eq_f hc) kk) (r2 hc)
theorem own_ii_ne (C : own_Ctx p s m meth c Z own nm bytes maxL ret) {o : Int} {x y : Int32} (hd : decode bytes pc = .ok (.if_icmp .ne o, 3)) (ho : (pc : Int) + o = (pc1 : Int)) (hp : pc + 3 = pc2) (r1 : ¬ x = y → own_Run p l e R s m args below meth c n0 Kf h k q (mkF m pc1 Ls rest)) (r2 : x = y → own_Run p l e R s m args below meth c n0 Kf h k q (mkF m pc2 Ls rest)) : own_Run p l e R s m args below meth c n0 Kf h k q (mkF m pc Ls (.int y :: .int x :: rest)) := by
  by_cases hc : x = y
  · subst hp; exact own_st (fun T locs X eT t kk => Jvm.Free.XS.icmpNo X.here C.g_x rfl (hb C.g_by hd) rfl (Jvm.Free.XT.ii_ne_f hc) kk) (r2 hc)
  · exact own_st (fun T locs X eT t kk => Jvm.Free.XS.icmpYes X.here C.g_x rfl (pc0 := pc) (pc' := pc1) rfl (hb C.g_by hd) rfl (Jvm.Free.XT.ii_ne_t hc) (by omega) (by omega) kk) (r1 hc)
theorem own_i0_ne (C : own_Ctx p s m meth c Z own nm bytes maxL ret) {o : Int} {x : Int32} (hd : decode bytes pc = .ok (.ifCond .ne o, 3)) (ho : (pc : Int) + o = (pc1 : Int)) (hp : pc + 3 = pc2) (r1 : ¬ x = 0 → own_Run p l e R s m args below meth c n0 Kf h k q (mkF m pc1 Ls rest)) (r2 : x = 0 → own_Run p l e R s m args below meth c n0 Kf h k q (mkF m pc2 Ls rest)) : own_Run p l e R s m args below meth c n0 Kf h k q (mkF m pc Ls (.int x :: rest)) := by
  by_cases hc : x = 0
  · subst hp; exact own_st (fun T locs X eT t kk => Jvm.Free.XS.ifNo X.here C.g_x rfl (hb C.g_by hd) rfl (Jvm.Free.XT.i0_ne_f hc) kk) (r2 hc)
  · exact own_st (fun T locs X eT t kk => Jvm.Free.XS.ifYes X.here C.g_x rfl (pc0 := pc) (pc' := pc1) rfl (hb C.g_by hd) rfl (Jvm.Free.XT.i0_ne_t hc) (by omega) (by omega) kk) (r1 hc)
theorem own_ll_ne (C : own_Ctx p s m meth c Z own nm bytes maxL ret) {o : Int} {x y : Int64} (hd : decode bytes pc = .ok (.ifCond .ne o, 3)) (ho : (pc : Int) + o = (pc1 : Int)) (hp : pc + 3 = pc2) (r1 : ¬ x = y → own_Run p l e R s m args below meth c n0 Kf h k q (mkF m pc1 Ls rest)) (r2 : x = y → own_Run p l e R s m args below meth c n0 Kf h k q (mkF m pc2 Ls rest)) : own_Run p l e R s m args below meth c n0 Kf h k q (mkF m pc Ls (.int (Jvm.Free.XT.cmpL x y) :: rest)) := by
  by_cases hc : x = y
  · subst hp; exact own_st (fun T locs X eT t kk => Jvm.Free.XS.ifNo X.here C.g_x rfl (hb C.g_by hd) rfl (Jvm.Free.XT.ll_ne_f hc) kk) (r2 hc)
  · exact own_st (fun T locs X eT t kk => Jvm.Free.XS.ifYes X.here C.g_x rfl (pc0 := pc) (pc' := pc1) rfl (hb C.g_by hd) rfl (Jvm.Free.XT.ll_ne_t hc) (by omega) (by omega) kk) (r1 hc)
theorem own_ii_lt (C : own_Ctx p s m meth c Z own nm bytes maxL ret) {o : Int} {x y : Int32} (hd : decode bytes pc = .ok (.if_icmp .lt o, 3)) (ho : (pc : Int) + o = (pc1 : Int)) (hp : pc + 3 = pc2) (r1 : x < y → own_Run p l e R s m args below meth c n0 Kf h k q (mkF m pc1 Ls rest)) (r2 : ¬ x < y → own_Run p l e R s m args below meth c n0 Kf h k q (mkF m pc2 Ls rest)) : own_Run p l e R s m args below meth c n0 Kf h k q (mkF m pc Ls (.int y :: .int x :: rest)) := by
  by_cases hc : x < y
  · exact own_st (fun T locs X eT t kk => Jvm.Free.XS.icmpYes X.here C.g_x rfl (pc0 := pc) (pc' := pc1) rfl (hb C.g_by hd) rfl (Jvm.Free.XT.ii_lt_t hc) (by omega) (by omega) kk) (r1 hc)
  · subst hp; exact own_st (fun T locs X eT t kk => Jvm.Free.XS.icmpNo X.here C.g_x rfl (hb C.g_by hd) rfl (Jvm.Free.XT.ii_lt_f hc) kk) (r2 hc)
theorem own_i0_lt (C : own_Ctx p s m meth c Z own nm bytes maxL ret) {o : Int} {x : Int32} (hd : decode bytes pc = .ok (.ifCond .lt o, 3)) (ho : (pc : Int) + o = (pc1 : Int)) (hp : pc + 3 = pc2) (r1 : x < 0 → own_Run p l e R s m args below meth c n0 Kf h k q (mkF m pc1 Ls rest)) (r2 : ¬ x < 0 → own_Run p l e R s m args below meth c n0 Kf h k q (mkF m pc2 Ls rest)) : own_Run p l e R s m args below meth c n0 Kf h k q (mkF m pc Ls (.int x :: rest)) := by
  by_cases hc : x < 0
  · exact own_st (fun T locs X eT t kk => Jvm.Free.XS.ifYes X.here C.g_x rfl (pc0 := pc) (pc' := pc1) rfl (hb C.g_by hd) rfl (Jvm.Free.XT.i0_lt_t hc) (by omega) (by omega) kk) (r1 hc)
  · subst hp; exact own_st (fun T locs X eT t kk => Jvm.Free.XS.ifNo X.here C.g_x rfl (hb C.g_by hd) rfl (Jvm.Free.XT.i0_lt_f hc) kk) (r2 hc)
theorem own_ll_lt (C : own_Ctx p s m meth c Z own nm bytes maxL ret) {o : Int} {x y : Int64} (hd : decode bytes pc = .ok (.ifCond .lt o, 3)) (ho : (pc : Int) + o = (pc1 : Int)) (hp : pc + 3 = pc2) (r1 : x < y → own_Run p l e R s m args below meth c n0 Kf h k q (mkF m pc1 Ls rest)) (r2 : ¬ x < y → own_Run p l e R s m args below meth c n0 Kf h k q (mkF m pc2 Ls rest)) : own_Run p l e R s m args below meth c n0 Kf h k q (mkF m pc Ls (.int (Jvm.Free.XT.cmpL x y) :: rest)) := by
  by_cases hc : x < y
  · exact own_st (fun T locs X eT t kk => Jvm.Free.XS.ifYes X.here C.g_x rfl (pc0 := pc) (pc' := pc1) rfl (hb C.g_by hd) rfl (Jvm.Free.XT.ll_lt_t hc) (by omega) (by omega) kk) (r1 hc)
  · subst hp; exact own_st (fun T locs X eT t kk => Jvm.Free.XS.ifNo X.here C.g_x rfl (hb C.g_by hd) rfl (Jvm.Free.XT.ll_lt_f hc) kk) (r2 hc)
theorem own_ii_ge (C : own_Ctx p s m meth c Z own nm bytes maxL ret) {o : Int} {x y : Int32} (hd : decode bytes pc = .ok (.if_icmp .ge o, 3)) (ho : (pc : Int) + o = (pc1 : Int)) (hp : pc + 3 = pc2) (r1 : ¬ x < y → own_Run p l e R s m args below meth c n0 Kf h k q (mkF m pc1 Ls rest)) (r2 : x < y → own_Run p l e R s m args below meth c n0 Kf h k q (mkF m pc2 Ls rest)) : own_Run p l e R s m args below meth c n0 Kf h k q (mkF m pc Ls (.int y :: .int x :: rest)) := by
  by_cases hc : x < y
  · subst hp; exact own_st (fun T locs X eT t kk => Jvm.Free.XS.icmpNo X.here C.g_x rfl (hb C.g_by hd) rfl (Jvm.Free.XT.ii_ge_f hc) kk) (r2 hc)
  · exact own_st (fun T locs X eT t kk => Jvm.Free.XS.icmpYes X.here C.g_x rfl (pc0 := pc) (pc' := pc1) rfl (hb C.g_by hd) rfl (Jvm.Free.XT.ii_ge_t hc) (by omega) (by omega) kk) (r1 hc)
theorem own_i0_ge (C : own_Ctx p s m meth c Z own nm bytes maxL ret) {o : Int} {x : Int32} (hd : decode bytes pc = .ok (.ifCond .ge o, 3)) (ho : (pc : Int) + o = (pc1 : Int)) (hp : pc + 3 = pc2) (r1 : ¬ x < 0 → own_Run p l e R s m args below meth c n0 Kf h k q (mkF m pc1 Ls rest)) (r2 : x < 0 → own_Run p l e R s m args below meth c n0 Kf h k q (mkF m pc2 Ls rest)) : own_Run p l e R s m args below meth c n0 Kf h k q (mkF m pc Ls (.int x :: rest)) := by
  by_cases hc : x < 0
  · subst hp; exact own_st (fun T locs X eT t kk => Jvm.Free.XS.ifNo X.here C.g_x rfl (hb C.g_by hd) rfl (Jvm.Free.XT.i0_ge_f hc) kk) (r2 hc)
  · exact own_st (fun T locs X eT t kk => Jvm.Free.XS.ifYes X.here C.g_x rfl (pc0 := pc) (pc' := pc1) rfl (hb C.g_by hd) rfl (Jvm.Free.XT.i0_ge_t hc) (by omega) (by omega) kk) (r1 hc)
theorem own_ll_ge (C : own_Ctx p s m meth c Z own nm bytes maxL ret) {o : Int} {x y : Int64} (hd : decode bytes pc = .ok (.ifCond .ge o, 3)) (ho : (pc : Int) + o = (pc1 : Int)) (hp : pc + 3 = pc2) (r1 : ¬ x < y → own_Run p l e R s m args below meth c n0 Kf h k q (mkF m pc1 Ls rest)) (r2 : x < y → own_Run p l e R s m args below meth c n0 Kf h k q (mkF m pc2 Ls rest)) : own_Run p l e R s m args below meth c n0 Kf h k q (mkF m pc Ls (.int (Jvm.Free.XT.cmpL x y) :: rest)) := by
  by_cases hc : x < y
  · subst hp; exact own_st (fun T locs X eT t kk => Jvm.Free.XS.ifNo X.here C.g_x rfl (hb C.g_by hd) rfl (Jvm.Free.XT.ll_ge_f hc) kk) (r2 hc)
  · exact own_st (fun T locs X eT t kk => Jvm.Free.XS.ifYes X.here C.g_x rfl (pc0 := pc) (pc' := pc1) rfl (hb C.g_by hd) rfl (Jvm.Free.XT.ll_ge_t hc) (by omega) (by omega) kk) (r1 hc)
theorem own_ii_gt (C : own_Ctx p s m meth c Z own nm bytes maxL ret) {o : Int} {x y : Int32} (hd : decode bytes pc = .ok (.if_icmp .gt o, 3)) (ho : (pc : Int) + o = (pc1 : Int)) (hp : pc + 3 = pc2) (r1 : y < x → own_Run p l e R s m args below meth c n0 Kf h k q (mkF m pc1 Ls rest)) (r2 : ¬ y < x → own_Run p l e R s m args below meth c n0 Kf h k q (mkF m pc2 Ls rest)) : own_Run p l e R s m args below meth c n0 Kf h k q (mkF m pc Ls (.int y :: .int x :: rest)) := by
  by_cases hc : y < x
  · exact own_st (fun T locs X eT t kk => Jvm.Free.XS.icmpYes X.here C.g_x rfl (pc0 := pc) (pc' := pc1) rfl (hb C.g_by hd) rfl (Jvm.Free.XT.ii_gt_t hc) (by omega) (by omega) kk) (r1 hc)
  · subst hp; exact own_st (fun T locs X eT t kk => Jvm.Free.XS.icmpNo X.here C.g_x rfl (hb C.g_by hd) rfl (Jvm.Free.XT.ii_gt_f hc) kk) (r2 hc)
theorem own_i0_gt (C : own_Ctx p s m meth c Z own nm bytes maxL ret) {o : Int} {x : Int32} (hd : decode bytes pc = .ok (.ifCond .gt o, 3)) (ho : (pc : Int) + o = (pc1 : Int)) (hp : pc + 3 = pc2) (r1 : 0 < x → own_Run p l e R s m args below meth c n0 Kf h k q (mkF m pc1 Ls rest)) (r2 : ¬ 0 < x → own_Run p l e R s m args below meth c n0 Kf h k q (mkF m pc2 Ls rest)) : own_Run p l e R s m args below meth c n0 Kf h k q (mkF m pc Ls (.int x :: rest)) := by
  by_cases hc : 0 < x
  · exact own_st (fun T locs X eT t kk => Jvm.Free.XS.ifYes X.here C.g_x rfl (pc0 := pc) (pc' := pc1) rfl (hb C.g_by hd) rfl (Jvm.Free.XT.i0_gt_t hc) (by omega) (by omega) kk) (r1 hc)
  · subst hp; exact own_st (fun T locs X eT t kk => Jvm.Free.XS.ifNo X.here C.g_x rfl (hb C.g_by hd) rfl (Jvm.Free.XT.i0_gt_f hc) kk) (r2 hc)
theorem own_ll_gt (C : own_Ctx p s m meth c Z own nm bytes maxL ret) {o : Int} {x y : Int64} (hd : decode bytes pc = .ok (.ifCond .gt o, 3)) (ho : (pc : Int) + o = (pc1 : Int)) (hp : pc + 3 = pc2) (r1 : y < x → own_Run p l e R s m args below meth c n0 Kf h k q (mkF m pc1 Ls rest)) (r2 : ¬ y < x → own_Run p l e R s m args below meth c n0 Kf h k q (mkF m pc2 Ls rest)) : own_Run p l e R s m args below meth c n0 Kf h k q (mkF m pc Ls (.int (Jvm.Free.XT.cmpL x y) :: rest)) := by
  by_cases hc : y < x
  · exact own_st (fun T locs X eT t kk => Jvm.Free.XS.ifYes X.here C.g_x rfl (pc0 := pc) (pc' := pc1) rfl (hb C.g_by hd) rfl (Jvm.Free.XT.ll_gt_t hc) (by omega) (by omega) kk) (r1 hc)
  · subst hp; exact own_st (fun T locs X eT t kk => Jvm.Free.XS.ifNo X.here C.g_x rfl (hb C.g_by hd) rfl (Jvm.Free.XT.ll_gt_f hc) kk) (r2 hc)
theorem own_ii_le (C : own_Ctx p s m meth c Z own nm bytes maxL ret) {o : Int} {x y : Int32} (hd : decode bytes pc = .ok (.if_icmp .le o, 3)) (ho : (pc : Int) + o = (pc1 : Int)) (hp : pc + 3 = pc2) (r1 : ¬ y < x → own_Run p l e R s m args below meth c n0 Kf h k q (mkF m pc1 Ls rest)) (r2 : y < x → own_Run p l e R s m args below meth c n0 Kf h k q (mkF m pc2 Ls rest)) : own_Run p l e R s m args below meth c n0 Kf h k q (mkF m pc Ls (.int y :: .int x :: rest)) := by
  by_cases hc : y < x
  · subst hp; exact own_st (fun T locs X eT t kk => Jvm.Free.XS.icmpNo X.here C.g_x rfl (hb C.g_by hd) rfl (Jvm.Free.XT.ii_le_f hc) kk) (r2 hc)
  · exact own_st (fun T locs X eT t kk => Jvm.Free.XS.icmpYes X.here C.g_x rfl (pc0 := pc) (pc' := pc1) rfl (hb C.g_by hd) rfl (Jvm.Free.XT.ii_le_t hc) (by omega) (by omega) kk) (r1 hc)
theorem own_i0_le (C : own_Ctx p s m meth c Z own nm bytes maxL ret) {o : Int} {x : Int32} (hd : decode bytes pc = .ok (.ifCond .le o, 3)) (ho : (pc : Int) + o = (pc1 : Int)) (hp : pc + 3 = pc2) (r1 : ¬ 0 < x → own_Run p l e R s m args below meth c n0 Kf h k q (mkF m pc1 Ls rest)) (r2 : 0 < x → own_Run p l e R s m args below meth c n0 Kf h k q (mkF m pc2 Ls rest)) : own_Run p l e R s m args below meth c n0 Kf h k q (mkF m pc Ls (.int x :: rest)) := by
  by_cases hc : 0 < x
  · subst hp; exact own_st (fun T locs X eT t kk => Jvm.Free.XS.ifNo X.here C.g_x rfl (hb C.g_by hd) rfl (Jvm.Free.XT.i0_le_f hc) kk) (r2 hc)
  · exact own_st (fun T locs X eT t kk => Jvm.Free.XS.ifYes X.here C.g_x rfl (pc0 := pc) (pc' := pc1) rfl (hb C.g_by hd) rfl (Jvm.Free.XT.i0_le_t hc) (by omega) (by omega) kk) (r1 hc)
theorem own_ll_le (C : own_Ctx p s m meth c Z own nm bytes maxL ret) {o : Int} {x y : Int64} (hd : decode bytes pc = .ok (.ifCond .le o, 3)) (ho : (pc : Int) + o = (pc1 : Int)) (hp : pc + 3 = pc2) (r1 : ¬ y < x → own_Run p l e R s m args below meth c n0 Kf h k q (mkF m pc1 Ls rest)) (r2 : y < x → own_Run p l e R s m args below meth c n0 Kf h k q (mkF m pc2 Ls rest)) : own_Run p l e R s m args below meth c n0 Kf h k q (mkF m pc Ls (.int (Jvm.Free.XT.cmpL x y) :: rest)) := by
  by_cases hc : y < x
  · subst hp; exact own_st (fun T locs X eT t kk => Jvm.Free.XS.ifNo X.here C.g_x rfl (hb C.g_by hd) rfl (Jvm.Free.XT.ll_le_f hc) kk) (r2 hc)
  · exact own_st (fun T locs X eT t kk => Jvm.Free.XS.ifYes X.here C.g_x rfl (pc0 := pc) (pc' := pc1) rfl (hb C.g_by hd) rfl (Jvm.Free.XT.ll_le_t hc) (by omega) (by omega) kk) (r1 hc)
theorem own_aa_eq (C : own_Ctx p s m meth c Z own nm bytes maxL ret) {o : Int} {x y : Value} (hx1 : x.isRef = true) (hy1 : y.isRef = true) (hd : decode bytes pc = .ok (.if_acmp .eq o, 3)) (ho : (pc : Int) + o = (pc1 : Int)) (hp : pc + 3 = pc2) (r1 : x = y → own_Run p l e R s m args below meth c n0 Kf h k q (mkF m pc1 Ls rest)) (r2 : ¬ x = y → own_Run p l e R s m args below meth c n0 Kf h k q (mkF m pc2 Ls rest)) : own_Run p l e R s m args below meth c n0 Kf h k q (mkF m pc Ls (y :: x :: rest)) := by
  by_cases hc : x = y
  · exact own_st (fun T locs X eT t kk => Jvm.Free.XT.acmpYes X.here C.g_x rfl (pc0 := pc) (pc' := pc1) rfl (hb C.g_by hd) rfl hx1 hy1 (Jvm.Free.XT.aa_eq_t hc) (by omega) (by omega) kk) (r1 hc)
  · subst hp; exact own_st (fun T locs X eT t kk => Jvm.Free.XT.acmpNo X.here C.g_x rfl (hb C.g_by hd) rfl hx1 hy1 (Jvm.Free.XT.aa_eq_f hc) kk) (r2 hc)
theorem own_aa_ne (C : own_Ctx p s m meth c Z own nm bytes maxL ret) {o : Int} {x y : Value} (hx1 : x.isRef = true) (hy1 : y.isRef = true) (hd : decode bytes pc = .ok (.if_acmp .ne o, 3)) (ho : (pc : Int) + o = (pc1 : Int)) (hp : pc + 3 = pc2) (r1 : ¬ x = y → own_Run p l e R s m args below meth c n0 Kf h k q (mkF m pc1 Ls rest)) (r2 : x = y → own_Run p l e R s m args below meth c n0 Kf h k q (mkF m pc2 Ls rest)) : own_Run p l e R s m args below meth c n0 Kf h k q (mkF m pc Ls (y :: x :: rest)) := by
  by_cases hc : x = y
  · subst hp; exact own_st (fun T locs X eT t kk => Jvm.Free.XT.acmpNo X.here C.g_x rfl (hb C.g_by hd) rfl hx1 hy1 (Jvm.Free.XT.aa_ne_f hc) kk) (r2 hc)
  · exact own_st (fun T locs X eT t kk => Jvm.Free.XT.acmpYes X.here C.g_x rfl (pc0 := pc) (pc' := pc1) rfl (hb C.g_by hd) rfl hx1 hy1 (Jvm.Free.XT.aa_ne_t hc) (by omega) (by omega) kk) (r1 hc)
theorem own_nullNo (C : own_Ctx p s m meth c Z own nm bytes maxL ret) {o : Int} {a : Addr} (hd : decode bytes pc = .ok (.ifnull o, 3)) (hp : pc + 3 = pc') (r : own_Run p l e R s m args below meth c n0 Kf h k q (mkF m pc' Ls rest)) : own_Run p l e R s m args below meth c n0 Kf h k q (mkF m pc Ls (.ref a :: rest)) :=
  own_st (fun T locs X eT t kk => by subst hp; exact Jvm.Free.XS.ifnullNo X.here C.g_x rfl (hb C.g_by hd) rfl kk) r
theorem own_getF (C : own_Ctx p s m meth c Z own nm bytes maxL ret) {i : Nat} {O n d : String} {a : Addr} {v : Value} (w : (Jvm.Cond.fieldLink own i O n d).before a0 Z = true) (F : Fld Z h a O n d v) (hd : decode bytes pc = .ok (.getfield i, 3)) (hp : pc + 3 = pc') (r : own_Run p l e R s m args below meth c n0 Kf h k q (mkF m pc' Ls (v :: rest))) : own_Run p l e R s m args below meth c n0 Kf h k q (mkF m pc Ls (.ref a :: rest)) := fun T locs X eT N => by
  subst hp
  obtain ⟨T1, X1, e1, st1⟩ := getF X C.g_x C.g_z C.g_own (host := "") (Or.inl w) Via.refl eT F (g := mkF m pc Ls (.ref a :: rest)) rfl rfl (hb C.g_by hd)
  obtain ⟨t, o, h1, h2⟩ := r T1 locs X1 e1 N
  exact ⟨t, o, st1 _ h1, h2⟩
theorem own_putF (C : own_Ctx p s m meth c Z own nm bytes maxL ret) {i kk : Nat} {O n d K : String} {a : Addr} {v old : Value} {ty : FieldType} (w : (Jvm.Cond.fieldLink own i O n d).before a0 Z = true) (F : Fld Z h a O n d old) (E : Exa Z h a K) (L : (Jvm.Cond.lays K O n d).before a0 Z = true ∨ ((Jvm.Cond.laysFinal K O n d).before a0 Z = true ∧ own = O ∧ nm = "<init>")) (wi : (Jvm.Cond.instantiable K kk).before a0 Z = true) (hty : parseFieldDescriptor d = some ty) (hn : narrow ty v = v) (hf : fits ty v = true) (ga : n0 ≤ a) (hd : decode bytes pc = .ok (.putfield i, 3)) (hp : pc + 3 = pc')
    (r : ∀ h', Wr h h' a (Jvm.RoadKit.slotOf Z O n d) v → own_Run p l e R s m args below meth c n0 Kf h' k q (mkF m pc' Ls rest)) : own_Run p l e R s m args below meth c n0 Kf h k q (mkF m pc Ls (v :: .ref a :: rest)) := fun T locs X eT N => by
  subst hp
  obtain ⟨T1, h1, X1, e1, W1, st1⟩ := putF X C.g_x C.g_z C.g_own (host := "") (Or.inl w) Via.refl eT F E (L.imp id fun x => ⟨x.1, x.2.1, C.g_nm.trans x.2.2⟩) wi hty hn hf (g := mkF m pc Ls (v :: .ref a :: rest)) rfl rfl (hb C.g_by hd)
  obtain ⟨t, o, h2, h3⟩ := r h1 W1 T1 _ X1 e1 (Fr.snoc X1 N ga)
  exact ⟨t, o, st1 _ h2, h3⟩
theorem own_getS (C : own_Ctx p s m meth c Z own nm bytes maxL ret) {i : Nat} {O n d : String} {v : Value} (w : (Jvm.Cond.fieldLink own i O n d).before a0 Z = true) (F : Sta Z h O n d v) (hd : decode bytes pc = .ok (.getstatic i, 3)) (hp : pc + 3 = pc') (r : own_Run p l e R s m args below meth c n0 Kf h k q (mkF m pc' Ls (v :: rest))) : own_Run p l e R s m args below meth c n0 Kf h k q (mkF m pc Ls rest) := fun T locs X eT N => by
  subst hp
  obtain ⟨T1, X1, e1, st1⟩ := getS (host := "") X C.g_x C.g_z C.g_own w Via.refl eT F (g := mkF m pc Ls rest) rfl (hb C.g_by hd)
  obtain ⟨t, o, h1, h2⟩ := r T1 locs X1 e1 N
  exact ⟨t, o, st1 _ h1, h2⟩
theorem own_new (C : own_Ctx p s m meth c Z own nm bytes maxL ret) {i n : Nat} {K : String} (w : (Jvm.Cond.classLink own i K).before a0 Z = true) (wi : (Jvm.Cond.instantiable K n).before a0 Z = true) (wz : (Jvm.Cond.initialized K).before a0 Z = true) (Z0 : n0 ≤ h.size) (hd : decode bytes pc = .ok (.new i, 3)) (hp : pc + 3 = pc') (hc : k + 1 ≤ R.cells) (hs : q + n ≤ R.slots)
    (r : ∀ h' a, a = h.size → n0 ≤ a → n0 ≤ h'.size → Ext h h' → Exa Z h' a K → (∀ {O nm d : String} {ty : FieldType}, Laid Z a0 K O nm d → parseFieldDescriptor d = some ty → Fld Z h' a O nm d (defaultValue ty)) → own_Run p l e R s m args below meth c n0 Kf h' (k + 1) (q + n) (mkF m pc' Ls (.ref a :: rest))) : own_Run p l e R s m args below meth c n0 Kf h k q (mkF m pc Ls rest) := fun T locs X eT N => by
  subst hp
  obtain ⟨T1, h1, X1, e1, E1, A1, D1, -, st1⟩ := newO X C.g_x C.g_z C.g_own w wi wz eT (g := mkF m pc Ls rest) rfl (hb C.g_by hd) hc hs
  obtain ⟨t, o, h2, h3⟩ := r h1 h.size rfl Z0 (Nat.le_trans Z0 E1.1) E1 A1 (fun L ht => D1 L ht) T1 _ X1 e1 N
  exact ⟨t, o, st1 _ h2, h3⟩
theorem own_initO (C : own_Ctx p s m meth c Z own nm bytes maxL ret) {i : Nat} {a : Addr} {W : Nat} (w1 : (Jvm.Cond.methodLink own i Lib.objectInit).before a0 Z = true) (w2 : (Jvm.Cond.instanceMethod Lib.objectInit).before a0 Z = true) (w3 : (Jvm.Cond.code Lib.objectInit ⟨#[0xb1]⟩ 1 none).before a0 Z = true) (hd : decode bytes pc = .ok (.invokespecial i, 3)) (hp : pc + 3 = pc') (hsz : Ls.size = maxL) (hf : 1 ≤ R.frames) (hW : 0 + (rest.map fun v => v.category).sum ≤ W) (hl : W + 12 ≤ R.locals)
    (r : own_Run p l e R s m args below meth c n0 Kf h k q (mkF m pc' Ls rest)) : own_Run p l e R s m args below meth c n0 Kf h k q (mkF m pc Ls (.ref a :: rest)) := fun T locs X eT N => by
  subst hp
  obtain ⟨T1, X1, e1, st1⟩ := initO X C.g_x C.g_z C.g_own w1 w2 w3 eT (g := mkF m pc Ls (.ref a :: rest)) rfl (by rw [C.g_ml]; exact hsz) rfl (hb C.g_by hd) hf (W := W) (by show 2 * 0 + _ ≤ _; exact hW) hl
  obtain ⟨t, o, h1, h2⟩ := r T1 locs X1 e1 N
  exact ⟨t, o, st1 _ h1, h2⟩
theorem own_callN (C : own_Ctx p s m meth c Z own nm bytes maxL ret) {i : Nat} {y : MethodName} {cb : ByteArray} {cm : Nat} {rm : Room} {a : Addr} {argsL : List Value} {Q' : Option Value → Heap → Prop} (W : Nat) (hy1 : y.name = "<init>") (w1 : (Jvm.Cond.methodLink own i y).before a0 Z = true) (w2 : (Jvm.Cond.instanceMethod y).before a0 Z = true) (w3 : (Jvm.Cond.code y cb cm none).before a0 Z = true) (w4 : (Jvm.Cond.initialized y.cls).before a0 Z = true) (hy : y.cls ≠ "java/lang/invoke/MethodHandle" ∧ y.cls ≠ "java/lang/invoke/VarHandle")
    (hM : own_Met l Z n0 y cb cm none rm [] (.ref a :: argsL).toArray h Q') (hf : rm.frames + 1 ≤ R.frames) (hl : W + (cm + 11) + rm.locals ≤ R.locals) (hlen : ∀ sig, parseMethodDescriptor y.desc = some sig → argsL.length = sig.parameters.length) {st : List Value} (hst : st = argsL.reverse ++ .ref a :: rest) (hW : 0 + (rest.map fun v => v.category).sum ≤ W) (hd : decode bytes pc = .ok (.invokespecial i, 3)) (hp : pc + 3 = pc') (hsz : Ls.size = maxL) (hc : k + rm.cells ≤ R.cells) (hs : q + rm.slots ≤ R.slots)
    (r : ∀ v h', Q' v h' → own_Run p l e R s m args below meth c n0 Kf h' (k + rm.cells) (q + rm.slots) (mkF m pc' Ls (v.toList ++ rest))) : own_Run p l e R s m args below meth c n0 Kf h k q (mkF m pc Ls st) := fun T locs X eT N => by
  subst hp
  obtain ⟨v, _, ⟨T1, L1, k1, n1⟩, -, X1, ⟨Lc1, hQ1, l1, y1, z1⟩, st1⟩ := X.specialBack C.g_x (y := y) hy1 C.g_own (mvT C.g_z w1) (mvT C.g_z w2) (mvT C.g_z w3) hy (backOf (W := W) (Q := fun v h L => Fr n0 L ∧ Q' v h) hM C.g_z w3 w4 hf hl) (g := mkF m pc Ls st) rfl (by rw [C.g_ml]; exact hsz) (Steps.refl _) (a := a) (argsL := argsL) (rest := rest) hlen hst (by show 2 * 0 + _ ≤ _; exact hW) (hb C.g_by hd) (fun _ _ => ⟨rfl, eT, hc, hs⟩)
  dsimp only [Pt.U, Pt.locs, Pt.cells, Pt.slots] at X1 l1 y1 z1 st1 hQ1
  subst l1 y1 z1
  obtain ⟨t, o, h2, h3⟩ := r v T1.heap hQ1.2 T1 _ X1 rfl (Fr.app N hQ1.1)
  exact ⟨t, o, st1.trans h2, h3⟩
theorem own_callV (C : own_Ctx p s m meth c Z own nm bytes maxL ret) {i : Nat} {y : MethodName} {cb : ByteArray} {cm : Nat} {cret : Option FieldType} {rm : Room} {a : Addr} {argsL : List Value} {Q' : Option Value → Heap → Prop} (W : Nat) (E : Exa Z h a y.cls) (w1 : (Jvm.Cond.methodLink own i y).before a0 Z = true) (w2 : (Jvm.Cond.declares y).before a0 Z = true) (w3 : (Jvm.Cond.selects y.cls y y).before a0 Z = true) (w4 : (Jvm.Cond.instanceMethod y).before a0 Z = true) (w5 : (Jvm.Cond.code y cb cm cret).before a0 Z = true) (w6 : (Jvm.Cond.initialized y.cls).before a0 Z = true) (hy : y.cls ≠ "java/lang/invoke/MethodHandle" ∧ y.cls ≠ "java/lang/invoke/VarHandle")
    (hM : own_Met l Z n0 y cb cm cret rm [] (.ref a :: argsL).toArray h Q') (hf : rm.frames + 1 ≤ R.frames) (hl : W + (cm + 11) + rm.locals ≤ R.locals) (hlen : ∀ sig, parseMethodDescriptor y.desc = some sig → argsL.length = sig.parameters.length) {st : List Value} (hst : st = argsL.reverse ++ .ref a :: rest) (hW : 0 + (rest.map fun v => v.category).sum ≤ W) (hd : decode bytes pc = .ok (.invokevirtual i, 3)) (hp : pc + 3 = pc') (hsz : Ls.size = maxL) (hc : k + rm.cells ≤ R.cells) (hs : q + rm.slots ≤ R.slots)
    (r : ∀ v h', Q' v h' → own_Run p l e R s m args below meth c n0 Kf h' (k + rm.cells) (q + rm.slots) (mkF m pc' Ls (v.toList ++ rest))) : own_Run p l e R s m args below meth c n0 Kf h k q (mkF m pc Ls st) := fun T locs X eT N => by
  subst hp
  obtain ⟨cq, kq, qa, qb, qc⟩ := isOf C.g_z eT E
  obtain ⟨v, _, ⟨T1, L1, k1, n1⟩, -, X1, ⟨Lc1, hQ1, l1, y1, z1⟩, st1⟩ := X.virtualBack C.g_x (y := y) (z := y) C.g_own (mvT C.g_z w1) (mvT C.g_z w2) (notFace_of_selects (args := #[]) (mvT C.g_z w3)) (mvT C.g_z w3) (mvT C.g_z w4) hy (backOf (W := W) (Q := fun v h L => Fr n0 L ∧ Q' v h) hM C.g_z w5 w6 hf hl) qa qc (g := mkF m pc Ls st) rfl (by rw [C.g_ml]; exact hsz) (Steps.refl _) (argsL := argsL) (rest := rest) hlen hst (by show 2 * 0 + _ ≤ _; exact hW) (hb C.g_by hd) (fun _ _ => ⟨rfl, eT, hc, hs⟩)
  dsimp only [Pt.U, Pt.locs, Pt.cells, Pt.slots] at X1 l1 y1 z1 st1 hQ1
  subst l1 y1 z1
  obtain ⟨t, o, h2, h3⟩ := r v T1.heap hQ1.2 T1 _ X1 rfl (Fr.app N hQ1.1)
  exact ⟨t, o, st1.trans h2, h3⟩
theorem own_callS (C : own_Ctx p s m meth c Z own nm bytes maxL ret) {i : Nat} {y : MethodName} {cb : ByteArray} {cm : Nat} {cret : Option FieldType} {rm : Room} {argsL : List Value} {Q' : Option Value → Heap → Prop} (W : Nat) (w1 : (Jvm.Cond.methodLink own i y).before a0 Z = true) (w2 : (Jvm.Cond.static y).before a0 Z = true) (w3 : (Jvm.Cond.initialized y.cls).before a0 Z = true) (w4 : (Jvm.Cond.code y cb cm cret).before a0 Z = true) (hy : y.cls ≠ "java/lang/invoke/MethodHandle" ∧ y.cls ≠ "java/lang/invoke/VarHandle")
    (hM : own_Met l Z n0 y cb cm cret rm [] argsL.toArray h Q') (hf : rm.frames + 1 ≤ R.frames) (hl : W + (cm + 11) + rm.locals ≤ R.locals) (hlen : ∀ sig, parseMethodDescriptor y.desc = some sig → argsL.length = sig.parameters.length) {st : List Value} (hst : st = argsL.reverse ++ rest) (hW : 0 + (rest.map fun v => v.category).sum ≤ W) (hd : decode bytes pc = .ok (.invokestatic i, 3)) (hp : pc + 3 = pc') (hsz : Ls.size = maxL) (hc : k + rm.cells ≤ R.cells) (hs : q + rm.slots ≤ R.slots)
    (r : ∀ v h', Q' v h' → own_Run p l e R s m args below meth c n0 Kf h' (k + rm.cells) (q + rm.slots) (mkF m pc' Ls (v.toList ++ rest))) : own_Run p l e R s m args below meth c n0 Kf h k q (mkF m pc Ls st) := fun T locs X eT N => by
  subst hp
  obtain ⟨v, _, ⟨T1, L1, k1, n1⟩, -, X1, ⟨Lc1, hQ1, l1, y1, z1⟩, st1⟩ := Jvm.LawKit.callS X C.g_x (y := y) C.g_own (mvT C.g_z w1) (mvT C.g_z w2) (mvT C.g_z w3) (mvT C.g_z w4) hy (backOf (W := W) (Q := fun v h L => Fr n0 L ∧ Q' v h) hM C.g_z w4 w3 hf hl) (g := mkF m pc Ls st) rfl (by rw [C.g_ml]; exact hsz) (argsL := argsL) (rest := rest) hlen hst (by show 2 * 0 + _ ≤ _; exact hW) (hb C.g_by hd) (fun _ _ => ⟨rfl, eT, hc, hs⟩)
  dsimp only [Pt.U, Pt.locs, Pt.cells, Pt.slots] at X1 l1 y1 z1 st1 hQ1
  subst l1 y1 z1
  obtain ⟨t, o, h2, h3⟩ := r v T1.heap hQ1.2 T1 _ X1 rfl (Fr.app N hQ1.1)
  exact ⟨t, o, st1 _ h2, h3⟩
theorem own_callP (C : own_Ctx p s m meth c Z own nm bytes maxL ret) {i nf : Nat} {y : MethodName} {cb : ByteArray} {cm : Nat} {cret : Option FieldType} {rm : Room} {a : Addr} {argsL : List Value} {K : String} {Q' : Option Value → Heap → Prop} (W : Nat) (E : Exa Z h a K) (w1 : (Jvm.Cond.methodLink own i y).before a0 Z = true) (w2 : (Jvm.Cond.instanceMethod y).before a0 Z = true) (w3 : (Jvm.Cond.privateMethod y).before a0 Z = true) (w4 : (Jvm.Cond.instantiable y.cls nf).before a0 Z = true) (w5 : (Jvm.Cond.code y cb cm cret).before a0 Z = true) (w6 : (Jvm.Cond.initialized y.cls).before a0 Z = true) (hy : y.cls ≠ "java/lang/invoke/MethodHandle" ∧ y.cls ≠ "java/lang/invoke/VarHandle")
    (hM : own_Met l Z n0 y cb cm cret rm [] (.ref a :: argsL).toArray h Q') (hf : rm.frames + 1 ≤ R.frames) (hl : W + (cm + 11) + rm.locals ≤ R.locals) (hlen : ∀ sig, parseMethodDescriptor y.desc = some sig → argsL.length = sig.parameters.length) {st : List Value} (hst : st = argsL.reverse ++ .ref a :: rest) (hW : 0 + (rest.map fun v => v.category).sum ≤ W) (hd : decode bytes pc = .ok (.invokevirtual i, 3)) (hp : pc + 3 = pc') (hsz : Ls.size = maxL) (hc : k + rm.cells ≤ R.cells) (hs : q + rm.slots ≤ R.slots)
    (r : ∀ v h', Q' v h' → own_Run p l e R s m args below meth c n0 Kf h' (k + rm.cells) (q + rm.slots) (mkF m pc' Ls (v.toList ++ rest))) : own_Run p l e R s m args below meth c n0 Kf h k q (mkF m pc Ls st) := fun T locs X eT N => by
  subst hp
  have hK := backOf (l := l) (R := R) (p := p) (e := e) (s := s) (below := below) (args := args) (len := 3) (W := W) (Q := fun v h L => Fr n0 L ∧ Q' v h) hM C.g_z w5 w6 hf hl
  obtain ⟨mk, mM, hnamed, hmM, hsta, hab⟩ := Cond.instanceMethod_spec (mvT (args := args) C.g_z w2)
  obtain ⟨mM', cM, hmM', -, -, -, -, -, -, hsig⟩ := Cond.code_spec hnamed (mvT (args := args) C.g_z w5)
  cases hmM.symm.trans hmM'
  obtain ⟨cI, kI, i1, i2, -, i4, -⟩ := Cond.instantiable_spec (mvT (args := args) C.g_z w4)
  cases i1.symm.trans (findClass_of_methodNamed hnamed)
  have hni : kI.isInterface = false := (Bool.or_eq_false_iff.mp i4).1
  obtain ⟨cell, hc1, hc2⟩ := E.cell
  have hsel := selectMethod_private (p := e.platform) (c := cell.cls) hmM (Cond.privateMethod_at (mvP C.g_z w3 (args := #[])) mk mM hnamed hmM)
  obtain ⟨vm1, X1, st1⟩ := X.invokevirtual C.g_x C.g_own (mvT C.g_z w1) hnamed hmM hsta i2 hni hy (a := a) (cell := cell) (by rw [eT]; exact hc1) hc2 hsel hmM hab i2 hni (g := mkF m pc Ls st) rfl (argsL := argsL) (rest := rest) (hlen _ hsig) hst (hb C.g_by hd)
  obtain ⟨v, ⟨T1, L1, k1, n1⟩, X2, ⟨Lc1, hQ1, l1, y1, z1⟩, st2⟩ := hK m meth c ⟨T.setVm vm1, locs, k, q⟩ (mkF m pc Ls rest) (.invokevirtual i) mk (.ref a :: argsL).toArray X1 rfl (by rw [C.g_ml]; exact hsz) (hb C.g_by hd) (by show 2 * 0 + _ ≤ _; exact hW) (X1.named hnamed) ⟨rfl, eT, hc, hs⟩
  dsimp only [Pt.U, Pt.locs, Pt.cells, Pt.slots] at X2 l1 y1 z1 st2 hQ1
  subst l1 y1 z1
  obtain ⟨t, o, h2, h3⟩ := r v T1.heap hQ1.2 T1 _ X2 rfl (Fr.app N hQ1.1)
  exact ⟨t, o, st1 _ fun acts => by rw [doInvoke_state]; exact st2.trans h2, h3⟩
theorem own_ret (C : own_Ctx p s m meth c Z own nm bytes maxL ret) {v : Value} {t : FieldType} {i : Instr} (hret : ret = some t) (hn : narrow t v = v)
    (hi : (i = .ireturn ∧ (t = .int ∨ t = .boolean ∨ t = .byte ∨ t = .char ∨ t = .short) ∧ ∃ z, v = .int z) ∨ (i = .lreturn ∧ t = .long ∧ ∃ z, v = .long z) ∨ (i = .dreturn ∧ t = .double ∧ ∃ z, v = .double z) ∨ (i = .freturn ∧ t = .float ∧ ∃ z, v = .float z) ∨ (i = .areturn ∧ t.isReference = true ∧ v.isRef = true))
    (hd : decode bytes pc = .ok (i, 1)) (hc : k ≤ R.cells) (hs : q ≤ R.slots) (hQ : Q (some v) h) : own_Run p l e R s m args below meth c n0 (own_K below R s n0 Q) h k q (mkF m pc Ls (v :: rest)) := fun T locs X eT N => by
  have hlocks := C.g_lk
  obtain ⟨fs, hr, hrun, hended, hW, hsame⟩ := X.leave (v := some v) (fun hh => by rw [C.g_rt, hret] at hh; cases hh) hlocks
  refine ⟨_, _, retOut X C.g_x (C.g_rt.trans hret) hn hi (hb C.g_by hd) hr, hrun, hended, _, _, rfl, ⟨N, ?_⟩, ⟨_, rfl⟩, hW, hsame.mono hc hs⟩
  show Q (some v) T.heap
  rw [eT]; exact hQ
theorem own_retV (C : own_Ctx p s m meth c Z own nm bytes maxL ret) (hret : ret = none) (hd : decode bytes pc = .ok (.return_, 1)) (hc : k ≤ R.cells) (hs : q ≤ R.slots) (hQ : Q none h) : own_Run p l e R s m args below meth c n0 (own_K below R s n0 Q) h k q (mkF m pc Ls []) := fun T locs X eT N => by
  have hlocks := C.g_lk
  obtain ⟨fs, hr, hrun, hended, hW, hsame⟩ := X.leave (v := none) (fun _ => rfl) hlocks
  refine ⟨_, _, X.returnOut C.g_x (C.g_rt.trans hret) (hb C.g_by hd) hr, hrun, hended, _, _, rfl, ⟨N, ?_⟩, ⟨_, rfl⟩, hW, hsame.mono hc hs⟩
  show Q none T.heap
  rw [eT]; exact hQ
theorem own_refne {a b : Addr} (hn : a ≠ b) : ¬ (Value.ref a = Value.ref b) := fun e => hn (Value.ref.inj e)
theorem own_nb {v : Int32} (hv : v = 0 ∨ v = 1) : narrow .boolean (.int v) = .int v := by rcases hv with rfl | rfl <;> rfl
theorem own_fb {v : Int32} (hv : v = 0 ∨ v = 1) : fits .boolean (.int v) = true := by rcases hv with rfl | rfl <;> rfl
theorem own_join {α : Type} {g : JFrame} (P : α → Prop) (F : α → JFrame) (j : ∀ v, P v → own_Run p l e R s m args below meth c n0 Kf h k q (F v)) (r : (∀ v, P v → own_Run p l e R s m args below meth c n0 Kf h k q (F v)) → own_Run p l e R s m args below meth c n0 Kf h k q g) : own_Run p l e R s m args below meth c n0 Kf h k q g := r j
theorem own_join2 {α β : Type} {g : JFrame} (P : α → β → Prop) (F : α → β → JFrame) (j : ∀ v w, P v w → own_Run p l e R s m args below meth c n0 Kf h k q (F v w)) (r : (∀ v w, P v w → own_Run p l e R s m args below meth c n0 Kf h k q (F v w)) → own_Run p l e R s m args below meth c n0 Kf h k q g) : own_Run p l e R s m args below meth c n0 Kf h k q g := r j
theorem own_join3 {α β γ : Type} {g : JFrame} (P : α → β → γ → Prop) (F : α → β → γ → JFrame) (j : ∀ v w x, P v w x → own_Run p l e R s m args below meth c n0 Kf h k q (F v w x)) (r : (∀ v w x, P v w x → own_Run p l e R s m args below meth c n0 Kf h k q (F v w x)) → own_Run p l e R s m args below meth c n0 Kf h k q g) : own_Run p l e R s m args below meth c n0 Kf h k q g := r j
def own_upd {α : Type} (f : Nat → α) (i : Nat) (x : α) : Nat → α := fun j => if j = i then x else f j
theorem own_upd_eq {α : Type} (f : Nat → α) (i : Nat) (x : α) : own_upd f i x i = x := if_pos rfl
theorem own_upd_ne {α : Type} (f : Nat → α) {i j : Nat} (x : α) (hne : j ≠ i) : own_upd f i x j = f j := if_neg hne
/-- an array: her length, and what each place holds -/
def own_A (Z : State) (h : Heap) (a : Addr) (ty : FieldType) (n : Nat) (f : Nat → Value) : Prop := n < 2 ^ 31 ∧ ∃ cl : Cell, Arr Z h a cl ty ∧ cl.slots.size = n ∧ ∀ j, j < n → cl.slots[j]? = some (f j)
abbrev own_AI (Z : State) (h : Heap) (a : Addr) (n : Nat) (f : Nat → Int32) : Prop := own_A Z h a .int n (fun j => .int (f j))
abbrev own_AB (Z : State) (h : Heap) (a : Addr) (n : Nat) (f : Nat → Int32) : Prop := own_A Z h a .byte n (fun j => .int (f j))
abbrev own_AZ (Z : State) (h : Heap) (a : Addr) (n : Nat) (f : Nat → Int32) : Prop := own_A Z h a .boolean n (fun j => .int (f j))
abbrev own_AJ (Z : State) (h : Heap) (a : Addr) (n : Nat) (f : Nat → Int64) : Prop := own_A Z h a .long n (fun j => .long (f j))
theorem own_A.lt {h : Heap} {a : Addr} {ty : FieldType} {n : Nat} {f : Nat → Value} (V : own_A Z h a ty n f) : a < h.size := by obtain ⟨_, cl, A, _⟩ := V; exact A.lt
theorem own_A.ext {h h' : Heap} {a : Addr} {ty : FieldType} {n : Nat} {f : Nat → Value} (V : own_A Z h a ty n f) (E : Ext h h') : own_A Z h' a ty n f := by obtain ⟨hn, cl, A, r⟩ := V; exact ⟨hn, cl, A.ext E, r⟩
theorem own_A.other {h h' : Heap} {a b : Addr} {sl : Nat} {w : Value} {ty : FieldType} {n : Nat} {f : Nat → Value} (V : own_A Z h b ty n f) (W : Wr h h' a sl w) (hne : b ≠ a) : own_A Z h' b ty n f := by obtain ⟨hn, cl, A, r⟩ := V; exact ⟨hn, cl, A.other W hne, r⟩
theorem own_A.keep {h h' : Heap} {a : Addr} {ws : List Addr} {ty : FieldType} {n : Nat} {f : Nat → Value} (V : own_A Z h a ty n f) (K : Keep h h' ws) (hne : a ∉ ws) : own_A Z h' a ty n f := by obtain ⟨hn, cl, A, r⟩ := V; exact ⟨hn, cl, ⟨K.2.1 a cl A.1 hne, A.2⟩, r⟩
theorem own_A.congr {h : Heap} {a : Addr} {ty : FieldType} {n : Nat} {f g : Nat → Value} (V : own_A Z h a ty n f) (e : ∀ j, j < n → f j = g j) : own_A Z h a ty n g := by obtain ⟨hn, cl, A, S, H⟩ := V; exact ⟨hn, cl, A, S, fun j hj => by rw [← e j hj]; exact H j hj⟩
theorem own_A.set {h h' : Heap} {a : Addr} {i : Nat} {w : Value} {ty : FieldType} {n : Nat} {f : Nat → Value} (V : own_A Z h a ty n f) (W : Wr h h' a i w) (hi : i < n) : own_A Z h' a ty n (own_upd f i w) := by
  obtain ⟨hn, cl, A, S, H⟩ := V
  refine ⟨hn, _, A.same W, by rw [sz_set]; exact S, fun j hj => ?_⟩
  by_cases e : j = i
  · subst e
    rw [own_upd_eq]; simp [Cell.setSlot, S, hj]
  · rw [own_upd_ne _ _ e]
    show (cl.slots.setIfInBounds i w)[j]? = _
    rw [Array.getElem?_setIfInBounds_ne (Ne.symm e)]; exact H j hj
theorem own_nat {j : Int32} {i : Nat} (hj : j.toInt = (i : Int)) : ¬ j < 0 ∧ j.toNatClampNeg = i := by
  have z : (0 : Int32).toInt = 0 := rfl
  refine ⟨?_, ?_⟩
  · rw [Int32.lt_iff_toInt_lt]; omega
  · simp only [Int32.toNatClampNeg]; omega
theorem own_inb {j : Int32} {i : Nat} {cl : Cell} {n : Nat} (hj : j.toInt = (i : Int)) (S : cl.slots.size = n) (hi : i < n) : ¬ (j < 0 ∨ cl.slots.size ≤ j.toNatClampNeg) := by
  obtain ⟨h1, h2⟩ := own_nat hj
  rw [S, h2]; exact fun hh => hh.elim h1 (Nat.not_le.mpr hi)
theorem own_newA (C : own_Ctx p s m meth c Z own nm bytes maxL ret) {aty : ArrayType} (w : (Jvm.Cond.arrayClass (newarray.typeOf aty)).before a0 Z = true) (Z0 : n0 ≤ h.size) (hd : decode bytes pc = .ok (.newarray aty, 2)) (hp : pc + 2 = pc') {n : Int32} {nn cap : Nat} (hn : n.toInt = (nn : Int)) (hcap : nn ≤ cap) (hbig : cap * 8 ≤ 536870912) (hc : k + 1 ≤ R.cells) (hl : q + cap ≤ R.slots)
    (r : ∀ h' a, a = h.size → n0 ≤ a → n0 ≤ h'.size → Ext h h' → own_A Z h' a (newarray.typeOf aty) nn (fun _ => defaultValue (newarray.typeOf aty)) → own_Run p l e R s m args below meth c n0 Kf h' (k + 1) (q + cap) (mkF m pc' Ls (.ref a :: rest))) : own_Run p l e R s m args below meth c n0 Kf h k q (mkF m pc Ls (.int n :: rest)) := fun T locs X eT N => by
  subst hp
  obtain ⟨p1, p2⟩ := own_nat hn
  obtain ⟨T1, h1, cA, X1, e1, E1, A1, st1⟩ := newP X C.g_x C.g_z w eT (g := mkF m pc Ls (.int n :: rest)) rfl (hb C.g_by hd) rfl p1 (cap := cap) (by rw [p2]; exact hcap) hbig hc hl
  have V : own_A Z h1 h.size (newarray.typeOf aty) nn (fun _ => defaultValue (newarray.typeOf aty)) := by
    refine ⟨by have := Int32.toInt_lt n; omega, _, A1, by rw [sz_new, p2], fun j hj => ?_⟩
    simp [newA, p2, hj]
  obtain ⟨t, o, h2, h3⟩ := r h1 h.size rfl Z0 (Nat.le_trans Z0 E1.1) E1 V T1 _ X1 e1 N
  exact ⟨t, o, st1 _ h2, h3⟩
theorem own_newAI (C : own_Ctx p s m meth c Z own nm bytes maxL ret) (w : (Jvm.Cond.arrayClass .int).before a0 Z = true) (Z0 : n0 ≤ h.size) (hd : decode bytes pc = .ok (.newarray .int, 2)) (hp : pc + 2 = pc') {n : Int32} {nn cap : Nat} (hn : n.toInt = (nn : Int)) (hcap : nn ≤ cap) (hbig : cap * 8 ≤ 536870912) (hc : k + 1 ≤ R.cells) (hl : q + cap ≤ R.slots)
    (r : ∀ h' a, a = h.size → n0 ≤ a → n0 ≤ h'.size → Ext h h' → own_AI Z h' a nn (fun _ => (0 : Int32)) → own_Run p l e R s m args below meth c n0 Kf h' (k + 1) (q + cap) (mkF m pc' Ls (.ref a :: rest))) : own_Run p l e R s m args below meth c n0 Kf h k q (mkF m pc Ls (.int n :: rest)) := own_newA C (aty := .int) w Z0 hd hp hn hcap hbig hc hl r
theorem own_stI (C : own_Ctx p s m meth c Z own nm bytes maxL ret) {a : Addr} {n : Nat} {f : Nat → Int32} (V : own_AI Z h a n f) {j : Int32} {i : Nat} {x : Int32} (hj : j.toInt = (i : Int)) (hi : i < n) (ga : n0 ≤ a) (hd : decode bytes pc = .ok (.iastore, 1)) (hp : pc + 1 = pc')
    (r : ∀ h', Wr h h' a i (.int x) → own_AI Z h' a n (own_upd f i x) → own_Run p l e R s m args below meth c n0 Kf h' k q (mkF m pc' Ls rest)) : own_Run p l e R s m args below meth c n0 Kf h k q (mkF m pc Ls (.int x :: .int j :: .ref a :: rest)) := fun T locs X eT N => by
  subst hp
  obtain ⟨p1, p2⟩ := own_nat hj
  obtain ⟨hn, cl, A, S, H⟩ := id V
  obtain ⟨T1, h1, X1, e1, W1, st1⟩ := stI X C.g_x C.g_z eT A (own_inb hj S hi) (g := mkF m pc Ls (.int x :: .int j :: .ref a :: rest)) rfl rfl (hb C.g_by hd)
  have W2 : Wr h h1 a i (.int x) := by rw [← p2]; exact W1
  obtain ⟨t, o, h2, h3⟩ := r h1 W2 ((own_A.set V W2 hi).congr fun j hj => by by_cases e : j = i <;> simp [own_upd, e]) T1 _ X1 e1 (Fr.snoc X1 N ga)
  exact ⟨t, o, st1 _ h2, h3⟩
theorem own_lenI (C : own_Ctx p s m meth c Z own nm bytes maxL ret) {a : Addr} {n : Nat} {f : Nat → Int32} (V : own_AI Z h a n f) (hd : decode bytes pc = .ok (.arraylength, 1)) (hp : pc + 1 = pc') (r : own_Run p l e R s m args below meth c n0 Kf h k q (mkF m pc' Ls (.int (Nat.toInt32 n) :: rest))) : own_Run p l e R s m args below meth c n0 Kf h k q (mkF m pc Ls (.ref a :: rest)) := by
  obtain ⟨hn, cl, A, S, H⟩ := V
  subst hp
  rw [← S] at r
  exact own_st (fun T locs X eT t kk => X.arraylength C.g_x (by rw [eT]; exact A.1) (State.isArrayOf_alike C.g_z.alike A.2.1) (g := mkF m pc Ls (.ref a :: rest)) rfl rfl (hb C.g_by hd) t kk) r
theorem own_ldI (C : own_Ctx p s m meth c Z own nm bytes maxL ret) {a : Addr} {n : Nat} {f : Nat → Int32} (V : own_AI Z h a n f) {j : Int32} {i : Nat} (hj : j.toInt = (i : Int)) (hi : i < n) (hd : decode bytes pc = .ok (.iaload, 1)) (hp : pc + 1 = pc') (r : own_Run p l e R s m args below meth c n0 Kf h k q (mkF m pc' Ls (.int (f i) :: rest))) : own_Run p l e R s m args below meth c n0 Kf h k q (mkF m pc Ls (.int j :: .ref a :: rest)) := by
  obtain ⟨p1, p2⟩ := own_nat hj
  obtain ⟨hn, cl, A, S, H⟩ := V
  subst hp
  exact own_st (fun T locs X eT t kk => X.iaload C.g_x (by rw [eT]; exact A.1) (State.isArrayOf_alike C.g_z.alike A.2.1) A.2.2 (own_inb hj S hi) (by rw [p2]; exact H i hi) (g := mkF m pc Ls (.int j :: .ref a :: rest)) rfl rfl (hb C.g_by hd) t kk) r
theorem own_ldIV (C : own_Ctx p s m meth c Z own nm bytes maxL ret) {a : Addr} {n : Nat} {f : Nat → Int32} (V : own_AI Z h a n f) {j : Int32} {i : Nat} {v : Int32} (hj : j.toInt = (i : Int)) (hi : i < n) (hv : f i = v) (hd : decode bytes pc = .ok (.iaload, 1)) (hp : pc + 1 = pc') (r : own_Run p l e R s m args below meth c n0 Kf h k q (mkF m pc' Ls (.int v :: rest))) : own_Run p l e R s m args below meth c n0 Kf h k q (mkF m pc Ls (.int j :: .ref a :: rest)) := by
  subst hv; exact own_ldI C V hj hi hd hp r
theorem own_newAB (C : own_Ctx p s m meth c Z own nm bytes maxL ret) (w : (Jvm.Cond.arrayClass .byte).before a0 Z = true) (Z0 : n0 ≤ h.size) (hd : decode bytes pc = .ok (.newarray .byte, 2)) (hp : pc + 2 = pc') {n : Int32} {nn cap : Nat} (hn : n.toInt = (nn : Int)) (hcap : nn ≤ cap) (hbig : cap * 8 ≤ 536870912) (hc : k + 1 ≤ R.cells) (hl : q + cap ≤ R.slots)
    (r : ∀ h' a, a = h.size → n0 ≤ a → n0 ≤ h'.size → Ext h h' → own_AB Z h' a nn (fun _ => (0 : Int32)) → own_Run p l e R s m args below meth c n0 Kf h' (k + 1) (q + cap) (mkF m pc' Ls (.ref a :: rest))) : own_Run p l e R s m args below meth c n0 Kf h k q (mkF m pc Ls (.int n :: rest)) := own_newA C (aty := .byte) w Z0 hd hp hn hcap hbig hc hl r
theorem own_stB (C : own_Ctx p s m meth c Z own nm bytes maxL ret) {a : Addr} {n : Nat} {f : Nat → Int32} (V : own_AB Z h a n f) {j : Int32} {i : Nat} {x : Int32} (hj : j.toInt = (i : Int)) (hi : i < n) (ga : n0 ≤ a) (hd : decode bytes pc = .ok (.bastore, 1)) (hp : pc + 1 = pc')
    (r : ∀ h', Wr h h' a i (.int (x.toInt8.toInt32)) → own_AB Z h' a n (own_upd f i (x.toInt8.toInt32)) → own_Run p l e R s m args below meth c n0 Kf h' k q (mkF m pc' Ls rest)) : own_Run p l e R s m args below meth c n0 Kf h k q (mkF m pc Ls (.int x :: .int j :: .ref a :: rest)) := fun T locs X eT N => by
  subst hp
  obtain ⟨p1, p2⟩ := own_nat hj
  obtain ⟨hn, cl, A, S, H⟩ := id V
  obtain ⟨T1, h1, X1, e1, W1, st1⟩ := stB X C.g_x C.g_z eT A (own_inb hj S hi) (g := mkF m pc Ls (.int x :: .int j :: .ref a :: rest)) rfl rfl (hb C.g_by hd)
  have W2 : Wr h h1 a i (.int (x.toInt8.toInt32)) := by rw [← p2]; exact W1
  obtain ⟨t, o, h2, h3⟩ := r h1 W2 ((own_A.set V W2 hi).congr fun j hj => by by_cases e : j = i <;> simp [own_upd, e]) T1 _ X1 e1 (Fr.snoc X1 N ga)
  exact ⟨t, o, st1 _ h2, h3⟩
theorem own_lenB (C : own_Ctx p s m meth c Z own nm bytes maxL ret) {a : Addr} {n : Nat} {f : Nat → Int32} (V : own_AB Z h a n f) (hd : decode bytes pc = .ok (.arraylength, 1)) (hp : pc + 1 = pc') (r : own_Run p l e R s m args below meth c n0 Kf h k q (mkF m pc' Ls (.int (Nat.toInt32 n) :: rest))) : own_Run p l e R s m args below meth c n0 Kf h k q (mkF m pc Ls (.ref a :: rest)) := by
  obtain ⟨hn, cl, A, S, H⟩ := V
  subst hp
  rw [← S] at r
  exact own_st (fun T locs X eT t kk => X.arraylength C.g_x (by rw [eT]; exact A.1) (State.isArrayOf_alike C.g_z.alike A.2.1) (g := mkF m pc Ls (.ref a :: rest)) rfl rfl (hb C.g_by hd) t kk) r
theorem own_ldB (C : own_Ctx p s m meth c Z own nm bytes maxL ret) {a : Addr} {n : Nat} {f : Nat → Int32} (V : own_AB Z h a n f) {j : Int32} {i : Nat} (hj : j.toInt = (i : Int)) (hi : i < n) (hd : decode bytes pc = .ok (.baload, 1)) (hp : pc + 1 = pc') (r : own_Run p l e R s m args below meth c n0 Kf h k q (mkF m pc' Ls (.int (f i) :: rest))) : own_Run p l e R s m args below meth c n0 Kf h k q (mkF m pc Ls (.int j :: .ref a :: rest)) := by
  obtain ⟨p1, p2⟩ := own_nat hj
  obtain ⟨hn, cl, A, S, H⟩ := V
  subst hp
  exact own_st (fun T locs X eT t kk => X.baloadBytes C.g_x (by rw [eT]; exact A.1) (State.isArrayOf_alike C.g_z.alike A.2.1) A.2.2 (own_inb hj S hi) (by rw [p2]; exact H i hi) (g := mkF m pc Ls (.int j :: .ref a :: rest)) rfl rfl (hb C.g_by hd) t kk) r
theorem own_ldBV (C : own_Ctx p s m meth c Z own nm bytes maxL ret) {a : Addr} {n : Nat} {f : Nat → Int32} (V : own_AB Z h a n f) {j : Int32} {i : Nat} {v : Int32} (hj : j.toInt = (i : Int)) (hi : i < n) (hv : f i = v) (hd : decode bytes pc = .ok (.baload, 1)) (hp : pc + 1 = pc') (r : own_Run p l e R s m args below meth c n0 Kf h k q (mkF m pc' Ls (.int v :: rest))) : own_Run p l e R s m args below meth c n0 Kf h k q (mkF m pc Ls (.int j :: .ref a :: rest)) := by
  subst hv; exact own_ldB C V hj hi hd hp r
theorem own_newAZ (C : own_Ctx p s m meth c Z own nm bytes maxL ret) (w : (Jvm.Cond.arrayClass .boolean).before a0 Z = true) (Z0 : n0 ≤ h.size) (hd : decode bytes pc = .ok (.newarray .boolean, 2)) (hp : pc + 2 = pc') {n : Int32} {nn cap : Nat} (hn : n.toInt = (nn : Int)) (hcap : nn ≤ cap) (hbig : cap * 8 ≤ 536870912) (hc : k + 1 ≤ R.cells) (hl : q + cap ≤ R.slots)
    (r : ∀ h' a, a = h.size → n0 ≤ a → n0 ≤ h'.size → Ext h h' → own_AZ Z h' a nn (fun _ => (0 : Int32)) → own_Run p l e R s m args below meth c n0 Kf h' (k + 1) (q + cap) (mkF m pc' Ls (.ref a :: rest))) : own_Run p l e R s m args below meth c n0 Kf h k q (mkF m pc Ls (.int n :: rest)) := own_newA C (aty := .boolean) w Z0 hd hp hn hcap hbig hc hl r
theorem own_stZ (C : own_Ctx p s m meth c Z own nm bytes maxL ret) {a : Addr} {n : Nat} {f : Nat → Int32} (V : own_AZ Z h a n f) {j : Int32} {i : Nat} {x : Int32} (hj : j.toInt = (i : Int)) (hi : i < n) (ga : n0 ≤ a) (hd : decode bytes pc = .ok (.bastore, 1)) (hp : pc + 1 = pc')
    (r : ∀ h', Wr h h' a i (.int (x &&& 1)) → own_AZ Z h' a n (own_upd f i (x &&& 1)) → own_Run p l e R s m args below meth c n0 Kf h' k q (mkF m pc' Ls rest)) : own_Run p l e R s m args below meth c n0 Kf h k q (mkF m pc Ls (.int x :: .int j :: .ref a :: rest)) := fun T locs X eT N => by
  subst hp
  obtain ⟨p1, p2⟩ := own_nat hj
  obtain ⟨hn, cl, A, S, H⟩ := id V
  obtain ⟨T1, h1, X1, e1, W1, st1⟩ := stZ X C.g_x C.g_z eT A (own_inb hj S hi) (g := mkF m pc Ls (.int x :: .int j :: .ref a :: rest)) rfl rfl (hb C.g_by hd)
  have W2 : Wr h h1 a i (.int (x &&& 1)) := by rw [← p2]; exact W1
  obtain ⟨t, o, h2, h3⟩ := r h1 W2 ((own_A.set V W2 hi).congr fun j hj => by by_cases e : j = i <;> simp [own_upd, e]) T1 _ X1 e1 (Fr.snoc X1 N ga)
  exact ⟨t, o, st1 _ h2, h3⟩
theorem own_lenZ (C : own_Ctx p s m meth c Z own nm bytes maxL ret) {a : Addr} {n : Nat} {f : Nat → Int32} (V : own_AZ Z h a n f) (hd : decode bytes pc = .ok (.arraylength, 1)) (hp : pc + 1 = pc') (r : own_Run p l e R s m args below meth c n0 Kf h k q (mkF m pc' Ls (.int (Nat.toInt32 n) :: rest))) : own_Run p l e R s m args below meth c n0 Kf h k q (mkF m pc Ls (.ref a :: rest)) := by
  obtain ⟨hn, cl, A, S, H⟩ := V
  subst hp
  rw [← S] at r
  exact own_st (fun T locs X eT t kk => X.arraylength C.g_x (by rw [eT]; exact A.1) (State.isArrayOf_alike C.g_z.alike A.2.1) (g := mkF m pc Ls (.ref a :: rest)) rfl rfl (hb C.g_by hd) t kk) r
theorem own_newAJ (C : own_Ctx p s m meth c Z own nm bytes maxL ret) (w : (Jvm.Cond.arrayClass .long).before a0 Z = true) (Z0 : n0 ≤ h.size) (hd : decode bytes pc = .ok (.newarray .long, 2)) (hp : pc + 2 = pc') {n : Int32} {nn cap : Nat} (hn : n.toInt = (nn : Int)) (hcap : nn ≤ cap) (hbig : cap * 8 ≤ 536870912) (hc : k + 1 ≤ R.cells) (hl : q + cap ≤ R.slots)
    (r : ∀ h' a, a = h.size → n0 ≤ a → n0 ≤ h'.size → Ext h h' → own_AJ Z h' a nn (fun _ => (0 : Int64)) → own_Run p l e R s m args below meth c n0 Kf h' (k + 1) (q + cap) (mkF m pc' Ls (.ref a :: rest))) : own_Run p l e R s m args below meth c n0 Kf h k q (mkF m pc Ls (.int n :: rest)) := own_newA C (aty := .long) w Z0 hd hp hn hcap hbig hc hl r
theorem own_stJ (C : own_Ctx p s m meth c Z own nm bytes maxL ret) {a : Addr} {n : Nat} {f : Nat → Int64} (V : own_AJ Z h a n f) {j : Int32} {i : Nat} {x : Int64} (hj : j.toInt = (i : Int)) (hi : i < n) (ga : n0 ≤ a) (hd : decode bytes pc = .ok (.lastore, 1)) (hp : pc + 1 = pc')
    (r : ∀ h', Wr h h' a i (.long x) → own_AJ Z h' a n (own_upd f i x) → own_Run p l e R s m args below meth c n0 Kf h' k q (mkF m pc' Ls rest)) : own_Run p l e R s m args below meth c n0 Kf h k q (mkF m pc Ls (.long x :: .int j :: .ref a :: rest)) := fun T locs X eT N => by
  subst hp
  obtain ⟨p1, p2⟩ := own_nat hj
  obtain ⟨hn, cl, A, S, H⟩ := id V
  obtain ⟨T1, h1, X1, e1, W1, st1⟩ := stJ X C.g_x C.g_z eT A (own_inb hj S hi) (g := mkF m pc Ls (.long x :: .int j :: .ref a :: rest)) rfl rfl (hb C.g_by hd)
  have W2 : Wr h h1 a i (.long x) := by rw [← p2]; exact W1
  obtain ⟨t, o, h2, h3⟩ := r h1 W2 ((own_A.set V W2 hi).congr fun j hj => by by_cases e : j = i <;> simp [own_upd, e]) T1 _ X1 e1 (Fr.snoc X1 N ga)
  exact ⟨t, o, st1 _ h2, h3⟩
theorem own_lenJ (C : own_Ctx p s m meth c Z own nm bytes maxL ret) {a : Addr} {n : Nat} {f : Nat → Int64} (V : own_AJ Z h a n f) (hd : decode bytes pc = .ok (.arraylength, 1)) (hp : pc + 1 = pc') (r : own_Run p l e R s m args below meth c n0 Kf h k q (mkF m pc' Ls (.int (Nat.toInt32 n) :: rest))) : own_Run p l e R s m args below meth c n0 Kf h k q (mkF m pc Ls (.ref a :: rest)) := by
  obtain ⟨hn, cl, A, S, H⟩ := V
  subst hp
  rw [← S] at r
  exact own_st (fun T locs X eT t kk => X.arraylength C.g_x (by rw [eT]; exact A.1) (State.isArrayOf_alike C.g_z.alike A.2.1) (g := mkF m pc Ls (.ref a :: rest)) rfl rfl (hb C.g_by hd) t kk) r
end Own

theorem own_succ (i : Nat) : Nat.toInt32 i + (1 : Int32) = Nat.toInt32 (i + 1) := by
  show Int32.ofNat i + Int32.ofNat 1 = Int32.ofNat (i + 1)
  rw [Int32.ofNat_add]
theorem own_ti {i : Nat} (hi : i < 2 ^ 31) : (Nat.toInt32 i).toInt = (i : Int) := len_toInt hi
theorem own_tlt {i n : Nat} (hi : i < 2 ^ 31) (hn : n < 2 ^ 31) : Nat.toInt32 i < Nat.toInt32 n ↔ i < n := by
  rw [Int32.lt_iff_toInt_lt, own_ti hi, own_ti hn]; omega
theorem own_nz {n : Int32} {N : Nat} (hn : n.toInt = (N : Int)) (h0 : 0 < N) : n ≠ 0 := by
  intro e; subst e
  have z : (0 : Int32).toInt = 0 := rfl
  omega
theorem own_pos (p : Int32) : ∃ P : Nat, (p &&& (2147483647 : Int32)).toInt = (P : Int) ∧ P < 2147483648 := by
  have h1 := (Jvm.RoadKit.c_andS p (2147483647 : Int32)).2.2 (by decide)
  have h2 := Int32.toInt_lt (p &&& (2147483647 : Int32))
  exact ⟨(p &&& (2147483647 : Int32)).toInt.toNat, by omega, by omega⟩
theorem own_mod {x n : Int32} {X N : Nat} (hx : x.toInt = (X : Int)) (hn : n.toInt = (N : Int)) (h0 : 0 < N) : (x % n).toInt = ((X % N : Nat) : Int) := by
  have h := Int32.toInt_lt n
  rw [Int32.toInt_mod, hx, hn, Int.tmod_eq_emod_of_nonneg (by omega)]
  rfl
theorem own_rem (p : Int32) {n : Int32} {N : Nat} (hn : n.toInt = (N : Int)) (h0 : 0 < N) : ∃ A : Nat, A < N ∧ ((p &&& (2147483647 : Int32)) % n).toInt = (A : Int) := by
  obtain ⟨P, hP, _⟩ := own_pos p
  exact ⟨P % N, Nat.mod_lt _ h0, own_mod hP hn h0⟩
theorem own_add {x y : Int32} {X Y : Nat} (hx : x.toInt = (X : Int)) (hy : y.toInt = (Y : Int)) (hb : X + Y < 2147483648) : (x + y).toInt = ((X + Y : Nat) : Int) := by
  rw [Jvm.Free.XT.add32 ⟨by rw [hx, hy]; omega, by rw [hx, hy]; omega⟩, hx, hy]; omega
theorem own_sub1 {x : Int32} {X : Nat} (hx : x.toInt = (X : Int)) (h0 : 0 < X) : (x - (1 : Int32)).toInt = ((X - 1 : Nat) : Int) := by
  have h := Int32.toInt_lt x
  have o : (1 : Int32).toInt = 1 := rfl
  rw [Jvm.Free.XT.sub32 ⟨by rw [hx, o]; omega, by rw [hx, o]; omega⟩, hx, o]; omega
theorem own_inj {x y : Int32} {X Y : Nat} (hx : x.toInt = (X : Int)) (hy : y.toInt = (Y : Int)) : x = y ↔ X = Y := by
  rw [← Int32.toInt_inj, hx, hy]; omega

theorem own_d1_0 : decode prog_28_method_1_code 0 = .ok (.aload_n 0, 1) := by decide +kernel
theorem own_d1_1 : decode prog_28_method_1_code 1 = .ok (.invokespecial 1, 3) := by decide +kernel
theorem own_d1_4 : decode prog_28_method_1_code 4 = .ok (.aload_n 0, 1) := by decide +kernel
theorem own_d1_5 : decode prog_28_method_1_code 5 = .ok (.iload_n 1, 1) := by decide +kernel
theorem own_d1_6 : decode prog_28_method_1_code 6 = .ok (.newarray .int, 2) := by decide +kernel
theorem own_d1_8 : decode prog_28_method_1_code 8 = .ok (.putfield 7, 3) := by decide +kernel
theorem own_d1_11 : decode prog_28_method_1_code 11 = .ok (.aload_n 0, 1) := by decide +kernel
theorem own_d1_12 : decode prog_28_method_1_code 12 = .ok (.iload_n 1, 1) := by decide +kernel
theorem own_d1_13 : decode prog_28_method_1_code 13 = .ok (.newarray .int, 2) := by decide +kernel
theorem own_d1_15 : decode prog_28_method_1_code 15 = .ok (.putfield 13, 3) := by decide +kernel
theorem own_d1_18 : decode prog_28_method_1_code 18 = .ok (.aload_n 0, 1) := by decide +kernel
theorem own_d1_19 : decode prog_28_method_1_code 19 = .ok (.getfield 13, 3) := by decide +kernel
theorem own_d1_22 : decode prog_28_method_1_code 22 = .ok (.iconst (-1), 1) := by decide +kernel
theorem own_d1_23 : decode prog_28_method_1_code 23 = .ok (.invokestatic 16, 3) := by decide +kernel
theorem own_d1_26 : decode prog_28_method_1_code 26 = .ok (.return_, 1) := by decide +kernel
theorem own_d3_0 : decode jdk_65_method_103_code 0 = .ok (.iconst 0, 1) := by decide +kernel
theorem own_d3_1 : decode jdk_65_method_103_code 1 = .ok (.istore_n 2, 1) := by decide +kernel
theorem own_d3_2 : decode jdk_65_method_103_code 2 = .ok (.aload_n 0, 1) := by decide +kernel
theorem own_d3_3 : decode jdk_65_method_103_code 3 = .ok (.arraylength, 1) := by decide +kernel
theorem own_d3_4 : decode jdk_65_method_103_code 4 = .ok (.istore_n 3, 1) := by decide +kernel
theorem own_d3_5 : decode jdk_65_method_103_code 5 = .ok (.iload_n 2, 1) := by decide +kernel
theorem own_d3_6 : decode jdk_65_method_103_code 6 = .ok (.iload_n 3, 1) := by decide +kernel
theorem own_d3_7 : decode jdk_65_method_103_code 7 = .ok (.if_icmp .ge 13, 3) := by decide +kernel
theorem own_d3_10 : decode jdk_65_method_103_code 10 = .ok (.aload_n 0, 1) := by decide +kernel
theorem own_d3_11 : decode jdk_65_method_103_code 11 = .ok (.iload_n 2, 1) := by decide +kernel
theorem own_d3_12 : decode jdk_65_method_103_code 12 = .ok (.iload_n 1, 1) := by decide +kernel
theorem own_d3_13 : decode jdk_65_method_103_code 13 = .ok (.iastore, 1) := by decide +kernel
theorem own_d3_14 : decode jdk_65_method_103_code 14 = .ok (.iinc 2 1, 3) := by decide +kernel
theorem own_d3_17 : decode jdk_65_method_103_code 17 = .ok (.goto (-12), 3) := by decide +kernel
theorem own_d3_20 : decode jdk_65_method_103_code 20 = .ok (.return_, 1) := by decide +kernel
theorem own_d4_0 : decode prog_28_method_7_code 0 = .ok (.iconst 0, 1) := by decide +kernel
theorem own_d4_1 : decode prog_28_method_7_code 1 = .ok (.istore_n 1, 1) := by decide +kernel
theorem own_d4_2 : decode prog_28_method_7_code 2 = .ok (.iload_n 1, 1) := by decide +kernel
theorem own_d4_3 : decode prog_28_method_7_code 3 = .ok (.aload_n 0, 1) := by decide +kernel
theorem own_d4_4 : decode prog_28_method_7_code 4 = .ok (.getfield 22, 3) := by decide +kernel
theorem own_d4_7 : decode prog_28_method_7_code 7 = .ok (.if_icmp .ge 21, 3) := by decide +kernel
theorem own_d4_10 : decode prog_28_method_7_code 10 = .ok (.aload_n 0, 1) := by decide +kernel
theorem own_d4_11 : decode prog_28_method_7_code 11 = .ok (.getfield 13, 3) := by decide +kernel
theorem own_d4_14 : decode prog_28_method_7_code 14 = .ok (.aload_n 0, 1) := by decide +kernel
theorem own_d4_15 : decode prog_28_method_7_code 15 = .ok (.getfield 7, 3) := by decide +kernel
theorem own_d4_18 : decode prog_28_method_7_code 18 = .ok (.iload_n 1, 1) := by decide +kernel
theorem own_d4_19 : decode prog_28_method_7_code 19 = .ok (.iaload, 1) := by decide +kernel
theorem own_d4_20 : decode prog_28_method_7_code 20 = .ok (.iconst (-1), 1) := by decide +kernel
theorem own_d4_21 : decode prog_28_method_7_code 21 = .ok (.iastore, 1) := by decide +kernel
theorem own_d4_22 : decode prog_28_method_7_code 22 = .ok (.iinc 1 1, 3) := by decide +kernel
theorem own_d4_25 : decode prog_28_method_7_code 25 = .ok (.goto (-23), 3) := by decide +kernel
theorem own_d4_28 : decode prog_28_method_7_code 28 = .ok (.aload_n 0, 1) := by decide +kernel
theorem own_d4_29 : decode prog_28_method_7_code 29 = .ok (.iconst 0, 1) := by decide +kernel
theorem own_d4_30 : decode prog_28_method_7_code 30 = .ok (.putfield 22, 3) := by decide +kernel
theorem own_d4_33 : decode prog_28_method_7_code 33 = .ok (.return_, 1) := by decide +kernel
theorem own_d5_0 : decode prog_28_method_2_code 0 = .ok (.aload_n 0, 1) := by decide +kernel
theorem own_d5_1 : decode prog_28_method_2_code 1 = .ok (.getfield 22, 3) := by decide +kernel
theorem own_d5_4 : decode prog_28_method_2_code 4 = .ok (.ireturn, 1) := by decide +kernel
theorem own_d6_0 : decode prog_28_method_3_code 0 = .ok (.aload_n 0, 1) := by decide +kernel
theorem own_d6_1 : decode prog_28_method_3_code 1 = .ok (.getfield 13, 3) := by decide +kernel
theorem own_d6_4 : decode prog_28_method_3_code 4 = .ok (.iload_n 1, 1) := by decide +kernel
theorem own_d6_5 : decode prog_28_method_3_code 5 = .ok (.iaload, 1) := by decide +kernel
theorem own_d6_6 : decode prog_28_method_3_code 6 = .ok (.ifCond .lt 7, 3) := by decide +kernel
theorem own_d6_9 : decode prog_28_method_3_code 9 = .ok (.iconst 1, 1) := by decide +kernel
theorem own_d6_10 : decode prog_28_method_3_code 10 = .ok (.goto 4, 3) := by decide +kernel
theorem own_d6_13 : decode prog_28_method_3_code 13 = .ok (.iconst 0, 1) := by decide +kernel
theorem own_d6_14 : decode prog_28_method_3_code 14 = .ok (.ireturn, 1) := by decide +kernel
theorem own_d7_0 : decode prog_28_method_5_code 0 = .ok (.aload_n 0, 1) := by decide +kernel
theorem own_d7_1 : decode prog_28_method_5_code 1 = .ok (.getfield 13, 3) := by decide +kernel
theorem own_d7_4 : decode prog_28_method_5_code 4 = .ok (.iload_n 1, 1) := by decide +kernel
theorem own_d7_5 : decode prog_28_method_5_code 5 = .ok (.aload_n 0, 1) := by decide +kernel
theorem own_d7_6 : decode prog_28_method_5_code 6 = .ok (.getfield 22, 3) := by decide +kernel
theorem own_d7_9 : decode prog_28_method_5_code 9 = .ok (.iastore, 1) := by decide +kernel
theorem own_d7_10 : decode prog_28_method_5_code 10 = .ok (.aload_n 0, 1) := by decide +kernel
theorem own_d7_11 : decode prog_28_method_5_code 11 = .ok (.getfield 7, 3) := by decide +kernel
theorem own_d7_14 : decode prog_28_method_5_code 14 = .ok (.aload_n 0, 1) := by decide +kernel
theorem own_d7_15 : decode prog_28_method_5_code 15 = .ok (.dup, 1) := by decide +kernel
theorem own_d7_16 : decode prog_28_method_5_code 16 = .ok (.getfield 22, 3) := by decide +kernel
theorem own_d7_19 : decode prog_28_method_5_code 19 = .ok (.dup_x1, 1) := by decide +kernel
theorem own_d7_20 : decode prog_28_method_5_code 20 = .ok (.iconst 1, 1) := by decide +kernel
theorem own_d7_21 : decode prog_28_method_5_code 21 = .ok (.iadd, 1) := by decide +kernel
theorem own_d7_22 : decode prog_28_method_5_code 22 = .ok (.putfield 22, 3) := by decide +kernel
theorem own_d7_25 : decode prog_28_method_5_code 25 = .ok (.iload_n 1, 1) := by decide +kernel
theorem own_d7_26 : decode prog_28_method_5_code 26 = .ok (.iastore, 1) := by decide +kernel
theorem own_d7_27 : decode prog_28_method_5_code 27 = .ok (.return_, 1) := by decide +kernel
theorem own_d8_0 : decode prog_28_method_4_code 0 = .ok (.aload_n 0, 1) := by decide +kernel
theorem own_d8_1 : decode prog_28_method_4_code 1 = .ok (.getfield 7, 3) := by decide +kernel
theorem own_d8_4 : decode prog_28_method_4_code 4 = .ok (.iload_n 1, 1) := by decide +kernel
theorem own_d8_5 : decode prog_28_method_4_code 5 = .ok (.iaload, 1) := by decide +kernel
theorem own_d8_6 : decode prog_28_method_4_code 6 = .ok (.ireturn, 1) := by decide +kernel
theorem own_d9_0 : decode prog_28_method_6_code 0 = .ok (.aload_n 0, 1) := by decide +kernel
theorem own_d9_1 : decode prog_28_method_6_code 1 = .ok (.getfield 13, 3) := by decide +kernel
theorem own_d9_4 : decode prog_28_method_6_code 4 = .ok (.iload_n 1, 1) := by decide +kernel
theorem own_d9_5 : decode prog_28_method_6_code 5 = .ok (.iaload, 1) := by decide +kernel
theorem own_d9_6 : decode prog_28_method_6_code 6 = .ok (.istore_n 2, 1) := by decide +kernel
theorem own_d9_7 : decode prog_28_method_6_code 7 = .ok (.aload_n 0, 1) := by decide +kernel
theorem own_d9_8 : decode prog_28_method_6_code 8 = .ok (.getfield 7, 3) := by decide +kernel
theorem own_d9_11 : decode prog_28_method_6_code 11 = .ok (.aload_n 0, 1) := by decide +kernel
theorem own_d9_12 : decode prog_28_method_6_code 12 = .ok (.dup, 1) := by decide +kernel
theorem own_d9_13 : decode prog_28_method_6_code 13 = .ok (.getfield 22, 3) := by decide +kernel
theorem own_d9_16 : decode prog_28_method_6_code 16 = .ok (.iconst 1, 1) := by decide +kernel
theorem own_d9_17 : decode prog_28_method_6_code 17 = .ok (.isub, 1) := by decide +kernel
theorem own_d9_18 : decode prog_28_method_6_code 18 = .ok (.dup_x1, 1) := by decide +kernel
theorem own_d9_19 : decode prog_28_method_6_code 19 = .ok (.putfield 22, 3) := by decide +kernel
theorem own_d9_22 : decode prog_28_method_6_code 22 = .ok (.iaload, 1) := by decide +kernel
theorem own_d9_23 : decode prog_28_method_6_code 23 = .ok (.istore_n 3, 1) := by decide +kernel
theorem own_d9_24 : decode prog_28_method_6_code 24 = .ok (.aload_n 0, 1) := by decide +kernel
theorem own_d9_25 : decode prog_28_method_6_code 25 = .ok (.getfield 7, 3) := by decide +kernel
theorem own_d9_28 : decode prog_28_method_6_code 28 = .ok (.iload_n 2, 1) := by decide +kernel
theorem own_d9_29 : decode prog_28_method_6_code 29 = .ok (.iload_n 3, 1) := by decide +kernel
theorem own_d9_30 : decode prog_28_method_6_code 30 = .ok (.iastore, 1) := by decide +kernel
theorem own_d9_31 : decode prog_28_method_6_code 31 = .ok (.aload_n 0, 1) := by decide +kernel
theorem own_d9_32 : decode prog_28_method_6_code 32 = .ok (.getfield 13, 3) := by decide +kernel
theorem own_d9_35 : decode prog_28_method_6_code 35 = .ok (.iload_n 3, 1) := by decide +kernel
theorem own_d9_36 : decode prog_28_method_6_code 36 = .ok (.iload_n 2, 1) := by decide +kernel
theorem own_d9_37 : decode prog_28_method_6_code 37 = .ok (.iastore, 1) := by decide +kernel
theorem own_d9_38 : decode prog_28_method_6_code 38 = .ok (.aload_n 0, 1) := by decide +kernel
theorem own_d9_39 : decode prog_28_method_6_code 39 = .ok (.getfield 13, 3) := by decide +kernel
theorem own_d9_42 : decode prog_28_method_6_code 42 = .ok (.iload_n 1, 1) := by decide +kernel
theorem own_d9_43 : decode prog_28_method_6_code 43 = .ok (.iconst (-1), 1) := by decide +kernel
theorem own_d9_44 : decode prog_28_method_6_code 44 = .ok (.iastore, 1) := by decide +kernel
theorem own_d9_45 : decode prog_28_method_6_code 45 = .ok (.return_, 1) := by decide +kernel
theorem own_pn0 : plainName "java/util/Arrays" = true := by first | (simp [plainName, overriddenIn]; done) | decide +kernel
theorem own_pn1 : plainName "com/example/murmuration/murmuration/search/IndexedSet" = true := by first | (simp [plainName, overriddenIn]; done) | decide +kernel
theorem own_pn2 : plainName "com/example/murmuration/murmuration/search/IndexedSetClearPinLaw" = true := by first | (simp [plainName, overriddenIn]; done) | decide +kernel
theorem own_pd0 : parseMethodDescriptor "([II)V" = some ⟨[(.array .int), .int], none⟩ := by decide +kernel
theorem own_pd1 : parseMethodDescriptor "(I)V" = some ⟨[.int], none⟩ := by decide +kernel
theorem own_pd2 : parseMethodDescriptor "()V" = some ⟨[], none⟩ := by decide +kernel
theorem own_pd3 : parseMethodDescriptor "()I" = some ⟨[], some .int⟩ := by decide +kernel
theorem own_pd4 : parseMethodDescriptor "(I)Z" = some ⟨[.int], some .boolean⟩ := by decide +kernel
theorem own_pd5 : parseMethodDescriptor "(I)I" = some ⟨[.int], some .int⟩ := by decide +kernel
set_option maxRecDepth 65536 in
set_option maxHeartbeats 40000000 in
theorem own_m3 {l : Launch} {Z : State} {a0 : Array Value} (hw : ∀ d ∈ tables_1, d.before a0 Z = true) {n0 : Nat} {ws : List Jvm.Cond} {h : Heap} (a : Addr) (x : Int32) (n : Nat) (f : Nat → Int32) (Z0 : n0 ≤ h.size) (f0 : n0 ≤ a) (f1 : own_AI Z h a n f) :
    own_Met l Z n0 (⟨"java/util/Arrays", "fill", "([II)V"⟩ : MethodName) jdk_65_method_103_code 4 none ({ frames := 0, cells := 0, slots := 0, locals := 0 } : Room) ws #[(.ref a), (.int x)] h (fun v h' => (v = none) ∧ (Keep h h' [a]) ∧ (own_AI Z h' a n (fun _ => x))) := by
  refine own_met own_pn0 #[.val (.ref a), .val (.int x), .unset, .unset] (fun m => by first | (simp [entryFrame, mkF, argsToLocals, Value.category]; done) | rfl) ?_
  intro p_ e_ s_ m_ b_ mt_ c_ C
  replace C : own_Ctx p_ s_ m_ mt_ c_ Z "java/util/Arrays" "fill" jdk_65_method_103_code 4 none := C
  have K0 : Keep h h [a] := Keep.refl _ _
  refine own_iconst C (pc' := 1) (v := (0 : Int32)) own_d3_0 rfl (by decide) ?_
  refine own_istoreN C (pc' := 2) (Ls' := #[.val (.ref a), .val (.int x), .val (.int (0 : Int32)), .unset]) own_d3_1 rfl rfl ?_
  refine own_aloadN C (pc' := 3) own_d3_2 rfl rfl rfl ?_
  refine own_lenI C (pc' := 4) f1 own_d3_3 rfl ?_
  refine own_istoreN C (pc' := 5) (Ls' := #[.val (.ref a), .val (.int x), .val (.int (0 : Int32)), .val (.int (Nat.toInt32 n))]) own_d3_4 rfl rfl ?_
  have hn : n < 2 ^ 31 := f1.1
  have loop : ∀ (t i : Nat) (hh : Heap) (g : Nat → Int32), t + i = n → own_AI Z hh a n g → (∀ j, j < i → g j = x) → Keep h hh [a] → n0 ≤ hh.size → own_Run p_ l e_ ({ frames := 0, cells := 0, slots := 0, locals := 0 } : Room) s_ m_ #[(.ref a), (.int x)] b_ mt_ c_ n0 (own_K b_ ({ frames := 0, cells := 0, slots := 0, locals := 0 } : Room) s_ n0 (fun v h' => (v = none) ∧ (Keep h h' [a]) ∧ (own_AI Z h' a n (fun _ => x)))) hh 0 0 (mkF m_ 5 #[.val (.ref a), .val (.int x), .val (.int (Nat.toInt32 i)), .val (.int (Nat.toInt32 n))] []) := by
    intro t; induction t with
    | zero =>
      intro i hh g ht V hg K Z1
      refine own_iloadN C (pc' := 6) own_d3_5 rfl rfl ?_
      refine own_iloadN C (pc' := 7) own_d3_6 rfl rfl ?_
      refine own_ii_ge C (pc1 := 20) (pc2 := 10) own_d3_7 rfl rfl (fun c1 => ?_) (fun c1 => absurd c1 (by rw [own_tlt (by omega) hn]; omega))
      exact own_retV C rfl own_d3_20 (by decide) (by decide) (⟨rfl, K, (own_A.congr V fun j hj => congrArg _ (hg j (by omega)))⟩)
    | succ t ih =>
      intro i hh g ht V hg K Z1
      refine own_iloadN C (pc' := 6) own_d3_5 rfl rfl ?_
      refine own_iloadN C (pc' := 7) own_d3_6 rfl rfl ?_
      refine own_ii_ge C (pc1 := 20) (pc2 := 10) own_d3_7 rfl rfl (fun c2 => absurd c2 (by rw [own_tlt (by omega) hn]; exact not_not_intro (by omega))) (fun c2 => ?_)
      refine own_aloadN C (pc' := 11) own_d3_10 rfl rfl rfl ?_
      refine own_iloadN C (pc' := 12) own_d3_11 rfl rfl ?_
      refine own_iloadN C (pc' := 13) own_d3_12 rfl rfl ?_
      refine own_stI C (pc' := 14) V (i := i) (own_ti (by omega)) (by omega) f0 own_d3_13 rfl (fun h3 W4 V5 => ?_)
      have Z6 : n0 ≤ h3.size := Nat.le_trans Z1 (Nat.le_of_eq (Wr.size W4).symm)
      have K7 := Keep.wr K W4 (Or.inl (List.mem_of_getElem? (i := 0) rfl))
      have F8 : own_AI Z h3 a n (own_upd g i x) := V5
      refine own_iinc C (pc' := 17) (w := (1 : Int32)) (Ls' := #[.val (.ref a), .val (.int x), .val (.int ((Nat.toInt32 i) + (1 : Int32))), .val (.int (Nat.toInt32 n))]) own_d3_14 rfl (by decide) rfl rfl ?_
      refine own_goto C (pc' := 5) own_d3_17 rfl ?_
      rw [own_succ]
      exact ih (i + 1) h3 (own_upd g i x) (by omega) F8 (fun j hj => by by_cases e : j = i <;> simp [own_upd, e] <;> exact hg j (by omega)) K7 Z6
  exact loop n 0 h f rfl f1 (fun j hj => absurd hj (Nat.not_lt_zero j)) K0 Z0
set_option maxRecDepth 65536 in
set_option maxHeartbeats 40000000 in
theorem own_m1 {l : Launch} {Z : State} {a0 : Array Value} (hw : ∀ d ∈ tables_1, d.before a0 Z = true) {n0 : Nat} {ws : List Jvm.Cond} {h : Heap} (a : Addr) (N : Int32) (nn : Nat) (Z0 : n0 ≤ h.size) (f0 : Exa Z h a "com/example/murmuration/murmuration/search/IndexedSet") (f1 : n0 ≤ a) (f2 : Fld Z h a "com/example/murmuration/murmuration/search/IndexedSet" "members" "[I" .null) (f3 : Fld Z h a "com/example/murmuration/murmuration/search/IndexedSet" "positions" "[I" .null) (f4 : Fld Z h a "com/example/murmuration/murmuration/search/IndexedSet" "size" "I" (.int (0 : Int32))) (hN : N.toInt = (nn : Int)) (hcap : nn ≤ 3) :
    own_Met l Z n0 (⟨"com/example/murmuration/murmuration/search/IndexedSet", "<init>", "(I)V"⟩ : MethodName) prog_28_method_1_code 2 none ({ frames := 1, cells := 2, slots := 6, locals := 15 } : Room) ws #[(.ref a), (.int N)] h (fun v h' => ∃ mem : Addr, ∃ pos : Addr, (v = none) ∧ (Keep h h' [a]) ∧ (n0 ≤ mem ∧ h.size ≤ mem) ∧ (n0 ≤ pos ∧ h.size ≤ pos) ∧ (Exa Z h' a "com/example/murmuration/murmuration/search/IndexedSet") ∧ (Fld Z h' a "com/example/murmuration/murmuration/search/IndexedSet" "members" "[I" (.ref mem)) ∧ (Fld Z h' a "com/example/murmuration/murmuration/search/IndexedSet" "positions" "[I" (.ref pos)) ∧ (Fld Z h' a "com/example/murmuration/murmuration/search/IndexedSet" "size" "I" (.int (0 : Int32))) ∧ (own_AI Z h' mem nn (fun _ => (0 : Int32))) ∧ (own_AI Z h' pos nn (fun _ => (-1 : Int32))) ∧ (a ≠ mem) ∧ (a ≠ pos) ∧ (mem ≠ pos)) := by
  refine own_met own_pn1 #[.val (.ref a), .val (.int N)] (fun m => by first | (simp [entryFrame, mkF, argsToLocals, Value.category]; done) | rfl) ?_
  intro p_ e_ s_ m_ b_ mt_ c_ C
  replace C : own_Ctx p_ s_ m_ mt_ c_ Z "com/example/murmuration/murmuration/search/IndexedSet" "<init>" prog_28_method_1_code 2 none := C
  have K0 : Keep h h [a] := Keep.refl _ _
  refine own_aloadN C (pc' := 1) own_d1_0 rfl rfl rfl ?_
  refine own_initO C (pc' := 4) (W := 0) (hw _ (List.mem_of_getElem? (i := 6) rfl)) (hw _ (List.mem_of_getElem? (i := 7) rfl)) (hw _ (List.mem_of_getElem? (i := 8) rfl)) own_d1_1 rfl rfl (by decide) (Nat.le_of_eq rfl) (by decide) ?_
  refine own_aloadN C (pc' := 5) own_d1_4 rfl rfl rfl ?_
  refine own_iloadN C (pc' := 6) own_d1_5 rfl rfl ?_
  refine own_newAI C (pc' := 8) (hw _ (List.mem_of_getElem? (i := 9) rfl)) Z0 own_d1_6 rfl (nn := nn) (cap := 3) hN hcap (by decide) (by decide) (by decide) (fun h9 a10 ea11 ga12 Z13 E14 V15 => ?_)
  have ne16 : a ≠ a10 := by rw [ea11]; exact Nat.ne_of_lt (Exa.lt f0)
  have F17 : Exa Z h9 a "com/example/murmuration/murmuration/search/IndexedSet" := Exa.ext E14 f0
  have F18 : Fld Z h9 a "com/example/murmuration/murmuration/search/IndexedSet" "members" "[I" .null := Fld.ext E14 f2
  have F19 : Fld Z h9 a "com/example/murmuration/murmuration/search/IndexedSet" "positions" "[I" .null := Fld.ext E14 f3
  have F20 : Fld Z h9 a "com/example/murmuration/murmuration/search/IndexedSet" "size" "I" (.int (0 : Int32)) := Fld.ext E14 f4
  have gk22 : h.size ≤ a10 := by rw [ea11]; exact K0.1
  have K21 := Keep.ext K0 E14
  refine own_putF C (pc' := 11) (hw _ (List.mem_of_getElem? (i := 10) rfl)) F18 F17 (Or.inr ⟨(hw _ (List.mem_of_getElem? (i := 11) rfl)), rfl, rfl⟩) (hw _ (List.mem_of_getElem? (i := 1) rfl)) (ty := (.array .int)) (by decide) rfl rfl f1 own_d1_8 rfl (fun h23 W24 => ?_)
  have Z25 : n0 ≤ h23.size := Nat.le_trans Z13 (Nat.le_of_eq (Wr.size W24).symm)
  have K26 := Keep.wr K21 W24 (Or.inl (List.mem_of_getElem? (i := 0) rfl))
  have F27 : Exa Z h23 a "com/example/murmuration/murmuration/search/IndexedSet" := Exa.wr W24 F17
  have F28 : Fld Z h23 a "com/example/murmuration/murmuration/search/IndexedSet" "members" "[I" (.ref a10) := Fld.same W24 F18
  have F29 : Fld Z h23 a "com/example/murmuration/murmuration/search/IndexedSet" "positions" "[I" .null := Fld.other W24 F19 (Or.inr (slot_ne (Or.inr (hw _ (List.mem_of_getElem? (i := 13) rfl))) (Or.inr (hw _ (List.mem_of_getElem? (i := 11) rfl))) (by decide) (t := (.array .int)) (t' := (.array .int)) (by decide) (by decide)))
  have F30 : Fld Z h23 a "com/example/murmuration/murmuration/search/IndexedSet" "size" "I" (.int (0 : Int32)) := Fld.other W24 F20 (Or.inr (slot_ne (Or.inl (hw _ (List.mem_of_getElem? (i := 24) rfl))) (Or.inr (hw _ (List.mem_of_getElem? (i := 11) rfl))) (by decide) (t := .int) (t' := (.array .int)) (by decide) (by decide)))
  have F31 : own_AI Z h23 a10 nn (fun _ => (0 : Int32)) := own_A.other V15 W24 (Ne.symm ne16)
  refine own_aloadN C (pc' := 12) own_d1_11 rfl rfl rfl ?_
  refine own_iloadN C (pc' := 13) own_d1_12 rfl rfl ?_
  refine own_newAI C (pc' := 15) (hw _ (List.mem_of_getElem? (i := 9) rfl)) Z25 own_d1_13 rfl (nn := nn) (cap := 3) hN hcap (by decide) (by decide) (by decide) (fun h32 a33 ea34 ga35 Z36 E37 V38 => ?_)
  have ne39 : a ≠ a33 := by rw [ea34]; exact Nat.ne_of_lt (Exa.lt F27)
  have ne40 : a10 ≠ a33 := by rw [ea34]; exact Nat.ne_of_lt (own_A.lt F31)
  have F41 : Exa Z h32 a "com/example/murmuration/murmuration/search/IndexedSet" := Exa.ext E37 F27
  have F42 : Fld Z h32 a "com/example/murmuration/murmuration/search/IndexedSet" "members" "[I" (.ref a10) := Fld.ext E37 F28
  have F43 : Fld Z h32 a "com/example/murmuration/murmuration/search/IndexedSet" "positions" "[I" .null := Fld.ext E37 F29
  have F44 : Fld Z h32 a "com/example/murmuration/murmuration/search/IndexedSet" "size" "I" (.int (0 : Int32)) := Fld.ext E37 F30
  have F45 : own_AI Z h32 a10 nn (fun _ => (0 : Int32)) := own_A.ext F31 E37
  have gk47 : h.size ≤ a33 := by rw [ea34]; exact K26.1
  have K46 := Keep.ext K26 E37
  refine own_putF C (pc' := 18) (hw _ (List.mem_of_getElem? (i := 12) rfl)) F43 F41 (Or.inr ⟨(hw _ (List.mem_of_getElem? (i := 13) rfl)), rfl, rfl⟩) (hw _ (List.mem_of_getElem? (i := 1) rfl)) (ty := (.array .int)) (by decide) rfl rfl f1 own_d1_15 rfl (fun h48 W49 => ?_)
  have Z50 : n0 ≤ h48.size := Nat.le_trans Z36 (Nat.le_of_eq (Wr.size W49).symm)
  have K51 := Keep.wr K46 W49 (Or.inl (List.mem_of_getElem? (i := 0) rfl))
  have F52 : Exa Z h48 a "com/example/murmuration/murmuration/search/IndexedSet" := Exa.wr W49 F41
  have F53 : Fld Z h48 a "com/example/murmuration/murmuration/search/IndexedSet" "members" "[I" (.ref a10) := Fld.other W49 F42 (Or.inr (slot_ne (Or.inr (hw _ (List.mem_of_getElem? (i := 11) rfl))) (Or.inr (hw _ (List.mem_of_getElem? (i := 13) rfl))) (by decide) (t := (.array .int)) (t' := (.array .int)) (by decide) (by decide)))
  have F54 : Fld Z h48 a "com/example/murmuration/murmuration/search/IndexedSet" "positions" "[I" (.ref a33) := Fld.same W49 F43
  have F55 : Fld Z h48 a "com/example/murmuration/murmuration/search/IndexedSet" "size" "I" (.int (0 : Int32)) := Fld.other W49 F44 (Or.inr (slot_ne (Or.inl (hw _ (List.mem_of_getElem? (i := 24) rfl))) (Or.inr (hw _ (List.mem_of_getElem? (i := 13) rfl))) (by decide) (t := .int) (t' := (.array .int)) (by decide) (by decide)))
  have F56 : own_AI Z h48 a10 nn (fun _ => (0 : Int32)) := own_A.other F45 W49 (Ne.symm ne16)
  have F57 : own_AI Z h48 a33 nn (fun _ => (0 : Int32)) := own_A.other V38 W49 (Ne.symm ne39)
  refine own_aloadN C (pc' := 19) own_d1_18 rfl rfl rfl ?_
  refine own_getF C (pc' := 22) (hw _ (List.mem_of_getElem? (i := 12) rfl)) F54 own_d1_19 rfl ?_
  refine own_iconst C (pc' := 23) (v := (-1 : Int32)) own_d1_22 rfl (by decide) ?_
  refine own_callS C (pc' := 26) (y := (⟨"java/util/Arrays", "fill", "([II)V"⟩ : MethodName)) (argsL := [(.ref a33), (.int (-1 : Int32))]) (rest := []) 0 (hw _ (List.mem_of_getElem? (i := 14) rfl)) (hw _ (List.mem_of_getElem? (i := 15) rfl)) (hw _ (List.mem_of_getElem? (i := 16) rfl)) (hw _ (List.mem_of_getElem? (i := 17) rfl)) (by decide) (own_m3 hw a33 (-1 : Int32) nn (fun _ => (0 : Int32)) Z50 ga35 F57 ) (by decide) (by decide) (lenOf own_pd0 rfl) rfl (Nat.le_of_eq rfl) own_d1_23 rfl rfl (by decide) (by decide) (fun v58 h59 hq60 => ?_)
  obtain ⟨rfl, K61, F62⟩ := hq60
  have K64 := Keep.trans K51 K61 (allS (Or.inr gk47) all0)
  have Z65 : n0 ≤ h59.size := Nat.le_trans Z50 K61.1
  have F66 : Exa Z h59 a "com/example/murmuration/murmuration/search/IndexedSet" := Exa.keep F52 K61
  have F67 : Fld Z h59 a "com/example/murmuration/murmuration/search/IndexedSet" "members" "[I" (.ref a10) := Fld.keep F53 K61 (ninS ne39 nin0)
  have F68 : Fld Z h59 a "com/example/murmuration/murmuration/search/IndexedSet" "positions" "[I" (.ref a33) := Fld.keep F54 K61 (ninS ne39 nin0)
  have F69 : Fld Z h59 a "com/example/murmuration/murmuration/search/IndexedSet" "size" "I" (.int (0 : Int32)) := Fld.keep F55 K61 (ninS ne39 nin0)
  have F70 : own_AI Z h59 a10 nn (fun _ => (0 : Int32)) := own_A.keep F56 K61 (ninS ne40 nin0)
  show own_Run p_ l e_ _ s_ m_ _ b_ mt_ c_ n0 _ h59 _ _ (mkF m_ 26 #[.val (.ref a), .val (.int N)] [])
  exact own_retV C rfl own_d1_26 (by decide) (by decide) (⟨a10, a33, rfl, K64, ⟨ga12, gk22⟩, ⟨ga35, gk47⟩, F66, F67, F68, F69, F70, F62, ne16, ne39, ne40⟩)
set_option maxRecDepth 65536 in
set_option maxHeartbeats 40000000 in
theorem own_m7 {l : Launch} {Z : State} {a0 : Array Value} (hw : ∀ d ∈ tables_1, d.before a0 Z = true) {n0 : Nat} {ws : List Jvm.Cond} {h : Heap} (a : Addr) (mem : Addr) (pos : Addr) (n : Nat) (sz : Int32) (fm : Nat → Int32) (fp : Nat → Int32) (x : Int32) (xn : Nat) (sn : Nat) (sz' : Int32) (Z0 : n0 ≤ h.size) (f0 : Exa Z h a "com/example/murmuration/murmuration/search/IndexedSet") (f1 : n0 ≤ a) (f2 : n0 ≤ mem) (f3 : n0 ≤ pos) (f4 : a ≠ mem) (f5 : a ≠ pos) (f6 : mem ≠ pos) (f7 : Fld Z h a "com/example/murmuration/murmuration/search/IndexedSet" "members" "[I" (.ref mem)) (f8 : Fld Z h a "com/example/murmuration/murmuration/search/IndexedSet" "positions" "[I" (.ref pos)) (f9 : Fld Z h a "com/example/murmuration/murmuration/search/IndexedSet" "size" "I" (.int sz)) (f10 : own_AI Z h mem n fm) (f11 : own_AI Z h pos n fp) (hx : x.toInt = (xn : Int)) (hxn : xn < n) (hs : sz.toInt = (sn : Int)) (hsn : sn < n) (hsz : sz + (1 : Int32) = sz') :
    own_Met l Z n0 (⟨"com/example/murmuration/murmuration/search/IndexedSet", "add", "(I)V"⟩ : MethodName) prog_28_method_5_code 2 none ({ frames := 0, cells := 0, slots := 0, locals := 0 } : Room) ws #[(.ref a), (.int x)] h (fun v h' => (v = none) ∧ (Keep h h' [a, mem, pos]) ∧ (Exa Z h' a "com/example/murmuration/murmuration/search/IndexedSet") ∧ (Fld Z h' a "com/example/murmuration/murmuration/search/IndexedSet" "members" "[I" (.ref mem)) ∧ (Fld Z h' a "com/example/murmuration/murmuration/search/IndexedSet" "positions" "[I" (.ref pos)) ∧ (Fld Z h' a "com/example/murmuration/murmuration/search/IndexedSet" "size" "I" (.int sz')) ∧ (own_AI Z h' mem n (own_upd fm sn x)) ∧ (own_AI Z h' pos n (own_upd fp xn sz))) := by
  refine own_met own_pn1 #[.val (.ref a), .val (.int x)] (fun m => by first | (simp [entryFrame, mkF, argsToLocals, Value.category]; done) | rfl) ?_
  intro p_ e_ s_ m_ b_ mt_ c_ C
  replace C : own_Ctx p_ s_ m_ mt_ c_ Z "com/example/murmuration/murmuration/search/IndexedSet" "add" prog_28_method_5_code 2 none := C
  have K0 : Keep h h [a, mem, pos] := Keep.refl _ _
  refine own_aloadN C (pc' := 1) own_d7_0 rfl rfl rfl ?_
  refine own_getF C (pc' := 4) (hw _ (List.mem_of_getElem? (i := 12) rfl)) f8 own_d7_1 rfl ?_
  refine own_iloadN C (pc' := 5) own_d7_4 rfl rfl ?_
  refine own_aloadN C (pc' := 6) own_d7_5 rfl rfl rfl ?_
  refine own_getF C (pc' := 9) (hw _ (List.mem_of_getElem? (i := 23) rfl)) f9 own_d7_6 rfl ?_
  refine own_stI C (pc' := 10) f11 (i := xn) hx hxn f3 own_d7_9 rfl (fun h71 W72 V73 => ?_)
  have Z74 : n0 ≤ h71.size := Nat.le_trans Z0 (Nat.le_of_eq (Wr.size W72).symm)
  have K75 := Keep.wr K0 W72 (Or.inl (List.mem_of_getElem? (i := 2) rfl))
  have F76 : Exa Z h71 a "com/example/murmuration/murmuration/search/IndexedSet" := Exa.wr W72 f0
  have F77 : Fld Z h71 a "com/example/murmuration/murmuration/search/IndexedSet" "members" "[I" (.ref mem) := Fld.other W72 f7 (Or.inl f5)
  have F78 : Fld Z h71 a "com/example/murmuration/murmuration/search/IndexedSet" "positions" "[I" (.ref pos) := Fld.other W72 f8 (Or.inl f5)
  have F79 : Fld Z h71 a "com/example/murmuration/murmuration/search/IndexedSet" "size" "I" (.int sz) := Fld.other W72 f9 (Or.inl f5)
  have F80 : own_AI Z h71 mem n fm := own_A.other f10 W72 f6
  have F81 : own_AI Z h71 pos n (own_upd fp xn sz) := V73
  refine own_aloadN C (pc' := 11) own_d7_10 rfl rfl rfl ?_
  refine own_getF C (pc' := 14) (hw _ (List.mem_of_getElem? (i := 10) rfl)) F77 own_d7_11 rfl ?_
  refine own_aloadN C (pc' := 15) own_d7_14 rfl rfl rfl ?_
  refine own_dup C (pc' := 16) own_d7_15 rfl rfl ?_
  refine own_getF C (pc' := 19) (hw _ (List.mem_of_getElem? (i := 23) rfl)) F79 own_d7_16 rfl ?_
  refine own_dupX1 C (pc' := 20) own_d7_19 rfl rfl rfl ?_
  refine own_iconst C (pc' := 21) (v := (1 : Int32)) own_d7_20 rfl (by decide) ?_
  refine own_iadd C (pc' := 22) own_d7_21 rfl ?_
  refine own_putF C (pc' := 25) (hw _ (List.mem_of_getElem? (i := 23) rfl)) F79 F76 (Or.inl (hw _ (List.mem_of_getElem? (i := 24) rfl))) (hw _ (List.mem_of_getElem? (i := 1) rfl)) (ty := .int) (by decide) rfl rfl f1 own_d7_22 rfl (fun h82 W83 => ?_)
  have Z84 : n0 ≤ h82.size := Nat.le_trans Z74 (Nat.le_of_eq (Wr.size W83).symm)
  have K85 := Keep.wr K75 W83 (Or.inl (List.mem_of_getElem? (i := 0) rfl))
  have F86 : Exa Z h82 a "com/example/murmuration/murmuration/search/IndexedSet" := Exa.wr W83 F76
  have F87 : Fld Z h82 a "com/example/murmuration/murmuration/search/IndexedSet" "members" "[I" (.ref mem) := Fld.other W83 F77 (Or.inr (slot_ne (Or.inr (hw _ (List.mem_of_getElem? (i := 11) rfl))) (Or.inl (hw _ (List.mem_of_getElem? (i := 24) rfl))) (by decide) (t := (.array .int)) (t' := .int) (by decide) (by decide)))
  have F88 : Fld Z h82 a "com/example/murmuration/murmuration/search/IndexedSet" "positions" "[I" (.ref pos) := Fld.other W83 F78 (Or.inr (slot_ne (Or.inr (hw _ (List.mem_of_getElem? (i := 13) rfl))) (Or.inl (hw _ (List.mem_of_getElem? (i := 24) rfl))) (by decide) (t := (.array .int)) (t' := .int) (by decide) (by decide)))
  have F89 : Fld Z h82 a "com/example/murmuration/murmuration/search/IndexedSet" "size" "I" (.int (sz + (1 : Int32))) := Fld.same W83 F79
  have F90 : own_AI Z h82 mem n fm := own_A.other F80 W83 (Ne.symm f4)
  have F91 : own_AI Z h82 pos n (own_upd fp xn sz) := own_A.other F81 W83 (Ne.symm f5)
  refine own_iloadN C (pc' := 26) own_d7_25 rfl rfl ?_
  refine own_stI C (pc' := 27) F90 (i := sn) hs hsn f2 own_d7_26 rfl (fun h92 W93 V94 => ?_)
  have Z95 : n0 ≤ h92.size := Nat.le_trans Z84 (Nat.le_of_eq (Wr.size W93).symm)
  have K96 := Keep.wr K85 W93 (Or.inl (List.mem_of_getElem? (i := 1) rfl))
  have F97 : Exa Z h92 a "com/example/murmuration/murmuration/search/IndexedSet" := Exa.wr W93 F86
  have F98 : Fld Z h92 a "com/example/murmuration/murmuration/search/IndexedSet" "members" "[I" (.ref mem) := Fld.other W93 F87 (Or.inl f4)
  have F99 : Fld Z h92 a "com/example/murmuration/murmuration/search/IndexedSet" "positions" "[I" (.ref pos) := Fld.other W93 F88 (Or.inl f4)
  have F100 : Fld Z h92 a "com/example/murmuration/murmuration/search/IndexedSet" "size" "I" (.int (sz + (1 : Int32))) := Fld.other W93 F89 (Or.inl f4)
  have F101 : own_AI Z h92 mem n (own_upd fm sn x) := V94
  have F102 : own_AI Z h92 pos n (own_upd fp xn sz) := own_A.other F91 W93 (Ne.symm f6)
  exact own_retV C rfl own_d7_27 (by decide) (by decide) (⟨rfl, K96, F97, F98, F99, (by rw [← hsz]; exact F100), F101, F102⟩)
set_option maxRecDepth 65536 in
set_option maxHeartbeats 40000000 in
theorem own_m5 {l : Launch} {Z : State} {a0 : Array Value} (hw : ∀ d ∈ tables_1, d.before a0 Z = true) {n0 : Nat} {ws : List Jvm.Cond} {h : Heap} (a : Addr) (w : Int32) (Z0 : n0 ≤ h.size) (f0 : Fld Z h a "com/example/murmuration/murmuration/search/IndexedSet" "size" "I" (.int w)) :
    own_Met l Z n0 (⟨"com/example/murmuration/murmuration/search/IndexedSet", "size", "()I"⟩ : MethodName) prog_28_method_2_code 1 (some .int) ({ frames := 0, cells := 0, slots := 0, locals := 0 } : Room) ws #[(.ref a)] h (fun v h' => (v = some (.int w)) ∧ (h = h')) := by
  refine own_met own_pn1 #[.val (.ref a)] (fun m => by first | (simp [entryFrame, mkF, argsToLocals, Value.category]; done) | rfl) ?_
  intro p_ e_ s_ m_ b_ mt_ c_ C
  replace C : own_Ctx p_ s_ m_ mt_ c_ Z "com/example/murmuration/murmuration/search/IndexedSet" "size" prog_28_method_2_code 1 (some .int) := C
  refine own_aloadN C (pc' := 1) own_d5_0 rfl rfl rfl ?_
  refine own_getF C (pc' := 4) (hw _ (List.mem_of_getElem? (i := 23) rfl)) f0 own_d5_1 rfl ?_
  exact own_ret C (t := .int) rfl rfl (Or.inl ⟨rfl, by simp, _, rfl⟩) own_d5_4 (by decide) (by decide) (⟨rfl, rfl⟩)
set_option maxRecDepth 65536 in
set_option maxHeartbeats 40000000 in
theorem own_m8 {l : Launch} {Z : State} {a0 : Array Value} (hw : ∀ d ∈ tables_1, d.before a0 Z = true) {n0 : Nat} {ws : List Jvm.Cond} {h : Heap} (a : Addr) (mem : Addr) (n : Nat) (fm : Nat → Int32) (x : Int32) (xn : Nat) (r : Int32) (Z0 : n0 ≤ h.size) (f0 : Fld Z h a "com/example/murmuration/murmuration/search/IndexedSet" "members" "[I" (.ref mem)) (f1 : own_AI Z h mem n fm) (hx : x.toInt = (xn : Int)) (hxn : xn < n) (hr : fm xn = r) :
    own_Met l Z n0 (⟨"com/example/murmuration/murmuration/search/IndexedSet", "get", "(I)I"⟩ : MethodName) prog_28_method_4_code 2 (some .int) ({ frames := 0, cells := 0, slots := 0, locals := 0 } : Room) ws #[(.ref a), (.int x)] h (fun v h' => (v = some (.int r)) ∧ (h = h')) := by
  refine own_met own_pn1 #[.val (.ref a), .val (.int x)] (fun m => by first | (simp [entryFrame, mkF, argsToLocals, Value.category]; done) | rfl) ?_
  intro p_ e_ s_ m_ b_ mt_ c_ C
  replace C : own_Ctx p_ s_ m_ mt_ c_ Z "com/example/murmuration/murmuration/search/IndexedSet" "get" prog_28_method_4_code 2 (some .int) := C
  refine own_aloadN C (pc' := 1) own_d8_0 rfl rfl rfl ?_
  refine own_getF C (pc' := 4) (hw _ (List.mem_of_getElem? (i := 10) rfl)) f0 own_d8_1 rfl ?_
  refine own_iloadN C (pc' := 5) own_d8_4 rfl rfl ?_
  refine own_ldIV C (pc' := 6) f1 (i := xn) (v := r) hx hxn hr own_d8_5 rfl ?_
  exact own_ret C (t := .int) rfl rfl (Or.inl ⟨rfl, by simp, _, rfl⟩) own_d8_6 (by decide) (by decide) (⟨rfl, rfl⟩)
set_option maxRecDepth 65536 in
set_option maxHeartbeats 40000000 in
theorem own_m6 {l : Launch} {Z : State} {a0 : Array Value} (hw : ∀ d ∈ tables_1, d.before a0 Z = true) {n0 : Nat} {ws : List Jvm.Cond} {h : Heap} (a : Addr) (pos : Addr) (n : Nat) (fp : Nat → Int32) (x : Int32) (xn : Nat) (b : Int32) (Z0 : n0 ≤ h.size) (f0 : Fld Z h a "com/example/murmuration/murmuration/search/IndexedSet" "positions" "[I" (.ref pos)) (f1 : own_AI Z h pos n fp) (hx : x.toInt = (xn : Int)) (hxn : xn < n) (hb : (if (fp xn) < 0 then (0 : Int32) else (1 : Int32)) = b) :
    own_Met l Z n0 (⟨"com/example/murmuration/murmuration/search/IndexedSet", "contains", "(I)Z"⟩ : MethodName) prog_28_method_3_code 2 (some .boolean) ({ frames := 0, cells := 0, slots := 0, locals := 0 } : Room) ws #[(.ref a), (.int x)] h (fun v h' => (v = some (.int b)) ∧ (h = h')) := by
  refine own_met own_pn1 #[.val (.ref a), .val (.int x)] (fun m => by first | (simp [entryFrame, mkF, argsToLocals, Value.category]; done) | rfl) ?_
  intro p_ e_ s_ m_ b_ mt_ c_ C
  replace C : own_Ctx p_ s_ m_ mt_ c_ Z "com/example/murmuration/murmuration/search/IndexedSet" "contains" prog_28_method_3_code 2 (some .boolean) := C
  refine own_aloadN C (pc' := 1) own_d6_0 rfl rfl rfl ?_
  refine own_getF C (pc' := 4) (hw _ (List.mem_of_getElem? (i := 12) rfl)) f0 own_d6_1 rfl ?_
  refine own_iloadN C (pc' := 5) own_d6_4 rfl rfl ?_
  refine own_ldI C (pc' := 6) f1 (i := xn) hx hxn own_d6_5 rfl ?_
  refine own_i0_lt C (pc1 := 13) (pc2 := 9) own_d6_6 rfl rfl (fun c103 => ?_) (fun c103 => ?_)
  · skip
    refine own_iconst C (pc' := 14) (v := (0 : Int32)) own_d6_13 rfl (by decide) ?_
    exact own_ret C (t := .boolean) rfl rfl (Or.inl ⟨rfl, by simp, _, rfl⟩) own_d6_14 (by decide) (by decide) (⟨by rw [← hb, if_pos c103], rfl⟩)
  · skip
    refine own_iconst C (pc' := 10) (v := (1 : Int32)) own_d6_9 rfl (by decide) ?_
    refine own_goto C (pc' := 14) own_d6_10 rfl ?_
    exact own_ret C (t := .boolean) rfl rfl (Or.inl ⟨rfl, by simp, _, rfl⟩) own_d6_14 (by decide) (by decide) (⟨by rw [← hb, if_neg c103], rfl⟩)
set_option maxRecDepth 65536 in
set_option maxHeartbeats 40000000 in
theorem own_m9 {l : Launch} {Z : State} {a0 : Array Value} (hw : ∀ d ∈ tables_1, d.before a0 Z = true) {n0 : Nat} {ws : List Jvm.Cond} {h : Heap} (a : Addr) (mem : Addr) (pos : Addr) (n : Nat) (sz : Int32) (fm : Nat → Int32) (fp : Nat → Int32) (x : Int32) (xn : Nat) (ln : Nat) (pv : Int32) (lv : Int32) (ii : Nat) (li : Nat) (sz' : Int32) (Z0 : n0 ≤ h.size) (f0 : Exa Z h a "com/example/murmuration/murmuration/search/IndexedSet") (f1 : n0 ≤ a) (f2 : n0 ≤ mem) (f3 : n0 ≤ pos) (f4 : a ≠ mem) (f5 : a ≠ pos) (f6 : mem ≠ pos) (f7 : Fld Z h a "com/example/murmuration/murmuration/search/IndexedSet" "members" "[I" (.ref mem)) (f8 : Fld Z h a "com/example/murmuration/murmuration/search/IndexedSet" "positions" "[I" (.ref pos)) (f9 : Fld Z h a "com/example/murmuration/murmuration/search/IndexedSet" "size" "I" (.int sz)) (f10 : own_AI Z h mem n fm) (f11 : own_AI Z h pos n fp) (hx : x.toInt = (xn : Int)) (hxn : xn < n) (hpv : fp xn = pv) (hi : pv.toInt = (ii : Int)) (hin : ii < n) (hl : (sz - (1 : Int32)).toInt = (ln : Int)) (hln : ln < n) (hlv : fm ln = lv) (hli : lv.toInt = (li : Int)) (hlin : li < n) (hsz : sz - (1 : Int32) = sz') :
    own_Met l Z n0 (⟨"com/example/murmuration/murmuration/search/IndexedSet", "remove", "(I)V"⟩ : MethodName) prog_28_method_6_code 4 none ({ frames := 0, cells := 0, slots := 0, locals := 0 } : Room) ws #[(.ref a), (.int x)] h (fun v h' => (v = none) ∧ (Keep h h' [a, mem, pos]) ∧ (Exa Z h' a "com/example/murmuration/murmuration/search/IndexedSet") ∧ (Fld Z h' a "com/example/murmuration/murmuration/search/IndexedSet" "members" "[I" (.ref mem)) ∧ (Fld Z h' a "com/example/murmuration/murmuration/search/IndexedSet" "positions" "[I" (.ref pos)) ∧ (Fld Z h' a "com/example/murmuration/murmuration/search/IndexedSet" "size" "I" (.int sz')) ∧ (own_AI Z h' mem n (own_upd fm ii lv)) ∧ (own_AI Z h' pos n (own_upd (own_upd fp li pv) xn (-1 : Int32)))) := by
  refine own_met own_pn1 #[.val (.ref a), .val (.int x), .unset, .unset] (fun m => by first | (simp [entryFrame, mkF, argsToLocals, Value.category]; done) | rfl) ?_
  intro p_ e_ s_ m_ b_ mt_ c_ C
  replace C : own_Ctx p_ s_ m_ mt_ c_ Z "com/example/murmuration/murmuration/search/IndexedSet" "remove" prog_28_method_6_code 4 none := C
  have K0 : Keep h h [a, mem, pos] := Keep.refl _ _
  refine own_aloadN C (pc' := 1) own_d9_0 rfl rfl rfl ?_
  refine own_getF C (pc' := 4) (hw _ (List.mem_of_getElem? (i := 12) rfl)) f8 own_d9_1 rfl ?_
  refine own_iloadN C (pc' := 5) own_d9_4 rfl rfl ?_
  refine own_ldIV C (pc' := 6) f11 (i := xn) (v := pv) hx hxn hpv own_d9_5 rfl ?_
  refine own_istoreN C (pc' := 7) (Ls' := #[.val (.ref a), .val (.int x), .val (.int pv), .unset]) own_d9_6 rfl rfl ?_
  refine own_aloadN C (pc' := 8) own_d9_7 rfl rfl rfl ?_
  refine own_getF C (pc' := 11) (hw _ (List.mem_of_getElem? (i := 10) rfl)) f7 own_d9_8 rfl ?_
  refine own_aloadN C (pc' := 12) own_d9_11 rfl rfl rfl ?_
  refine own_dup C (pc' := 13) own_d9_12 rfl rfl ?_
  refine own_getF C (pc' := 16) (hw _ (List.mem_of_getElem? (i := 23) rfl)) f9 own_d9_13 rfl ?_
  refine own_iconst C (pc' := 17) (v := (1 : Int32)) own_d9_16 rfl (by decide) ?_
  refine own_isub C (pc' := 18) own_d9_17 rfl ?_
  refine own_dupX1 C (pc' := 19) own_d9_18 rfl rfl rfl ?_
  refine own_putF C (pc' := 22) (hw _ (List.mem_of_getElem? (i := 23) rfl)) f9 f0 (Or.inl (hw _ (List.mem_of_getElem? (i := 24) rfl))) (hw _ (List.mem_of_getElem? (i := 1) rfl)) (ty := .int) (by decide) rfl rfl f1 own_d9_19 rfl (fun h104 W105 => ?_)
  have Z106 : n0 ≤ h104.size := Nat.le_trans Z0 (Nat.le_of_eq (Wr.size W105).symm)
  have K107 := Keep.wr K0 W105 (Or.inl (List.mem_of_getElem? (i := 0) rfl))
  have F108 : Exa Z h104 a "com/example/murmuration/murmuration/search/IndexedSet" := Exa.wr W105 f0
  have F109 : Fld Z h104 a "com/example/murmuration/murmuration/search/IndexedSet" "members" "[I" (.ref mem) := Fld.other W105 f7 (Or.inr (slot_ne (Or.inr (hw _ (List.mem_of_getElem? (i := 11) rfl))) (Or.inl (hw _ (List.mem_of_getElem? (i := 24) rfl))) (by decide) (t := (.array .int)) (t' := .int) (by decide) (by decide)))
  have F110 : Fld Z h104 a "com/example/murmuration/murmuration/search/IndexedSet" "positions" "[I" (.ref pos) := Fld.other W105 f8 (Or.inr (slot_ne (Or.inr (hw _ (List.mem_of_getElem? (i := 13) rfl))) (Or.inl (hw _ (List.mem_of_getElem? (i := 24) rfl))) (by decide) (t := (.array .int)) (t' := .int) (by decide) (by decide)))
  have F111 : Fld Z h104 a "com/example/murmuration/murmuration/search/IndexedSet" "size" "I" (.int (sz - (1 : Int32))) := Fld.same W105 f9
  have F112 : own_AI Z h104 mem n fm := own_A.other f10 W105 (Ne.symm f4)
  have F113 : own_AI Z h104 pos n fp := own_A.other f11 W105 (Ne.symm f5)
  refine own_ldIV C (pc' := 23) F112 (i := ln) (v := lv) hl hln hlv own_d9_22 rfl ?_
  refine own_istoreN C (pc' := 24) (Ls' := #[.val (.ref a), .val (.int x), .val (.int pv), .val (.int lv)]) own_d9_23 rfl rfl ?_
  refine own_aloadN C (pc' := 25) own_d9_24 rfl rfl rfl ?_
  refine own_getF C (pc' := 28) (hw _ (List.mem_of_getElem? (i := 10) rfl)) F109 own_d9_25 rfl ?_
  refine own_iloadN C (pc' := 29) own_d9_28 rfl rfl ?_
  refine own_iloadN C (pc' := 30) own_d9_29 rfl rfl ?_
  refine own_stI C (pc' := 31) F112 (i := ii) hi hin f2 own_d9_30 rfl (fun h114 W115 V116 => ?_)
  have Z117 : n0 ≤ h114.size := Nat.le_trans Z106 (Nat.le_of_eq (Wr.size W115).symm)
  have K118 := Keep.wr K107 W115 (Or.inl (List.mem_of_getElem? (i := 1) rfl))
  have F119 : Exa Z h114 a "com/example/murmuration/murmuration/search/IndexedSet" := Exa.wr W115 F108
  have F120 : Fld Z h114 a "com/example/murmuration/murmuration/search/IndexedSet" "members" "[I" (.ref mem) := Fld.other W115 F109 (Or.inl f4)
  have F121 : Fld Z h114 a "com/example/murmuration/murmuration/search/IndexedSet" "positions" "[I" (.ref pos) := Fld.other W115 F110 (Or.inl f4)
  have F122 : Fld Z h114 a "com/example/murmuration/murmuration/search/IndexedSet" "size" "I" (.int (sz - (1 : Int32))) := Fld.other W115 F111 (Or.inl f4)
  have F123 : own_AI Z h114 mem n (own_upd fm ii lv) := V116
  have F124 : own_AI Z h114 pos n fp := own_A.other F113 W115 (Ne.symm f6)
  refine own_aloadN C (pc' := 32) own_d9_31 rfl rfl rfl ?_
  refine own_getF C (pc' := 35) (hw _ (List.mem_of_getElem? (i := 12) rfl)) F121 own_d9_32 rfl ?_
  refine own_iloadN C (pc' := 36) own_d9_35 rfl rfl ?_
  refine own_iloadN C (pc' := 37) own_d9_36 rfl rfl ?_
  refine own_stI C (pc' := 38) F124 (i := li) hli hlin f3 own_d9_37 rfl (fun h125 W126 V127 => ?_)
  have Z128 : n0 ≤ h125.size := Nat.le_trans Z117 (Nat.le_of_eq (Wr.size W126).symm)
  have K129 := Keep.wr K118 W126 (Or.inl (List.mem_of_getElem? (i := 2) rfl))
  have F130 : Exa Z h125 a "com/example/murmuration/murmuration/search/IndexedSet" := Exa.wr W126 F119
  have F131 : Fld Z h125 a "com/example/murmuration/murmuration/search/IndexedSet" "members" "[I" (.ref mem) := Fld.other W126 F120 (Or.inl f5)
  have F132 : Fld Z h125 a "com/example/murmuration/murmuration/search/IndexedSet" "positions" "[I" (.ref pos) := Fld.other W126 F121 (Or.inl f5)
  have F133 : Fld Z h125 a "com/example/murmuration/murmuration/search/IndexedSet" "size" "I" (.int (sz - (1 : Int32))) := Fld.other W126 F122 (Or.inl f5)
  have F134 : own_AI Z h125 mem n (own_upd fm ii lv) := own_A.other F123 W126 f6
  have F135 : own_AI Z h125 pos n (own_upd fp li pv) := V127
  refine own_aloadN C (pc' := 39) own_d9_38 rfl rfl rfl ?_
  refine own_getF C (pc' := 42) (hw _ (List.mem_of_getElem? (i := 12) rfl)) F132 own_d9_39 rfl ?_
  refine own_iloadN C (pc' := 43) own_d9_42 rfl rfl ?_
  refine own_iconst C (pc' := 44) (v := (-1 : Int32)) own_d9_43 rfl (by decide) ?_
  refine own_stI C (pc' := 45) F135 (i := xn) hx hxn f3 own_d9_44 rfl (fun h136 W137 V138 => ?_)
  have Z139 : n0 ≤ h136.size := Nat.le_trans Z128 (Nat.le_of_eq (Wr.size W137).symm)
  have K140 := Keep.wr K129 W137 (Or.inl (List.mem_of_getElem? (i := 2) rfl))
  have F141 : Exa Z h136 a "com/example/murmuration/murmuration/search/IndexedSet" := Exa.wr W137 F130
  have F142 : Fld Z h136 a "com/example/murmuration/murmuration/search/IndexedSet" "members" "[I" (.ref mem) := Fld.other W137 F131 (Or.inl f5)
  have F143 : Fld Z h136 a "com/example/murmuration/murmuration/search/IndexedSet" "positions" "[I" (.ref pos) := Fld.other W137 F132 (Or.inl f5)
  have F144 : Fld Z h136 a "com/example/murmuration/murmuration/search/IndexedSet" "size" "I" (.int (sz - (1 : Int32))) := Fld.other W137 F133 (Or.inl f5)
  have F145 : own_AI Z h136 mem n (own_upd fm ii lv) := own_A.other F134 W137 f6
  have F146 : own_AI Z h136 pos n (own_upd (own_upd fp li pv) xn (-1 : Int32)) := V138
  exact own_retV C rfl own_d9_45 (by decide) (by decide) (⟨rfl, K140, F141, F142, F143, (by rw [← hsz]; exact F144), F145, F146⟩)
set_option maxRecDepth 65536 in
set_option maxHeartbeats 40000000 in
theorem own_clear0 {l : Launch} {Z : State} {a0 : Array Value} (hw : ∀ d ∈ tables_1, d.before a0 Z = true) {n0 : Nat} {ws : List Jvm.Cond} {h : Heap} (a : Addr) (mem : Addr) (pos : Addr) (n : Nat) (fm : Nat → Int32) (fp : Nat → Int32) (Z0 : n0 ≤ h.size) (f0 : Exa Z h a "com/example/murmuration/murmuration/search/IndexedSet") (f1 : n0 ≤ a) (f2 : n0 ≤ mem) (f3 : n0 ≤ pos) (f4 : a ≠ mem) (f5 : a ≠ pos) (f6 : mem ≠ pos) (f7 : Fld Z h a "com/example/murmuration/murmuration/search/IndexedSet" "members" "[I" (.ref mem)) (f8 : Fld Z h a "com/example/murmuration/murmuration/search/IndexedSet" "positions" "[I" (.ref pos)) (f9 : Fld Z h a "com/example/murmuration/murmuration/search/IndexedSet" "size" "I" (.int (0 : Int32))) (f10 : own_AI Z h mem n fm) (f11 : own_AI Z h pos n fp) (hsn : 0 < n + 1) :
    own_Met l Z n0 (⟨"com/example/murmuration/murmuration/search/IndexedSet", "clear", "()V"⟩ : MethodName) prog_28_method_7_code 2 none ({ frames := 0, cells := 0, slots := 0, locals := 0 } : Room) ws #[(.ref a)] h (fun v h' => (v = none) ∧ (Keep h h' [a, mem, pos]) ∧ (Exa Z h' a "com/example/murmuration/murmuration/search/IndexedSet") ∧ (Fld Z h' a "com/example/murmuration/murmuration/search/IndexedSet" "members" "[I" (.ref mem)) ∧ (Fld Z h' a "com/example/murmuration/murmuration/search/IndexedSet" "positions" "[I" (.ref pos)) ∧ (Fld Z h' a "com/example/murmuration/murmuration/search/IndexedSet" "size" "I" (.int (0 : Int32))) ∧ (own_AI Z h' mem n fm) ∧ (own_AI Z h' pos n fp)) := by
  refine own_met own_pn1 #[.val (.ref a), .unset] (fun m => by first | (simp [entryFrame, mkF, argsToLocals, Value.category]; done) | rfl) ?_
  intro p_ e_ s_ m_ b_ mt_ c_ C
  replace C : own_Ctx p_ s_ m_ mt_ c_ Z "com/example/murmuration/murmuration/search/IndexedSet" "clear" prog_28_method_7_code 2 none := C
  have K0 : Keep h h [a, mem, pos] := Keep.refl _ _
  refine own_iconst C (pc' := 1) (v := (0 : Int32)) own_d4_0 rfl (by decide) ?_
  refine own_istoreN C (pc' := 2) (Ls' := #[.val (.ref a), .val (.int (0 : Int32))]) own_d4_1 rfl rfl ?_
  refine own_iloadN C (pc' := 3) own_d4_2 rfl rfl ?_
  refine own_aloadN C (pc' := 4) own_d4_3 rfl rfl rfl ?_
  refine own_getF C (pc' := 7) (hw _ (List.mem_of_getElem? (i := 23) rfl)) f9 own_d4_4 rfl ?_
  refine own_ii_ge C (pc1 := 28) (pc2 := 10) own_d4_7 rfl rfl (fun c147 => ?_) (fun c147 => absurd c147 (by decide))
  refine own_aloadN C (pc' := 29) own_d4_28 rfl rfl rfl ?_
  refine own_iconst C (pc' := 30) (v := (0 : Int32)) own_d4_29 rfl (by decide) ?_
  refine own_putF C (pc' := 33) (hw _ (List.mem_of_getElem? (i := 23) rfl)) f9 f0 (Or.inl (hw _ (List.mem_of_getElem? (i := 24) rfl))) (hw _ (List.mem_of_getElem? (i := 1) rfl)) (ty := .int) (by decide) rfl rfl f1 own_d4_30 rfl (fun h148 W149 => ?_)
  have Z150 : n0 ≤ h148.size := Nat.le_trans Z0 (Nat.le_of_eq (Wr.size W149).symm)
  have K151 := Keep.wr K0 W149 (Or.inl (List.mem_of_getElem? (i := 0) rfl))
  have F152 : Exa Z h148 a "com/example/murmuration/murmuration/search/IndexedSet" := Exa.wr W149 f0
  have F153 : Fld Z h148 a "com/example/murmuration/murmuration/search/IndexedSet" "members" "[I" (.ref mem) := Fld.other W149 f7 (Or.inr (slot_ne (Or.inr (hw _ (List.mem_of_getElem? (i := 11) rfl))) (Or.inl (hw _ (List.mem_of_getElem? (i := 24) rfl))) (by decide) (t := (.array .int)) (t' := .int) (by decide) (by decide)))
  have F154 : Fld Z h148 a "com/example/murmuration/murmuration/search/IndexedSet" "positions" "[I" (.ref pos) := Fld.other W149 f8 (Or.inr (slot_ne (Or.inr (hw _ (List.mem_of_getElem? (i := 13) rfl))) (Or.inl (hw _ (List.mem_of_getElem? (i := 24) rfl))) (by decide) (t := (.array .int)) (t' := .int) (by decide) (by decide)))
  have F155 : Fld Z h148 a "com/example/murmuration/murmuration/search/IndexedSet" "size" "I" (.int (0 : Int32)) := Fld.same W149 f9
  have F156 : own_AI Z h148 mem n fm := own_A.other f10 W149 (Ne.symm f4)
  have F157 : own_AI Z h148 pos n fp := own_A.other f11 W149 (Ne.symm f5)
  exact own_retV C rfl own_d4_33 (by decide) (by decide) (⟨rfl, K151, F152, F153, F154, F155, F156, F157⟩)
set_option maxRecDepth 65536 in
set_option maxHeartbeats 40000000 in
theorem own_clear1 {l : Launch} {Z : State} {a0 : Array Value} (hw : ∀ d ∈ tables_1, d.before a0 Z = true) {n0 : Nat} {ws : List Jvm.Cond} {h : Heap} (a : Addr) (mem : Addr) (pos : Addr) (n : Nat) (fm : Nat → Int32) (fp : Nat → Int32) (m0 : Int32) (k0 : Nat) (Z0 : n0 ≤ h.size) (f0 : Exa Z h a "com/example/murmuration/murmuration/search/IndexedSet") (f1 : n0 ≤ a) (f2 : n0 ≤ mem) (f3 : n0 ≤ pos) (f4 : a ≠ mem) (f5 : a ≠ pos) (f6 : mem ≠ pos) (f7 : Fld Z h a "com/example/murmuration/murmuration/search/IndexedSet" "members" "[I" (.ref mem)) (f8 : Fld Z h a "com/example/murmuration/murmuration/search/IndexedSet" "positions" "[I" (.ref pos)) (f9 : Fld Z h a "com/example/murmuration/murmuration/search/IndexedSet" "size" "I" (.int (1 : Int32))) (f10 : own_AI Z h mem n fm) (f11 : own_AI Z h pos n fp) (hsn : 1 < n + 1) (hm0 : fm 0 = m0) (hk0 : m0.toInt = (k0 : Int)) (hb0 : k0 < n) :
    own_Met l Z n0 (⟨"com/example/murmuration/murmuration/search/IndexedSet", "clear", "()V"⟩ : MethodName) prog_28_method_7_code 2 none ({ frames := 0, cells := 0, slots := 0, locals := 0 } : Room) ws #[(.ref a)] h (fun v h' => (v = none) ∧ (Keep h h' [a, mem, pos]) ∧ (Exa Z h' a "com/example/murmuration/murmuration/search/IndexedSet") ∧ (Fld Z h' a "com/example/murmuration/murmuration/search/IndexedSet" "members" "[I" (.ref mem)) ∧ (Fld Z h' a "com/example/murmuration/murmuration/search/IndexedSet" "positions" "[I" (.ref pos)) ∧ (Fld Z h' a "com/example/murmuration/murmuration/search/IndexedSet" "size" "I" (.int (0 : Int32))) ∧ (own_AI Z h' mem n fm) ∧ (own_AI Z h' pos n (own_upd fp k0 (-1 : Int32)))) := by
  refine own_met own_pn1 #[.val (.ref a), .unset] (fun m => by first | (simp [entryFrame, mkF, argsToLocals, Value.category]; done) | rfl) ?_
  intro p_ e_ s_ m_ b_ mt_ c_ C
  replace C : own_Ctx p_ s_ m_ mt_ c_ Z "com/example/murmuration/murmuration/search/IndexedSet" "clear" prog_28_method_7_code 2 none := C
  have K0 : Keep h h [a, mem, pos] := Keep.refl _ _
  refine own_iconst C (pc' := 1) (v := (0 : Int32)) own_d4_0 rfl (by decide) ?_
  refine own_istoreN C (pc' := 2) (Ls' := #[.val (.ref a), .val (.int (0 : Int32))]) own_d4_1 rfl rfl ?_
  refine own_iloadN C (pc' := 3) own_d4_2 rfl rfl ?_
  refine own_aloadN C (pc' := 4) own_d4_3 rfl rfl rfl ?_
  refine own_getF C (pc' := 7) (hw _ (List.mem_of_getElem? (i := 23) rfl)) f9 own_d4_4 rfl ?_
  refine own_ii_ge C (pc1 := 28) (pc2 := 10) own_d4_7 rfl rfl (fun c158 => absurd c158 (by decide)) (fun c158 => ?_)
  refine own_aloadN C (pc' := 11) own_d4_10 rfl rfl rfl ?_
  refine own_getF C (pc' := 14) (hw _ (List.mem_of_getElem? (i := 12) rfl)) f8 own_d4_11 rfl ?_
  refine own_aloadN C (pc' := 15) own_d4_14 rfl rfl rfl ?_
  refine own_getF C (pc' := 18) (hw _ (List.mem_of_getElem? (i := 10) rfl)) f7 own_d4_15 rfl ?_
  refine own_iloadN C (pc' := 19) own_d4_18 rfl rfl ?_
  refine own_ldIV C (pc' := 20) f10 (i := 0) (v := m0) (by decide) (by omega) hm0 own_d4_19 rfl ?_
  refine own_iconst C (pc' := 21) (v := (-1 : Int32)) own_d4_20 rfl (by decide) ?_
  refine own_stI C (pc' := 22) f11 (i := k0) hk0 hb0 f3 own_d4_21 rfl (fun h159 W160 V161 => ?_)
  have Z162 : n0 ≤ h159.size := Nat.le_trans Z0 (Nat.le_of_eq (Wr.size W160).symm)
  have K163 := Keep.wr K0 W160 (Or.inl (List.mem_of_getElem? (i := 2) rfl))
  have F164 : Exa Z h159 a "com/example/murmuration/murmuration/search/IndexedSet" := Exa.wr W160 f0
  have F165 : Fld Z h159 a "com/example/murmuration/murmuration/search/IndexedSet" "members" "[I" (.ref mem) := Fld.other W160 f7 (Or.inl f5)
  have F166 : Fld Z h159 a "com/example/murmuration/murmuration/search/IndexedSet" "positions" "[I" (.ref pos) := Fld.other W160 f8 (Or.inl f5)
  have F167 : Fld Z h159 a "com/example/murmuration/murmuration/search/IndexedSet" "size" "I" (.int (1 : Int32)) := Fld.other W160 f9 (Or.inl f5)
  have F168 : own_AI Z h159 mem n fm := own_A.other f10 W160 f6
  have F169 : own_AI Z h159 pos n (own_upd fp k0 (-1 : Int32)) := V161
  refine own_iincV C (pc' := 25) (w := (1 : Int32)) (x := (1 : Int32)) (Ls' := #[.val (.ref a), .val (.int (1 : Int32))]) own_d4_22 rfl (by decide) (by decide) rfl rfl ?_
  refine own_goto C (pc' := 2) own_d4_25 rfl ?_
  refine own_iloadN C (pc' := 3) own_d4_2 rfl rfl ?_
  refine own_aloadN C (pc' := 4) own_d4_3 rfl rfl rfl ?_
  refine own_getF C (pc' := 7) (hw _ (List.mem_of_getElem? (i := 23) rfl)) F167 own_d4_4 rfl ?_
  refine own_ii_ge C (pc1 := 28) (pc2 := 10) own_d4_7 rfl rfl (fun c170 => ?_) (fun c170 => absurd c170 (by decide))
  refine own_aloadN C (pc' := 29) own_d4_28 rfl rfl rfl ?_
  refine own_iconst C (pc' := 30) (v := (0 : Int32)) own_d4_29 rfl (by decide) ?_
  refine own_putF C (pc' := 33) (hw _ (List.mem_of_getElem? (i := 23) rfl)) F167 F164 (Or.inl (hw _ (List.mem_of_getElem? (i := 24) rfl))) (hw _ (List.mem_of_getElem? (i := 1) rfl)) (ty := .int) (by decide) rfl rfl f1 own_d4_30 rfl (fun h171 W172 => ?_)
  have Z173 : n0 ≤ h171.size := Nat.le_trans Z162 (Nat.le_of_eq (Wr.size W172).symm)
  have K174 := Keep.wr K163 W172 (Or.inl (List.mem_of_getElem? (i := 0) rfl))
  have F175 : Exa Z h171 a "com/example/murmuration/murmuration/search/IndexedSet" := Exa.wr W172 F164
  have F176 : Fld Z h171 a "com/example/murmuration/murmuration/search/IndexedSet" "members" "[I" (.ref mem) := Fld.other W172 F165 (Or.inr (slot_ne (Or.inr (hw _ (List.mem_of_getElem? (i := 11) rfl))) (Or.inl (hw _ (List.mem_of_getElem? (i := 24) rfl))) (by decide) (t := (.array .int)) (t' := .int) (by decide) (by decide)))
  have F177 : Fld Z h171 a "com/example/murmuration/murmuration/search/IndexedSet" "positions" "[I" (.ref pos) := Fld.other W172 F166 (Or.inr (slot_ne (Or.inr (hw _ (List.mem_of_getElem? (i := 13) rfl))) (Or.inl (hw _ (List.mem_of_getElem? (i := 24) rfl))) (by decide) (t := (.array .int)) (t' := .int) (by decide) (by decide)))
  have F178 : Fld Z h171 a "com/example/murmuration/murmuration/search/IndexedSet" "size" "I" (.int (0 : Int32)) := Fld.same W172 F167
  have F179 : own_AI Z h171 mem n fm := own_A.other F168 W172 (Ne.symm f4)
  have F180 : own_AI Z h171 pos n (own_upd fp k0 (-1 : Int32)) := own_A.other F169 W172 (Ne.symm f5)
  exact own_retV C rfl own_d4_33 (by decide) (by decide) (⟨rfl, K174, F175, F176, F177, F178, F179, F180⟩)
set_option maxRecDepth 65536 in
set_option maxHeartbeats 40000000 in
theorem own_clear2 {l : Launch} {Z : State} {a0 : Array Value} (hw : ∀ d ∈ tables_1, d.before a0 Z = true) {n0 : Nat} {ws : List Jvm.Cond} {h : Heap} (a : Addr) (mem : Addr) (pos : Addr) (n : Nat) (fm : Nat → Int32) (fp : Nat → Int32) (m0 : Int32) (m1 : Int32) (k0 : Nat) (k1 : Nat) (Z0 : n0 ≤ h.size) (f0 : Exa Z h a "com/example/murmuration/murmuration/search/IndexedSet") (f1 : n0 ≤ a) (f2 : n0 ≤ mem) (f3 : n0 ≤ pos) (f4 : a ≠ mem) (f5 : a ≠ pos) (f6 : mem ≠ pos) (f7 : Fld Z h a "com/example/murmuration/murmuration/search/IndexedSet" "members" "[I" (.ref mem)) (f8 : Fld Z h a "com/example/murmuration/murmuration/search/IndexedSet" "positions" "[I" (.ref pos)) (f9 : Fld Z h a "com/example/murmuration/murmuration/search/IndexedSet" "size" "I" (.int (2 : Int32))) (f10 : own_AI Z h mem n fm) (f11 : own_AI Z h pos n fp) (hsn : 2 < n + 1) (hm0 : fm 0 = m0) (hk0 : m0.toInt = (k0 : Int)) (hb0 : k0 < n) (hm1 : fm 1 = m1) (hk1 : m1.toInt = (k1 : Int)) (hb1 : k1 < n) :
    own_Met l Z n0 (⟨"com/example/murmuration/murmuration/search/IndexedSet", "clear", "()V"⟩ : MethodName) prog_28_method_7_code 2 none ({ frames := 0, cells := 0, slots := 0, locals := 0 } : Room) ws #[(.ref a)] h (fun v h' => (v = none) ∧ (Keep h h' [a, mem, pos]) ∧ (Exa Z h' a "com/example/murmuration/murmuration/search/IndexedSet") ∧ (Fld Z h' a "com/example/murmuration/murmuration/search/IndexedSet" "members" "[I" (.ref mem)) ∧ (Fld Z h' a "com/example/murmuration/murmuration/search/IndexedSet" "positions" "[I" (.ref pos)) ∧ (Fld Z h' a "com/example/murmuration/murmuration/search/IndexedSet" "size" "I" (.int (0 : Int32))) ∧ (own_AI Z h' mem n fm) ∧ (own_AI Z h' pos n (own_upd (own_upd fp k0 (-1 : Int32)) k1 (-1 : Int32)))) := by
  refine own_met own_pn1 #[.val (.ref a), .unset] (fun m => by first | (simp [entryFrame, mkF, argsToLocals, Value.category]; done) | rfl) ?_
  intro p_ e_ s_ m_ b_ mt_ c_ C
  replace C : own_Ctx p_ s_ m_ mt_ c_ Z "com/example/murmuration/murmuration/search/IndexedSet" "clear" prog_28_method_7_code 2 none := C
  have K0 : Keep h h [a, mem, pos] := Keep.refl _ _
  refine own_iconst C (pc' := 1) (v := (0 : Int32)) own_d4_0 rfl (by decide) ?_
  refine own_istoreN C (pc' := 2) (Ls' := #[.val (.ref a), .val (.int (0 : Int32))]) own_d4_1 rfl rfl ?_
  refine own_iloadN C (pc' := 3) own_d4_2 rfl rfl ?_
  refine own_aloadN C (pc' := 4) own_d4_3 rfl rfl rfl ?_
  refine own_getF C (pc' := 7) (hw _ (List.mem_of_getElem? (i := 23) rfl)) f9 own_d4_4 rfl ?_
  refine own_ii_ge C (pc1 := 28) (pc2 := 10) own_d4_7 rfl rfl (fun c181 => absurd c181 (by decide)) (fun c181 => ?_)
  refine own_aloadN C (pc' := 11) own_d4_10 rfl rfl rfl ?_
  refine own_getF C (pc' := 14) (hw _ (List.mem_of_getElem? (i := 12) rfl)) f8 own_d4_11 rfl ?_
  refine own_aloadN C (pc' := 15) own_d4_14 rfl rfl rfl ?_
  refine own_getF C (pc' := 18) (hw _ (List.mem_of_getElem? (i := 10) rfl)) f7 own_d4_15 rfl ?_
  refine own_iloadN C (pc' := 19) own_d4_18 rfl rfl ?_
  refine own_ldIV C (pc' := 20) f10 (i := 0) (v := m0) (by decide) (by omega) hm0 own_d4_19 rfl ?_
  refine own_iconst C (pc' := 21) (v := (-1 : Int32)) own_d4_20 rfl (by decide) ?_
  refine own_stI C (pc' := 22) f11 (i := k0) hk0 hb0 f3 own_d4_21 rfl (fun h182 W183 V184 => ?_)
  have Z185 : n0 ≤ h182.size := Nat.le_trans Z0 (Nat.le_of_eq (Wr.size W183).symm)
  have K186 := Keep.wr K0 W183 (Or.inl (List.mem_of_getElem? (i := 2) rfl))
  have F187 : Exa Z h182 a "com/example/murmuration/murmuration/search/IndexedSet" := Exa.wr W183 f0
  have F188 : Fld Z h182 a "com/example/murmuration/murmuration/search/IndexedSet" "members" "[I" (.ref mem) := Fld.other W183 f7 (Or.inl f5)
  have F189 : Fld Z h182 a "com/example/murmuration/murmuration/search/IndexedSet" "positions" "[I" (.ref pos) := Fld.other W183 f8 (Or.inl f5)
  have F190 : Fld Z h182 a "com/example/murmuration/murmuration/search/IndexedSet" "size" "I" (.int (2 : Int32)) := Fld.other W183 f9 (Or.inl f5)
  have F191 : own_AI Z h182 mem n fm := own_A.other f10 W183 f6
  have F192 : own_AI Z h182 pos n (own_upd fp k0 (-1 : Int32)) := V184
  refine own_iincV C (pc' := 25) (w := (1 : Int32)) (x := (1 : Int32)) (Ls' := #[.val (.ref a), .val (.int (1 : Int32))]) own_d4_22 rfl (by decide) (by decide) rfl rfl ?_
  refine own_goto C (pc' := 2) own_d4_25 rfl ?_
  refine own_iloadN C (pc' := 3) own_d4_2 rfl rfl ?_
  refine own_aloadN C (pc' := 4) own_d4_3 rfl rfl rfl ?_
  refine own_getF C (pc' := 7) (hw _ (List.mem_of_getElem? (i := 23) rfl)) F190 own_d4_4 rfl ?_
  refine own_ii_ge C (pc1 := 28) (pc2 := 10) own_d4_7 rfl rfl (fun c193 => absurd c193 (by decide)) (fun c193 => ?_)
  refine own_aloadN C (pc' := 11) own_d4_10 rfl rfl rfl ?_
  refine own_getF C (pc' := 14) (hw _ (List.mem_of_getElem? (i := 12) rfl)) F189 own_d4_11 rfl ?_
  refine own_aloadN C (pc' := 15) own_d4_14 rfl rfl rfl ?_
  refine own_getF C (pc' := 18) (hw _ (List.mem_of_getElem? (i := 10) rfl)) F188 own_d4_15 rfl ?_
  refine own_iloadN C (pc' := 19) own_d4_18 rfl rfl ?_
  refine own_ldIV C (pc' := 20) F191 (i := 1) (v := m1) (by decide) (by omega) hm1 own_d4_19 rfl ?_
  refine own_iconst C (pc' := 21) (v := (-1 : Int32)) own_d4_20 rfl (by decide) ?_
  refine own_stI C (pc' := 22) F192 (i := k1) hk1 hb1 f3 own_d4_21 rfl (fun h194 W195 V196 => ?_)
  have Z197 : n0 ≤ h194.size := Nat.le_trans Z185 (Nat.le_of_eq (Wr.size W195).symm)
  have K198 := Keep.wr K186 W195 (Or.inl (List.mem_of_getElem? (i := 2) rfl))
  have F199 : Exa Z h194 a "com/example/murmuration/murmuration/search/IndexedSet" := Exa.wr W195 F187
  have F200 : Fld Z h194 a "com/example/murmuration/murmuration/search/IndexedSet" "members" "[I" (.ref mem) := Fld.other W195 F188 (Or.inl f5)
  have F201 : Fld Z h194 a "com/example/murmuration/murmuration/search/IndexedSet" "positions" "[I" (.ref pos) := Fld.other W195 F189 (Or.inl f5)
  have F202 : Fld Z h194 a "com/example/murmuration/murmuration/search/IndexedSet" "size" "I" (.int (2 : Int32)) := Fld.other W195 F190 (Or.inl f5)
  have F203 : own_AI Z h194 mem n fm := own_A.other F191 W195 f6
  have F204 : own_AI Z h194 pos n (own_upd (own_upd fp k0 (-1 : Int32)) k1 (-1 : Int32)) := V196
  refine own_iincV C (pc' := 25) (w := (1 : Int32)) (x := (2 : Int32)) (Ls' := #[.val (.ref a), .val (.int (2 : Int32))]) own_d4_22 rfl (by decide) (by decide) rfl rfl ?_
  refine own_goto C (pc' := 2) own_d4_25 rfl ?_
  refine own_iloadN C (pc' := 3) own_d4_2 rfl rfl ?_
  refine own_aloadN C (pc' := 4) own_d4_3 rfl rfl rfl ?_
  refine own_getF C (pc' := 7) (hw _ (List.mem_of_getElem? (i := 23) rfl)) F202 own_d4_4 rfl ?_
  refine own_ii_ge C (pc1 := 28) (pc2 := 10) own_d4_7 rfl rfl (fun c205 => ?_) (fun c205 => absurd c205 (by decide))
  refine own_aloadN C (pc' := 29) own_d4_28 rfl rfl rfl ?_
  refine own_iconst C (pc' := 30) (v := (0 : Int32)) own_d4_29 rfl (by decide) ?_
  refine own_putF C (pc' := 33) (hw _ (List.mem_of_getElem? (i := 23) rfl)) F202 F199 (Or.inl (hw _ (List.mem_of_getElem? (i := 24) rfl))) (hw _ (List.mem_of_getElem? (i := 1) rfl)) (ty := .int) (by decide) rfl rfl f1 own_d4_30 rfl (fun h206 W207 => ?_)
  have Z208 : n0 ≤ h206.size := Nat.le_trans Z197 (Nat.le_of_eq (Wr.size W207).symm)
  have K209 := Keep.wr K198 W207 (Or.inl (List.mem_of_getElem? (i := 0) rfl))
  have F210 : Exa Z h206 a "com/example/murmuration/murmuration/search/IndexedSet" := Exa.wr W207 F199
  have F211 : Fld Z h206 a "com/example/murmuration/murmuration/search/IndexedSet" "members" "[I" (.ref mem) := Fld.other W207 F200 (Or.inr (slot_ne (Or.inr (hw _ (List.mem_of_getElem? (i := 11) rfl))) (Or.inl (hw _ (List.mem_of_getElem? (i := 24) rfl))) (by decide) (t := (.array .int)) (t' := .int) (by decide) (by decide)))
  have F212 : Fld Z h206 a "com/example/murmuration/murmuration/search/IndexedSet" "positions" "[I" (.ref pos) := Fld.other W207 F201 (Or.inr (slot_ne (Or.inr (hw _ (List.mem_of_getElem? (i := 13) rfl))) (Or.inl (hw _ (List.mem_of_getElem? (i := 24) rfl))) (by decide) (t := (.array .int)) (t' := .int) (by decide) (by decide)))
  have F213 : Fld Z h206 a "com/example/murmuration/murmuration/search/IndexedSet" "size" "I" (.int (0 : Int32)) := Fld.same W207 F202
  have F214 : own_AI Z h206 mem n fm := own_A.other F203 W207 (Ne.symm f4)
  have F215 : own_AI Z h206 pos n (own_upd (own_upd fp k0 (-1 : Int32)) k1 (-1 : Int32)) := own_A.other F204 W207 (Ne.symm f5)
  exact own_retV C rfl own_d4_33 (by decide) (by decide) (⟨rfl, K209, F210, F211, F212, F213, F214, F215⟩)
set_option maxRecDepth 65536 in
set_option maxHeartbeats 40000000 in
theorem own_clear3 {l : Launch} {Z : State} {a0 : Array Value} (hw : ∀ d ∈ tables_1, d.before a0 Z = true) {n0 : Nat} {ws : List Jvm.Cond} {h : Heap} (a : Addr) (mem : Addr) (pos : Addr) (n : Nat) (fm : Nat → Int32) (fp : Nat → Int32) (m0 : Int32) (m1 : Int32) (m2 : Int32) (k0 : Nat) (k1 : Nat) (k2 : Nat) (Z0 : n0 ≤ h.size) (f0 : Exa Z h a "com/example/murmuration/murmuration/search/IndexedSet") (f1 : n0 ≤ a) (f2 : n0 ≤ mem) (f3 : n0 ≤ pos) (f4 : a ≠ mem) (f5 : a ≠ pos) (f6 : mem ≠ pos) (f7 : Fld Z h a "com/example/murmuration/murmuration/search/IndexedSet" "members" "[I" (.ref mem)) (f8 : Fld Z h a "com/example/murmuration/murmuration/search/IndexedSet" "positions" "[I" (.ref pos)) (f9 : Fld Z h a "com/example/murmuration/murmuration/search/IndexedSet" "size" "I" (.int (3 : Int32))) (f10 : own_AI Z h mem n fm) (f11 : own_AI Z h pos n fp) (hsn : 3 < n + 1) (hm0 : fm 0 = m0) (hk0 : m0.toInt = (k0 : Int)) (hb0 : k0 < n) (hm1 : fm 1 = m1) (hk1 : m1.toInt = (k1 : Int)) (hb1 : k1 < n) (hm2 : fm 2 = m2) (hk2 : m2.toInt = (k2 : Int)) (hb2 : k2 < n) :
    own_Met l Z n0 (⟨"com/example/murmuration/murmuration/search/IndexedSet", "clear", "()V"⟩ : MethodName) prog_28_method_7_code 2 none ({ frames := 0, cells := 0, slots := 0, locals := 0 } : Room) ws #[(.ref a)] h (fun v h' => (v = none) ∧ (Keep h h' [a, mem, pos]) ∧ (Exa Z h' a "com/example/murmuration/murmuration/search/IndexedSet") ∧ (Fld Z h' a "com/example/murmuration/murmuration/search/IndexedSet" "members" "[I" (.ref mem)) ∧ (Fld Z h' a "com/example/murmuration/murmuration/search/IndexedSet" "positions" "[I" (.ref pos)) ∧ (Fld Z h' a "com/example/murmuration/murmuration/search/IndexedSet" "size" "I" (.int (0 : Int32))) ∧ (own_AI Z h' mem n fm) ∧ (own_AI Z h' pos n (own_upd (own_upd (own_upd fp k0 (-1 : Int32)) k1 (-1 : Int32)) k2 (-1 : Int32)))) := by
  refine own_met own_pn1 #[.val (.ref a), .unset] (fun m => by first | (simp [entryFrame, mkF, argsToLocals, Value.category]; done) | rfl) ?_
  intro p_ e_ s_ m_ b_ mt_ c_ C
  replace C : own_Ctx p_ s_ m_ mt_ c_ Z "com/example/murmuration/murmuration/search/IndexedSet" "clear" prog_28_method_7_code 2 none := C
  have K0 : Keep h h [a, mem, pos] := Keep.refl _ _
  refine own_iconst C (pc' := 1) (v := (0 : Int32)) own_d4_0 rfl (by decide) ?_
  refine own_istoreN C (pc' := 2) (Ls' := #[.val (.ref a), .val (.int (0 : Int32))]) own_d4_1 rfl rfl ?_
  refine own_iloadN C (pc' := 3) own_d4_2 rfl rfl ?_
  refine own_aloadN C (pc' := 4) own_d4_3 rfl rfl rfl ?_
  refine own_getF C (pc' := 7) (hw _ (List.mem_of_getElem? (i := 23) rfl)) f9 own_d4_4 rfl ?_
  refine own_ii_ge C (pc1 := 28) (pc2 := 10) own_d4_7 rfl rfl (fun c216 => absurd c216 (by decide)) (fun c216 => ?_)
  refine own_aloadN C (pc' := 11) own_d4_10 rfl rfl rfl ?_
  refine own_getF C (pc' := 14) (hw _ (List.mem_of_getElem? (i := 12) rfl)) f8 own_d4_11 rfl ?_
  refine own_aloadN C (pc' := 15) own_d4_14 rfl rfl rfl ?_
  refine own_getF C (pc' := 18) (hw _ (List.mem_of_getElem? (i := 10) rfl)) f7 own_d4_15 rfl ?_
  refine own_iloadN C (pc' := 19) own_d4_18 rfl rfl ?_
  refine own_ldIV C (pc' := 20) f10 (i := 0) (v := m0) (by decide) (by omega) hm0 own_d4_19 rfl ?_
  refine own_iconst C (pc' := 21) (v := (-1 : Int32)) own_d4_20 rfl (by decide) ?_
  refine own_stI C (pc' := 22) f11 (i := k0) hk0 hb0 f3 own_d4_21 rfl (fun h217 W218 V219 => ?_)
  have Z220 : n0 ≤ h217.size := Nat.le_trans Z0 (Nat.le_of_eq (Wr.size W218).symm)
  have K221 := Keep.wr K0 W218 (Or.inl (List.mem_of_getElem? (i := 2) rfl))
  have F222 : Exa Z h217 a "com/example/murmuration/murmuration/search/IndexedSet" := Exa.wr W218 f0
  have F223 : Fld Z h217 a "com/example/murmuration/murmuration/search/IndexedSet" "members" "[I" (.ref mem) := Fld.other W218 f7 (Or.inl f5)
  have F224 : Fld Z h217 a "com/example/murmuration/murmuration/search/IndexedSet" "positions" "[I" (.ref pos) := Fld.other W218 f8 (Or.inl f5)
  have F225 : Fld Z h217 a "com/example/murmuration/murmuration/search/IndexedSet" "size" "I" (.int (3 : Int32)) := Fld.other W218 f9 (Or.inl f5)
  have F226 : own_AI Z h217 mem n fm := own_A.other f10 W218 f6
  have F227 : own_AI Z h217 pos n (own_upd fp k0 (-1 : Int32)) := V219
  refine own_iincV C (pc' := 25) (w := (1 : Int32)) (x := (1 : Int32)) (Ls' := #[.val (.ref a), .val (.int (1 : Int32))]) own_d4_22 rfl (by decide) (by decide) rfl rfl ?_
  refine own_goto C (pc' := 2) own_d4_25 rfl ?_
  refine own_iloadN C (pc' := 3) own_d4_2 rfl rfl ?_
  refine own_aloadN C (pc' := 4) own_d4_3 rfl rfl rfl ?_
  refine own_getF C (pc' := 7) (hw _ (List.mem_of_getElem? (i := 23) rfl)) F225 own_d4_4 rfl ?_
  refine own_ii_ge C (pc1 := 28) (pc2 := 10) own_d4_7 rfl rfl (fun c228 => absurd c228 (by decide)) (fun c228 => ?_)
  refine own_aloadN C (pc' := 11) own_d4_10 rfl rfl rfl ?_
  refine own_getF C (pc' := 14) (hw _ (List.mem_of_getElem? (i := 12) rfl)) F224 own_d4_11 rfl ?_
  refine own_aloadN C (pc' := 15) own_d4_14 rfl rfl rfl ?_
  refine own_getF C (pc' := 18) (hw _ (List.mem_of_getElem? (i := 10) rfl)) F223 own_d4_15 rfl ?_
  refine own_iloadN C (pc' := 19) own_d4_18 rfl rfl ?_
  refine own_ldIV C (pc' := 20) F226 (i := 1) (v := m1) (by decide) (by omega) hm1 own_d4_19 rfl ?_
  refine own_iconst C (pc' := 21) (v := (-1 : Int32)) own_d4_20 rfl (by decide) ?_
  refine own_stI C (pc' := 22) F227 (i := k1) hk1 hb1 f3 own_d4_21 rfl (fun h229 W230 V231 => ?_)
  have Z232 : n0 ≤ h229.size := Nat.le_trans Z220 (Nat.le_of_eq (Wr.size W230).symm)
  have K233 := Keep.wr K221 W230 (Or.inl (List.mem_of_getElem? (i := 2) rfl))
  have F234 : Exa Z h229 a "com/example/murmuration/murmuration/search/IndexedSet" := Exa.wr W230 F222
  have F235 : Fld Z h229 a "com/example/murmuration/murmuration/search/IndexedSet" "members" "[I" (.ref mem) := Fld.other W230 F223 (Or.inl f5)
  have F236 : Fld Z h229 a "com/example/murmuration/murmuration/search/IndexedSet" "positions" "[I" (.ref pos) := Fld.other W230 F224 (Or.inl f5)
  have F237 : Fld Z h229 a "com/example/murmuration/murmuration/search/IndexedSet" "size" "I" (.int (3 : Int32)) := Fld.other W230 F225 (Or.inl f5)
  have F238 : own_AI Z h229 mem n fm := own_A.other F226 W230 f6
  have F239 : own_AI Z h229 pos n (own_upd (own_upd fp k0 (-1 : Int32)) k1 (-1 : Int32)) := V231
  refine own_iincV C (pc' := 25) (w := (1 : Int32)) (x := (2 : Int32)) (Ls' := #[.val (.ref a), .val (.int (2 : Int32))]) own_d4_22 rfl (by decide) (by decide) rfl rfl ?_
  refine own_goto C (pc' := 2) own_d4_25 rfl ?_
  refine own_iloadN C (pc' := 3) own_d4_2 rfl rfl ?_
  refine own_aloadN C (pc' := 4) own_d4_3 rfl rfl rfl ?_
  refine own_getF C (pc' := 7) (hw _ (List.mem_of_getElem? (i := 23) rfl)) F237 own_d4_4 rfl ?_
  refine own_ii_ge C (pc1 := 28) (pc2 := 10) own_d4_7 rfl rfl (fun c240 => absurd c240 (by decide)) (fun c240 => ?_)
  refine own_aloadN C (pc' := 11) own_d4_10 rfl rfl rfl ?_
  refine own_getF C (pc' := 14) (hw _ (List.mem_of_getElem? (i := 12) rfl)) F236 own_d4_11 rfl ?_
  refine own_aloadN C (pc' := 15) own_d4_14 rfl rfl rfl ?_
  refine own_getF C (pc' := 18) (hw _ (List.mem_of_getElem? (i := 10) rfl)) F235 own_d4_15 rfl ?_
  refine own_iloadN C (pc' := 19) own_d4_18 rfl rfl ?_
  refine own_ldIV C (pc' := 20) F238 (i := 2) (v := m2) (by decide) (by omega) hm2 own_d4_19 rfl ?_
  refine own_iconst C (pc' := 21) (v := (-1 : Int32)) own_d4_20 rfl (by decide) ?_
  refine own_stI C (pc' := 22) F239 (i := k2) hk2 hb2 f3 own_d4_21 rfl (fun h241 W242 V243 => ?_)
  have Z244 : n0 ≤ h241.size := Nat.le_trans Z232 (Nat.le_of_eq (Wr.size W242).symm)
  have K245 := Keep.wr K233 W242 (Or.inl (List.mem_of_getElem? (i := 2) rfl))
  have F246 : Exa Z h241 a "com/example/murmuration/murmuration/search/IndexedSet" := Exa.wr W242 F234
  have F247 : Fld Z h241 a "com/example/murmuration/murmuration/search/IndexedSet" "members" "[I" (.ref mem) := Fld.other W242 F235 (Or.inl f5)
  have F248 : Fld Z h241 a "com/example/murmuration/murmuration/search/IndexedSet" "positions" "[I" (.ref pos) := Fld.other W242 F236 (Or.inl f5)
  have F249 : Fld Z h241 a "com/example/murmuration/murmuration/search/IndexedSet" "size" "I" (.int (3 : Int32)) := Fld.other W242 F237 (Or.inl f5)
  have F250 : own_AI Z h241 mem n fm := own_A.other F238 W242 f6
  have F251 : own_AI Z h241 pos n (own_upd (own_upd (own_upd fp k0 (-1 : Int32)) k1 (-1 : Int32)) k2 (-1 : Int32)) := V243
  refine own_iincV C (pc' := 25) (w := (1 : Int32)) (x := (3 : Int32)) (Ls' := #[.val (.ref a), .val (.int (3 : Int32))]) own_d4_22 rfl (by decide) (by decide) rfl rfl ?_
  refine own_goto C (pc' := 2) own_d4_25 rfl ?_
  refine own_iloadN C (pc' := 3) own_d4_2 rfl rfl ?_
  refine own_aloadN C (pc' := 4) own_d4_3 rfl rfl rfl ?_
  refine own_getF C (pc' := 7) (hw _ (List.mem_of_getElem? (i := 23) rfl)) F249 own_d4_4 rfl ?_
  refine own_ii_ge C (pc1 := 28) (pc2 := 10) own_d4_7 rfl rfl (fun c252 => ?_) (fun c252 => absurd c252 (by decide))
  refine own_aloadN C (pc' := 29) own_d4_28 rfl rfl rfl ?_
  refine own_iconst C (pc' := 30) (v := (0 : Int32)) own_d4_29 rfl (by decide) ?_
  refine own_putF C (pc' := 33) (hw _ (List.mem_of_getElem? (i := 23) rfl)) F249 F246 (Or.inl (hw _ (List.mem_of_getElem? (i := 24) rfl))) (hw _ (List.mem_of_getElem? (i := 1) rfl)) (ty := .int) (by decide) rfl rfl f1 own_d4_30 rfl (fun h253 W254 => ?_)
  have Z255 : n0 ≤ h253.size := Nat.le_trans Z244 (Nat.le_of_eq (Wr.size W254).symm)
  have K256 := Keep.wr K245 W254 (Or.inl (List.mem_of_getElem? (i := 0) rfl))
  have F257 : Exa Z h253 a "com/example/murmuration/murmuration/search/IndexedSet" := Exa.wr W254 F246
  have F258 : Fld Z h253 a "com/example/murmuration/murmuration/search/IndexedSet" "members" "[I" (.ref mem) := Fld.other W254 F247 (Or.inr (slot_ne (Or.inr (hw _ (List.mem_of_getElem? (i := 11) rfl))) (Or.inl (hw _ (List.mem_of_getElem? (i := 24) rfl))) (by decide) (t := (.array .int)) (t' := .int) (by decide) (by decide)))
  have F259 : Fld Z h253 a "com/example/murmuration/murmuration/search/IndexedSet" "positions" "[I" (.ref pos) := Fld.other W254 F248 (Or.inr (slot_ne (Or.inr (hw _ (List.mem_of_getElem? (i := 13) rfl))) (Or.inl (hw _ (List.mem_of_getElem? (i := 24) rfl))) (by decide) (t := (.array .int)) (t' := .int) (by decide) (by decide)))
  have F260 : Fld Z h253 a "com/example/murmuration/murmuration/search/IndexedSet" "size" "I" (.int (0 : Int32)) := Fld.same W254 F249
  have F261 : own_AI Z h253 mem n fm := own_A.other F250 W254 (Ne.symm f4)
  have F262 : own_AI Z h253 pos n (own_upd (own_upd (own_upd fp k0 (-1 : Int32)) k1 (-1 : Int32)) k2 (-1 : Int32)) := own_A.other F251 W254 (Ne.symm f5)
  exact own_retV C rfl own_d4_33 (by decide) (by decide) (⟨rfl, K256, F257, F258, F259, F260, F261, F262⟩)
set_option maxRecDepth 65536 in
set_option maxHeartbeats 40000000 in
theorem own_law {l : Launch} {Z : State} {a0 : Array Value} (hw : ∀ d ∈ tables_1, d.before a0 Z = true) {n0 : Nat} {ws : List Jvm.Cond} {h : Heap} (p0 : Int32) (p1 : Int32) (Z0 : n0 ≤ h.size) :
    own_Met l Z n0 x code maxLocals ret room_1 ws #[(.int p0), (.int p1)] h (fun v h' => v = some (.int 1)) := by
  refine own_met own_pn2 #[.val (.int p0), .val (.int p1), .unset, .unset, .unset, .unset, .unset, .unset] (fun m => by first | (simp [entryFrame, mkF, argsToLocals, Value.category, maxLocals]; done) | rfl) ?_
  intro p_ e_ s_ m_ b_ mt_ c_ C
  replace C : own_Ctx p_ s_ m_ mt_ c_ Z "com/example/murmuration/murmuration/search/IndexedSetClearPinLaw" "law" code maxLocals ret := C
  refine own_new C (pc' := 3) (hw _ (List.mem_of_getElem? (i := 0) rfl)) (hw _ (List.mem_of_getElem? (i := 1) rfl)) (hw _ (List.mem_of_getElem? (i := 2) rfl)) Z0 at_0 rfl (by decide) (by decide) (fun h263 a264 ea265 ga266 Z267 E268 A269 D270 => ?_)
  have F271 : Fld Z h263 a264 "com/example/murmuration/murmuration/search/IndexedSet" "members" "[I" .null := D270 (Or.inr (hw _ (List.mem_of_getElem? (i := 11) rfl))) (ty := (.array .int)) (by decide)
  have F272 : Fld Z h263 a264 "com/example/murmuration/murmuration/search/IndexedSet" "positions" "[I" .null := D270 (Or.inr (hw _ (List.mem_of_getElem? (i := 13) rfl))) (ty := (.array .int)) (by decide)
  have F273 : Fld Z h263 a264 "com/example/murmuration/murmuration/search/IndexedSet" "size" "I" (.int (0 : Int32)) := D270 (Or.inl (hw _ (List.mem_of_getElem? (i := 24) rfl))) (ty := .int) (by decide)
  refine own_dup C (pc' := 4) at_3 rfl rfl ?_
  refine own_iconst C (pc' := 5) (v := (3 : Int32)) at_4 rfl (by decide) ?_
  refine own_callN C (pc' := 8) (y := (⟨"com/example/murmuration/murmuration/search/IndexedSet", "<init>", "(I)V"⟩ : MethodName)) (a := a264) (argsL := [(.int (3 : Int32))]) (rest := [(.ref a264)]) 1 rfl (hw _ (List.mem_of_getElem? (i := 3) rfl)) (hw _ (List.mem_of_getElem? (i := 4) rfl)) (hw _ (List.mem_of_getElem? (i := 5) rfl)) (hw _ (List.mem_of_getElem? (i := 2) rfl)) (by decide) (own_m1 hw a264 (3 : Int32) 3 Z267 A269 ga266 F271 F272 F273 (by decide) (by omega)) (by decide) (by decide) (lenOf own_pd1 rfl) rfl (Nat.le_of_eq rfl) at_5 rfl rfl (by decide) (by decide) (fun v274 h275 hq276 => ?_)
  obtain ⟨a277, a278, rfl, K279, ⟨ga280, gk281⟩, ⟨ga282, gk283⟩, F284, F285, F286, F287, F288, F289, F290, F291, F292⟩ := hq276
  have ne293 : a264 ≠ a277 := Nat.ne_of_lt (Nat.lt_of_lt_of_le (Exa.lt A269) gk281)
  have ne294 : a264 ≠ a278 := Nat.ne_of_lt (Nat.lt_of_lt_of_le (Exa.lt A269) gk283)
  have Z296 : n0 ≤ h275.size := Nat.le_trans Z267 K279.1
  have F297 : Exa Z h275 a264 "com/example/murmuration/murmuration/search/IndexedSet" := Exa.keep A269 K279
  show own_Run p_ l e_ _ s_ m_ _ b_ mt_ c_ n0 _ h275 _ _ (mkF m_ 8 #[.val (.int p0), .val (.int p1), .unset, .unset, .unset, .unset, .unset, .unset] [(.ref a264)])
  refine own_astoreN C (pc' := 9) (Ls' := #[.val (.int p0), .val (.int p1), .val (.ref a264), .unset, .unset, .unset, .unset, .unset]) at_8 rfl rfl rfl ?_
  refine own_iloadN C (pc' := 10) at_9 rfl rfl ?_
  refine own_iconst C (pc' := 11) (v := (1 : Int32)) at_10 rfl (by decide) ?_
  refine own_iand C (pc' := 12) at_11 rfl ?_
  refine own_i0_eq C (pc1 := 19) (pc2 := 15) at_12 rfl rfl (fun c298 => ?_) (fun c298 => ?_)
  · skip
    refine own_iconst C (pc' := 20) (v := (0 : Int32)) at_19 rfl (by decide) ?_
    refine own_istoreN C (pc' := 21) (Ls' := #[.val (.int p0), .val (.int p1), .val (.ref a264), .val (.int (0 : Int32)), .unset, .unset, .unset, .unset]) at_20 rfl rfl ?_
    refine own_iloadN C (pc' := 22) at_21 rfl rfl ?_
    refine own_iconst C (pc' := 23) (v := (2 : Int32)) at_22 rfl (by decide) ?_
    refine own_iand C (pc' := 24) at_23 rfl ?_
    refine own_i0_eq C (pc1 := 31) (pc2 := 27) at_24 rfl rfl (fun c299 => ?_) (fun c299 => ?_)
    · skip
      refine own_iconst C (pc' := 32) (v := (0 : Int32)) at_31 rfl (by decide) ?_
      refine own_istore C (pc' := 34) (Ls' := #[.val (.int p0), .val (.int p1), .val (.ref a264), .val (.int (0 : Int32)), .val (.int (0 : Int32)), .unset, .unset, .unset]) at_32 rfl rfl ?_
      refine own_iloadN C (pc' := 35) at_34 rfl rfl ?_
      refine own_iconst C (pc' := 36) (v := (4 : Int32)) at_35 rfl (by decide) ?_
      refine own_iand C (pc' := 37) at_36 rfl ?_
      refine own_i0_eq C (pc1 := 44) (pc2 := 40) at_37 rfl rfl (fun c300 => ?_) (fun c300 => ?_)
      · skip
        refine own_iconst C (pc' := 45) (v := (0 : Int32)) at_44 rfl (by decide) ?_
        refine own_istore C (pc' := 47) (Ls' := #[.val (.int p0), .val (.int p1), .val (.ref a264), .val (.int (0 : Int32)), .val (.int (0 : Int32)), .val (.int (0 : Int32)), .unset, .unset]) at_45 rfl rfl ?_
        refine own_iloadN C (pc' := 48) at_47 rfl rfl ?_
        refine own_i0_eq C (pc1 := 56) (pc2 := 51) at_48 rfl rfl (fun c301 => ?_) (fun c301 => absurd c301 (by decide))
        refine own_iload C (pc' := 58) at_56 rfl rfl ?_
        refine own_i0_eq C (pc1 := 66) (pc2 := 61) at_58 rfl rfl (fun c302 => ?_) (fun c302 => absurd c302 (by decide))
        refine own_iload C (pc' := 68) at_66 rfl rfl ?_
        refine own_i0_eq C (pc1 := 76) (pc2 := 71) at_68 rfl rfl (fun c303 => ?_) (fun c303 => absurd c303 (by decide))
        refine own_iloadN C (pc' := 77) at_76 rfl rfl ?_
        refine own_i0_eq C (pc1 := 92) (pc2 := 80) at_77 rfl rfl (fun c304 => ?_) (fun c304 => absurd c304 (by decide))
        refine own_aloadN C (pc' := 93) at_92 rfl rfl rfl ?_
        refine own_callV C (pc' := 96) (y := (⟨"com/example/murmuration/murmuration/search/IndexedSet", "clear", "()V"⟩ : MethodName)) (a := a264) (argsL := []) (rest := []) 0 F284 (hw _ (List.mem_of_getElem? (i := 18) rfl)) (hw _ (List.mem_of_getElem? (i := 19) rfl)) (hw _ (List.mem_of_getElem? (i := 21) rfl)) (hw _ (List.mem_of_getElem? (i := 20) rfl)) (hw _ (List.mem_of_getElem? (i := 22) rfl)) (hw _ (List.mem_of_getElem? (i := 2) rfl)) (by decide) (own_clear0 hw a264 a277 a278 3 (fun _ => (0 : Int32)) (fun _ => (-1 : Int32)) Z296 F284 ga266 ga280 ga282 ne293 ne294 F292 F285 F286 F287 F288 F289 (by omega)) (by decide) (by decide) (lenOf own_pd2 rfl) rfl (Nat.le_of_eq rfl) at_93 rfl rfl (by decide) (by decide) (fun v305 h306 hq307 => ?_)
        obtain ⟨rfl, K308, F309, F310, F311, F312, F313, F314⟩ := hq307
        have Z316 : n0 ≤ h306.size := Nat.le_trans Z296 K308.1
        have F317 : Exa Z h306 a264 "com/example/murmuration/murmuration/search/IndexedSet" := Exa.keep F284 K308
        show own_Run p_ l e_ _ s_ m_ _ b_ mt_ c_ n0 _ h306 _ _ (mkF m_ 96 #[.val (.int p0), .val (.int p1), .val (.ref a264), .val (.int (0 : Int32)), .val (.int (0 : Int32)), .val (.int (0 : Int32)), .unset, .unset] [])
        refine own_aloadN C (pc' := 97) at_96 rfl rfl rfl ?_
        refine own_callV C (pc' := 100) (y := (⟨"com/example/murmuration/murmuration/search/IndexedSet", "size", "()I"⟩ : MethodName)) (a := a264) (argsL := []) (rest := []) 0 F309 (hw _ (List.mem_of_getElem? (i := 25) rfl)) (hw _ (List.mem_of_getElem? (i := 26) rfl)) (hw _ (List.mem_of_getElem? (i := 28) rfl)) (hw _ (List.mem_of_getElem? (i := 27) rfl)) (hw _ (List.mem_of_getElem? (i := 29) rfl)) (hw _ (List.mem_of_getElem? (i := 2) rfl)) (by decide) (own_m5 hw a264 (0 : Int32) Z316 F312 ) (by decide) (by decide) (lenOf own_pd3 rfl) rfl (Nat.le_of_eq rfl) at_97 rfl rfl (by decide) (by decide) (fun v318 h319 hq320 => ?_)
        obtain ⟨rfl, rfl⟩ := hq320
        show own_Run p_ l e_ _ s_ m_ _ b_ mt_ c_ n0 _ h306 _ _ (mkF m_ 100 #[.val (.int p0), .val (.int p1), .val (.ref a264), .val (.int (0 : Int32)), .val (.int (0 : Int32)), .val (.int (0 : Int32)), .unset, .unset] [(.int (0 : Int32))])
        refine own_i0_ne C (pc1 := 131) (pc2 := 103) at_100 rfl rfl (fun c321 => absurd c321 (by decide)) (fun c321 => ?_)
        refine own_aloadN C (pc' := 104) at_103 rfl rfl rfl ?_
        refine own_iconst C (pc' := 105) (v := (0 : Int32)) at_104 rfl (by decide) ?_
        refine own_callV C (pc' := 108) (y := (⟨"com/example/murmuration/murmuration/search/IndexedSet", "contains", "(I)Z"⟩ : MethodName)) (a := a264) (argsL := [(.int (0 : Int32))]) (rest := []) 0 F309 (hw _ (List.mem_of_getElem? (i := 30) rfl)) (hw _ (List.mem_of_getElem? (i := 31) rfl)) (hw _ (List.mem_of_getElem? (i := 33) rfl)) (hw _ (List.mem_of_getElem? (i := 32) rfl)) (hw _ (List.mem_of_getElem? (i := 34) rfl)) (hw _ (List.mem_of_getElem? (i := 2) rfl)) (by decide) (own_m6 hw a264 a278 3 (fun _ => (-1 : Int32)) (0 : Int32) 0 (0 : Int32) Z316 F311 F314 (by decide) (by decide) (by decide)) (by decide) (by decide) (lenOf own_pd4 rfl) rfl (Nat.le_of_eq rfl) at_105 rfl rfl (by decide) (by decide) (fun v322 h323 hq324 => ?_)
        obtain ⟨rfl, rfl⟩ := hq324
        show own_Run p_ l e_ _ s_ m_ _ b_ mt_ c_ n0 _ h306 _ _ (mkF m_ 108 #[.val (.int p0), .val (.int p1), .val (.ref a264), .val (.int (0 : Int32)), .val (.int (0 : Int32)), .val (.int (0 : Int32)), .unset, .unset] [(.int (0 : Int32))])
        refine own_i0_ne C (pc1 := 131) (pc2 := 111) at_108 rfl rfl (fun c325 => absurd c325 (by decide)) (fun c325 => ?_)
        refine own_aloadN C (pc' := 112) at_111 rfl rfl rfl ?_
        refine own_iconst C (pc' := 113) (v := (1 : Int32)) at_112 rfl (by decide) ?_
        refine own_callV C (pc' := 116) (y := (⟨"com/example/murmuration/murmuration/search/IndexedSet", "contains", "(I)Z"⟩ : MethodName)) (a := a264) (argsL := [(.int (1 : Int32))]) (rest := []) 0 F309 (hw _ (List.mem_of_getElem? (i := 30) rfl)) (hw _ (List.mem_of_getElem? (i := 31) rfl)) (hw _ (List.mem_of_getElem? (i := 33) rfl)) (hw _ (List.mem_of_getElem? (i := 32) rfl)) (hw _ (List.mem_of_getElem? (i := 34) rfl)) (hw _ (List.mem_of_getElem? (i := 2) rfl)) (by decide) (own_m6 hw a264 a278 3 (fun _ => (-1 : Int32)) (1 : Int32) 1 (0 : Int32) Z316 F311 F314 (by decide) (by decide) (by decide)) (by decide) (by decide) (lenOf own_pd4 rfl) rfl (Nat.le_of_eq rfl) at_113 rfl rfl (by decide) (by decide) (fun v326 h327 hq328 => ?_)
        obtain ⟨rfl, rfl⟩ := hq328
        show own_Run p_ l e_ _ s_ m_ _ b_ mt_ c_ n0 _ h306 _ _ (mkF m_ 116 #[.val (.int p0), .val (.int p1), .val (.ref a264), .val (.int (0 : Int32)), .val (.int (0 : Int32)), .val (.int (0 : Int32)), .unset, .unset] [(.int (0 : Int32))])
        refine own_i0_ne C (pc1 := 131) (pc2 := 119) at_116 rfl rfl (fun c329 => absurd c329 (by decide)) (fun c329 => ?_)
        refine own_aloadN C (pc' := 120) at_119 rfl rfl rfl ?_
        refine own_iconst C (pc' := 121) (v := (2 : Int32)) at_120 rfl (by decide) ?_
        refine own_callV C (pc' := 124) (y := (⟨"com/example/murmuration/murmuration/search/IndexedSet", "contains", "(I)Z"⟩ : MethodName)) (a := a264) (argsL := [(.int (2 : Int32))]) (rest := []) 0 F309 (hw _ (List.mem_of_getElem? (i := 30) rfl)) (hw _ (List.mem_of_getElem? (i := 31) rfl)) (hw _ (List.mem_of_getElem? (i := 33) rfl)) (hw _ (List.mem_of_getElem? (i := 32) rfl)) (hw _ (List.mem_of_getElem? (i := 34) rfl)) (hw _ (List.mem_of_getElem? (i := 2) rfl)) (by decide) (own_m6 hw a264 a278 3 (fun _ => (-1 : Int32)) (2 : Int32) 2 (0 : Int32) Z316 F311 F314 (by decide) (by decide) (by decide)) (by decide) (by decide) (lenOf own_pd4 rfl) rfl (Nat.le_of_eq rfl) at_121 rfl rfl (by decide) (by decide) (fun v330 h331 hq332 => ?_)
        obtain ⟨rfl, rfl⟩ := hq332
        show own_Run p_ l e_ _ s_ m_ _ b_ mt_ c_ n0 _ h306 _ _ (mkF m_ 124 #[.val (.int p0), .val (.int p1), .val (.ref a264), .val (.int (0 : Int32)), .val (.int (0 : Int32)), .val (.int (0 : Int32)), .unset, .unset] [(.int (0 : Int32))])
        refine own_i0_ne C (pc1 := 131) (pc2 := 127) at_124 rfl rfl (fun c333 => absurd c333 (by decide)) (fun c333 => ?_)
        refine own_iconst C (pc' := 128) (v := (1 : Int32)) at_127 rfl (by decide) ?_
        refine own_goto C (pc' := 132) at_128 rfl ?_
        refine own_istore C (pc' := 134) (Ls' := #[.val (.int p0), .val (.int p1), .val (.ref a264), .val (.int (0 : Int32)), .val (.int (0 : Int32)), .val (.int (0 : Int32)), .val (.int (1 : Int32)), .unset]) at_132 rfl rfl ?_
        refine own_iloadN C (pc' := 135) at_134 rfl rfl ?_
        refine own_ldc C (pc' := 137) (v := (2147483647 : Int32)) at_135 rfl (hw _ (List.mem_of_getElem? (i := 35) rfl)) ?_
        refine own_iand C (pc' := 138) at_137 rfl ?_
        refine own_iconst C (pc' := 139) (v := (3 : Int32)) at_138 rfl (by decide) ?_
        refine own_irem C (pc' := 140) at_139 rfl (by decide) ?_
        refine own_istore C (pc' := 142) (Ls' := #[.val (.int p0), .val (.int p1), .val (.ref a264), .val (.int (0 : Int32)), .val (.int (0 : Int32)), .val (.int (0 : Int32)), .val (.int (1 : Int32)), .val (.int ((p1 &&& (2147483647 : Int32)) % (3 : Int32)))]) at_140 rfl rfl ?_
        obtain ⟨A335, b336, hA337⟩ := own_rem p1 (n := (3 : Int32)) (N := 3) (by decide) (by decide)
        generalize ((p1 &&& (2147483647 : Int32)) % (3 : Int32)) = x334 at hA337 ⊢
        show own_Run p_ l e_ _ s_ m_ _ b_ mt_ c_ n0 _ h306 _ _ (mkF m_ 142 #[.val (.int p0), .val (.int p1), .val (.ref a264), .val (.int (0 : Int32)), .val (.int (0 : Int32)), .val (.int (0 : Int32)), .val (.int (1 : Int32)), .val (.int x334)] [])
        refine own_aloadN C (pc' := 143) at_142 rfl rfl rfl ?_
        refine own_iload C (pc' := 145) at_143 rfl rfl ?_
        refine own_callV C (pc' := 148) (y := (⟨"com/example/murmuration/murmuration/search/IndexedSet", "add", "(I)V"⟩ : MethodName)) (a := a264) (argsL := [(.int x334)]) (rest := []) 0 F309 (hw _ (List.mem_of_getElem? (i := 36) rfl)) (hw _ (List.mem_of_getElem? (i := 37) rfl)) (hw _ (List.mem_of_getElem? (i := 39) rfl)) (hw _ (List.mem_of_getElem? (i := 38) rfl)) (hw _ (List.mem_of_getElem? (i := 40) rfl)) (hw _ (List.mem_of_getElem? (i := 2) rfl)) (by decide) (own_m7 hw a264 a277 a278 3 (0 : Int32) (fun _ => (0 : Int32)) (fun _ => (-1 : Int32)) x334 A335 0 (1 : Int32) Z316 F309 ga266 ga280 ga282 ne293 ne294 F292 F310 F311 F312 F313 F314 hA337 (by omega) (by decide) (by decide) (by decide)) (by decide) (by decide) (lenOf own_pd1 rfl) rfl (Nat.le_of_eq rfl) at_145 rfl rfl (by decide) (by decide) (fun v338 h339 hq340 => ?_)
        obtain ⟨rfl, K341, F342, F343, F344, F345, F346, F347⟩ := hq340
        have Z349 : n0 ≤ h339.size := Nat.le_trans Z316 K341.1
        have F350 : Exa Z h339 a264 "com/example/murmuration/murmuration/search/IndexedSet" := Exa.keep F309 K341
        show own_Run p_ l e_ _ s_ m_ _ b_ mt_ c_ n0 _ h339 _ _ (mkF m_ 148 #[.val (.int p0), .val (.int p1), .val (.ref a264), .val (.int (0 : Int32)), .val (.int (0 : Int32)), .val (.int (0 : Int32)), .val (.int (1 : Int32)), .val (.int x334)] [])
        refine own_iload C (pc' := 150) at_148 rfl rfl ?_
        refine own_i0_eq C (pc1 := 176) (pc2 := 153) at_150 rfl rfl (fun c351 => absurd c351 (by decide)) (fun c351 => ?_)
        refine own_aloadN C (pc' := 154) at_153 rfl rfl rfl ?_
        refine own_iconst C (pc' := 155) (v := (0 : Int32)) at_154 rfl (by decide) ?_
        refine own_callV C (pc' := 158) (y := (⟨"com/example/murmuration/murmuration/search/IndexedSet", "get", "(I)I"⟩ : MethodName)) (a := a264) (argsL := [(.int (0 : Int32))]) (rest := []) 0 F342 (hw _ (List.mem_of_getElem? (i := 41) rfl)) (hw _ (List.mem_of_getElem? (i := 42) rfl)) (hw _ (List.mem_of_getElem? (i := 44) rfl)) (hw _ (List.mem_of_getElem? (i := 43) rfl)) (hw _ (List.mem_of_getElem? (i := 45) rfl)) (hw _ (List.mem_of_getElem? (i := 2) rfl)) (by decide) (own_m8 hw a264 a277 3 (own_upd (fun _ => (0 : Int32)) 0 x334) (0 : Int32) 0 x334 Z349 F343 F346 (by decide) (by decide) rfl) (by decide) (by decide) (lenOf own_pd5 rfl) rfl (Nat.le_of_eq rfl) at_155 rfl rfl (by decide) (by decide) (fun v352 h353 hq354 => ?_)
        obtain ⟨rfl, rfl⟩ := hq354
        show own_Run p_ l e_ _ s_ m_ _ b_ mt_ c_ n0 _ h339 _ _ (mkF m_ 158 #[.val (.int p0), .val (.int p1), .val (.ref a264), .val (.int (0 : Int32)), .val (.int (0 : Int32)), .val (.int (0 : Int32)), .val (.int (1 : Int32)), .val (.int x334)] [(.int x334)])
        refine own_iload C (pc' := 160) at_158 rfl rfl ?_
        refine own_ii_ne C (pc1 := 176) (pc2 := 163) at_160 rfl rfl (fun c355 => absurd c355 (not_not_intro rfl)) (fun c355 => ?_)
        refine own_aloadN C (pc' := 164) at_163 rfl rfl rfl ?_
        refine own_iload C (pc' := 166) at_164 rfl rfl ?_
        refine own_callV C (pc' := 169) (y := (⟨"com/example/murmuration/murmuration/search/IndexedSet", "contains", "(I)Z"⟩ : MethodName)) (a := a264) (argsL := [(.int x334)]) (rest := []) 0 F342 (hw _ (List.mem_of_getElem? (i := 30) rfl)) (hw _ (List.mem_of_getElem? (i := 31) rfl)) (hw _ (List.mem_of_getElem? (i := 33) rfl)) (hw _ (List.mem_of_getElem? (i := 32) rfl)) (hw _ (List.mem_of_getElem? (i := 34) rfl)) (hw _ (List.mem_of_getElem? (i := 2) rfl)) (by decide) (own_m6 hw a264 a278 3 (own_upd (fun _ => (-1 : Int32)) A335 (0 : Int32)) x334 A335 (1 : Int32) Z349 F344 F347 hA337 (by omega) (by simp [own_upd])) (by decide) (by decide) (lenOf own_pd4 rfl) rfl (Nat.le_of_eq rfl) at_166 rfl rfl (by decide) (by decide) (fun v356 h357 hq358 => ?_)
        obtain ⟨rfl, rfl⟩ := hq358
        show own_Run p_ l e_ _ s_ m_ _ b_ mt_ c_ n0 _ h339 _ _ (mkF m_ 169 #[.val (.int p0), .val (.int p1), .val (.ref a264), .val (.int (0 : Int32)), .val (.int (0 : Int32)), .val (.int (0 : Int32)), .val (.int (1 : Int32)), .val (.int x334)] [(.int (1 : Int32))])
        refine own_i0_eq C (pc1 := 176) (pc2 := 172) at_169 rfl rfl (fun c359 => absurd c359 (by decide)) (fun c359 => ?_)
        refine own_iconst C (pc' := 173) (v := (1 : Int32)) at_172 rfl (by decide) ?_
        refine own_goto C (pc' := 177) at_173 rfl ?_
        exact own_ret C (t := .boolean) rfl rfl (Or.inl ⟨rfl, by simp, _, rfl⟩) at_177 (by decide) (by decide) (rfl)
      · skip
        refine own_iconst C (pc' := 41) (v := (1 : Int32)) at_40 rfl (by decide) ?_
        refine own_goto C (pc' := 45) at_41 rfl ?_
        refine own_istore C (pc' := 47) (Ls' := #[.val (.int p0), .val (.int p1), .val (.ref a264), .val (.int (0 : Int32)), .val (.int (0 : Int32)), .val (.int (1 : Int32)), .unset, .unset]) at_45 rfl rfl ?_
        refine own_iloadN C (pc' := 48) at_47 rfl rfl ?_
        refine own_i0_eq C (pc1 := 56) (pc2 := 51) at_48 rfl rfl (fun c360 => ?_) (fun c360 => absurd c360 (by decide))
        refine own_iload C (pc' := 58) at_56 rfl rfl ?_
        refine own_i0_eq C (pc1 := 66) (pc2 := 61) at_58 rfl rfl (fun c361 => ?_) (fun c361 => absurd c361 (by decide))
        refine own_iload C (pc' := 68) at_66 rfl rfl ?_
        refine own_i0_eq C (pc1 := 76) (pc2 := 71) at_68 rfl rfl (fun c362 => absurd c362 (by decide)) (fun c362 => ?_)
        refine own_aloadN C (pc' := 72) at_71 rfl rfl rfl ?_
        refine own_iconst C (pc' := 73) (v := (1 : Int32)) at_72 rfl (by decide) ?_
        refine own_callV C (pc' := 76) (y := (⟨"com/example/murmuration/murmuration/search/IndexedSet", "add", "(I)V"⟩ : MethodName)) (a := a264) (argsL := [(.int (1 : Int32))]) (rest := []) 0 F284 (hw _ (List.mem_of_getElem? (i := 36) rfl)) (hw _ (List.mem_of_getElem? (i := 37) rfl)) (hw _ (List.mem_of_getElem? (i := 39) rfl)) (hw _ (List.mem_of_getElem? (i := 38) rfl)) (hw _ (List.mem_of_getElem? (i := 40) rfl)) (hw _ (List.mem_of_getElem? (i := 2) rfl)) (by decide) (own_m7 hw a264 a277 a278 3 (0 : Int32) (fun _ => (0 : Int32)) (fun _ => (-1 : Int32)) (1 : Int32) 1 0 (1 : Int32) Z296 F284 ga266 ga280 ga282 ne293 ne294 F292 F285 F286 F287 F288 F289 (by decide) (by decide) (by decide) (by decide) (by decide)) (by decide) (by decide) (lenOf own_pd1 rfl) rfl (Nat.le_of_eq rfl) at_73 rfl rfl (by decide) (by decide) (fun v363 h364 hq365 => ?_)
        obtain ⟨rfl, K366, F367, F368, F369, F370, F371, F372⟩ := hq365
        have Z374 : n0 ≤ h364.size := Nat.le_trans Z296 K366.1
        have F375 : Exa Z h364 a264 "com/example/murmuration/murmuration/search/IndexedSet" := Exa.keep F284 K366
        show own_Run p_ l e_ _ s_ m_ _ b_ mt_ c_ n0 _ h364 _ _ (mkF m_ 76 #[.val (.int p0), .val (.int p1), .val (.ref a264), .val (.int (0 : Int32)), .val (.int (0 : Int32)), .val (.int (1 : Int32)), .unset, .unset] [])
        refine own_iloadN C (pc' := 77) at_76 rfl rfl ?_
        refine own_i0_eq C (pc1 := 92) (pc2 := 80) at_77 rfl rfl (fun c376 => ?_) (fun c376 => absurd c376 (by decide))
        refine own_aloadN C (pc' := 93) at_92 rfl rfl rfl ?_
        refine own_callV C (pc' := 96) (y := (⟨"com/example/murmuration/murmuration/search/IndexedSet", "clear", "()V"⟩ : MethodName)) (a := a264) (argsL := []) (rest := []) 0 F367 (hw _ (List.mem_of_getElem? (i := 18) rfl)) (hw _ (List.mem_of_getElem? (i := 19) rfl)) (hw _ (List.mem_of_getElem? (i := 21) rfl)) (hw _ (List.mem_of_getElem? (i := 20) rfl)) (hw _ (List.mem_of_getElem? (i := 22) rfl)) (hw _ (List.mem_of_getElem? (i := 2) rfl)) (by decide) (own_clear1 hw a264 a277 a278 3 (own_upd (fun _ => (0 : Int32)) 0 (1 : Int32)) (own_upd (fun _ => (-1 : Int32)) 1 (0 : Int32)) (1 : Int32) 1 Z374 F367 ga266 ga280 ga282 ne293 ne294 F292 F368 F369 F370 F371 F372 (by omega) rfl (by decide) (by decide)) (by decide) (by decide) (lenOf own_pd2 rfl) rfl (Nat.le_of_eq rfl) at_93 rfl rfl (by decide) (by decide) (fun v377 h378 hq379 => ?_)
        obtain ⟨rfl, K380, F381, F382, F383, F384, F385, F386⟩ := hq379
        have Z388 : n0 ≤ h378.size := Nat.le_trans Z374 K380.1
        have F389 : Exa Z h378 a264 "com/example/murmuration/murmuration/search/IndexedSet" := Exa.keep F367 K380
        show own_Run p_ l e_ _ s_ m_ _ b_ mt_ c_ n0 _ h378 _ _ (mkF m_ 96 #[.val (.int p0), .val (.int p1), .val (.ref a264), .val (.int (0 : Int32)), .val (.int (0 : Int32)), .val (.int (1 : Int32)), .unset, .unset] [])
        refine own_aloadN C (pc' := 97) at_96 rfl rfl rfl ?_
        refine own_callV C (pc' := 100) (y := (⟨"com/example/murmuration/murmuration/search/IndexedSet", "size", "()I"⟩ : MethodName)) (a := a264) (argsL := []) (rest := []) 0 F381 (hw _ (List.mem_of_getElem? (i := 25) rfl)) (hw _ (List.mem_of_getElem? (i := 26) rfl)) (hw _ (List.mem_of_getElem? (i := 28) rfl)) (hw _ (List.mem_of_getElem? (i := 27) rfl)) (hw _ (List.mem_of_getElem? (i := 29) rfl)) (hw _ (List.mem_of_getElem? (i := 2) rfl)) (by decide) (own_m5 hw a264 (0 : Int32) Z388 F384 ) (by decide) (by decide) (lenOf own_pd3 rfl) rfl (Nat.le_of_eq rfl) at_97 rfl rfl (by decide) (by decide) (fun v390 h391 hq392 => ?_)
        obtain ⟨rfl, rfl⟩ := hq392
        show own_Run p_ l e_ _ s_ m_ _ b_ mt_ c_ n0 _ h378 _ _ (mkF m_ 100 #[.val (.int p0), .val (.int p1), .val (.ref a264), .val (.int (0 : Int32)), .val (.int (0 : Int32)), .val (.int (1 : Int32)), .unset, .unset] [(.int (0 : Int32))])
        refine own_i0_ne C (pc1 := 131) (pc2 := 103) at_100 rfl rfl (fun c393 => absurd c393 (by decide)) (fun c393 => ?_)
        refine own_aloadN C (pc' := 104) at_103 rfl rfl rfl ?_
        refine own_iconst C (pc' := 105) (v := (0 : Int32)) at_104 rfl (by decide) ?_
        refine own_callV C (pc' := 108) (y := (⟨"com/example/murmuration/murmuration/search/IndexedSet", "contains", "(I)Z"⟩ : MethodName)) (a := a264) (argsL := [(.int (0 : Int32))]) (rest := []) 0 F381 (hw _ (List.mem_of_getElem? (i := 30) rfl)) (hw _ (List.mem_of_getElem? (i := 31) rfl)) (hw _ (List.mem_of_getElem? (i := 33) rfl)) (hw _ (List.mem_of_getElem? (i := 32) rfl)) (hw _ (List.mem_of_getElem? (i := 34) rfl)) (hw _ (List.mem_of_getElem? (i := 2) rfl)) (by decide) (own_m6 hw a264 a278 3 (own_upd (own_upd (fun _ => (-1 : Int32)) 1 (0 : Int32)) 1 (-1 : Int32)) (0 : Int32) 0 (0 : Int32) Z388 F383 F386 (by decide) (by decide) (by decide)) (by decide) (by decide) (lenOf own_pd4 rfl) rfl (Nat.le_of_eq rfl) at_105 rfl rfl (by decide) (by decide) (fun v394 h395 hq396 => ?_)
        obtain ⟨rfl, rfl⟩ := hq396
        show own_Run p_ l e_ _ s_ m_ _ b_ mt_ c_ n0 _ h378 _ _ (mkF m_ 108 #[.val (.int p0), .val (.int p1), .val (.ref a264), .val (.int (0 : Int32)), .val (.int (0 : Int32)), .val (.int (1 : Int32)), .unset, .unset] [(.int (0 : Int32))])
        refine own_i0_ne C (pc1 := 131) (pc2 := 111) at_108 rfl rfl (fun c397 => absurd c397 (by decide)) (fun c397 => ?_)
        refine own_aloadN C (pc' := 112) at_111 rfl rfl rfl ?_
        refine own_iconst C (pc' := 113) (v := (1 : Int32)) at_112 rfl (by decide) ?_
        refine own_callV C (pc' := 116) (y := (⟨"com/example/murmuration/murmuration/search/IndexedSet", "contains", "(I)Z"⟩ : MethodName)) (a := a264) (argsL := [(.int (1 : Int32))]) (rest := []) 0 F381 (hw _ (List.mem_of_getElem? (i := 30) rfl)) (hw _ (List.mem_of_getElem? (i := 31) rfl)) (hw _ (List.mem_of_getElem? (i := 33) rfl)) (hw _ (List.mem_of_getElem? (i := 32) rfl)) (hw _ (List.mem_of_getElem? (i := 34) rfl)) (hw _ (List.mem_of_getElem? (i := 2) rfl)) (by decide) (own_m6 hw a264 a278 3 (own_upd (own_upd (fun _ => (-1 : Int32)) 1 (0 : Int32)) 1 (-1 : Int32)) (1 : Int32) 1 (0 : Int32) Z388 F383 F386 (by decide) (by decide) (by decide)) (by decide) (by decide) (lenOf own_pd4 rfl) rfl (Nat.le_of_eq rfl) at_113 rfl rfl (by decide) (by decide) (fun v398 h399 hq400 => ?_)
        obtain ⟨rfl, rfl⟩ := hq400
        show own_Run p_ l e_ _ s_ m_ _ b_ mt_ c_ n0 _ h378 _ _ (mkF m_ 116 #[.val (.int p0), .val (.int p1), .val (.ref a264), .val (.int (0 : Int32)), .val (.int (0 : Int32)), .val (.int (1 : Int32)), .unset, .unset] [(.int (0 : Int32))])
        refine own_i0_ne C (pc1 := 131) (pc2 := 119) at_116 rfl rfl (fun c401 => absurd c401 (by decide)) (fun c401 => ?_)
        refine own_aloadN C (pc' := 120) at_119 rfl rfl rfl ?_
        refine own_iconst C (pc' := 121) (v := (2 : Int32)) at_120 rfl (by decide) ?_
        refine own_callV C (pc' := 124) (y := (⟨"com/example/murmuration/murmuration/search/IndexedSet", "contains", "(I)Z"⟩ : MethodName)) (a := a264) (argsL := [(.int (2 : Int32))]) (rest := []) 0 F381 (hw _ (List.mem_of_getElem? (i := 30) rfl)) (hw _ (List.mem_of_getElem? (i := 31) rfl)) (hw _ (List.mem_of_getElem? (i := 33) rfl)) (hw _ (List.mem_of_getElem? (i := 32) rfl)) (hw _ (List.mem_of_getElem? (i := 34) rfl)) (hw _ (List.mem_of_getElem? (i := 2) rfl)) (by decide) (own_m6 hw a264 a278 3 (own_upd (own_upd (fun _ => (-1 : Int32)) 1 (0 : Int32)) 1 (-1 : Int32)) (2 : Int32) 2 (0 : Int32) Z388 F383 F386 (by decide) (by decide) (by decide)) (by decide) (by decide) (lenOf own_pd4 rfl) rfl (Nat.le_of_eq rfl) at_121 rfl rfl (by decide) (by decide) (fun v402 h403 hq404 => ?_)
        obtain ⟨rfl, rfl⟩ := hq404
        show own_Run p_ l e_ _ s_ m_ _ b_ mt_ c_ n0 _ h378 _ _ (mkF m_ 124 #[.val (.int p0), .val (.int p1), .val (.ref a264), .val (.int (0 : Int32)), .val (.int (0 : Int32)), .val (.int (1 : Int32)), .unset, .unset] [(.int (0 : Int32))])
        refine own_i0_ne C (pc1 := 131) (pc2 := 127) at_124 rfl rfl (fun c405 => absurd c405 (by decide)) (fun c405 => ?_)
        refine own_iconst C (pc' := 128) (v := (1 : Int32)) at_127 rfl (by decide) ?_
        refine own_goto C (pc' := 132) at_128 rfl ?_
        refine own_istore C (pc' := 134) (Ls' := #[.val (.int p0), .val (.int p1), .val (.ref a264), .val (.int (0 : Int32)), .val (.int (0 : Int32)), .val (.int (1 : Int32)), .val (.int (1 : Int32)), .unset]) at_132 rfl rfl ?_
        refine own_iloadN C (pc' := 135) at_134 rfl rfl ?_
        refine own_ldc C (pc' := 137) (v := (2147483647 : Int32)) at_135 rfl (hw _ (List.mem_of_getElem? (i := 35) rfl)) ?_
        refine own_iand C (pc' := 138) at_137 rfl ?_
        refine own_iconst C (pc' := 139) (v := (3 : Int32)) at_138 rfl (by decide) ?_
        refine own_irem C (pc' := 140) at_139 rfl (by decide) ?_
        refine own_istore C (pc' := 142) (Ls' := #[.val (.int p0), .val (.int p1), .val (.ref a264), .val (.int (0 : Int32)), .val (.int (0 : Int32)), .val (.int (1 : Int32)), .val (.int (1 : Int32)), .val (.int ((p1 &&& (2147483647 : Int32)) % (3 : Int32)))]) at_140 rfl rfl ?_
        obtain ⟨A407, b408, hA409⟩ := own_rem p1 (n := (3 : Int32)) (N := 3) (by decide) (by decide)
        generalize ((p1 &&& (2147483647 : Int32)) % (3 : Int32)) = x406 at hA409 ⊢
        show own_Run p_ l e_ _ s_ m_ _ b_ mt_ c_ n0 _ h378 _ _ (mkF m_ 142 #[.val (.int p0), .val (.int p1), .val (.ref a264), .val (.int (0 : Int32)), .val (.int (0 : Int32)), .val (.int (1 : Int32)), .val (.int (1 : Int32)), .val (.int x406)] [])
        refine own_aloadN C (pc' := 143) at_142 rfl rfl rfl ?_
        refine own_iload C (pc' := 145) at_143 rfl rfl ?_
        refine own_callV C (pc' := 148) (y := (⟨"com/example/murmuration/murmuration/search/IndexedSet", "add", "(I)V"⟩ : MethodName)) (a := a264) (argsL := [(.int x406)]) (rest := []) 0 F381 (hw _ (List.mem_of_getElem? (i := 36) rfl)) (hw _ (List.mem_of_getElem? (i := 37) rfl)) (hw _ (List.mem_of_getElem? (i := 39) rfl)) (hw _ (List.mem_of_getElem? (i := 38) rfl)) (hw _ (List.mem_of_getElem? (i := 40) rfl)) (hw _ (List.mem_of_getElem? (i := 2) rfl)) (by decide) (own_m7 hw a264 a277 a278 3 (0 : Int32) (own_upd (fun _ => (0 : Int32)) 0 (1 : Int32)) (own_upd (own_upd (fun _ => (-1 : Int32)) 1 (0 : Int32)) 1 (-1 : Int32)) x406 A407 0 (1 : Int32) Z388 F381 ga266 ga280 ga282 ne293 ne294 F292 F382 F383 F384 F385 F386 hA409 (by omega) (by decide) (by decide) (by decide)) (by decide) (by decide) (lenOf own_pd1 rfl) rfl (Nat.le_of_eq rfl) at_145 rfl rfl (by decide) (by decide) (fun v410 h411 hq412 => ?_)
        obtain ⟨rfl, K413, F414, F415, F416, F417, F418, F419⟩ := hq412
        have Z421 : n0 ≤ h411.size := Nat.le_trans Z388 K413.1
        have F422 : Exa Z h411 a264 "com/example/murmuration/murmuration/search/IndexedSet" := Exa.keep F381 K413
        show own_Run p_ l e_ _ s_ m_ _ b_ mt_ c_ n0 _ h411 _ _ (mkF m_ 148 #[.val (.int p0), .val (.int p1), .val (.ref a264), .val (.int (0 : Int32)), .val (.int (0 : Int32)), .val (.int (1 : Int32)), .val (.int (1 : Int32)), .val (.int x406)] [])
        refine own_iload C (pc' := 150) at_148 rfl rfl ?_
        refine own_i0_eq C (pc1 := 176) (pc2 := 153) at_150 rfl rfl (fun c423 => absurd c423 (by decide)) (fun c423 => ?_)
        refine own_aloadN C (pc' := 154) at_153 rfl rfl rfl ?_
        refine own_iconst C (pc' := 155) (v := (0 : Int32)) at_154 rfl (by decide) ?_
        refine own_callV C (pc' := 158) (y := (⟨"com/example/murmuration/murmuration/search/IndexedSet", "get", "(I)I"⟩ : MethodName)) (a := a264) (argsL := [(.int (0 : Int32))]) (rest := []) 0 F414 (hw _ (List.mem_of_getElem? (i := 41) rfl)) (hw _ (List.mem_of_getElem? (i := 42) rfl)) (hw _ (List.mem_of_getElem? (i := 44) rfl)) (hw _ (List.mem_of_getElem? (i := 43) rfl)) (hw _ (List.mem_of_getElem? (i := 45) rfl)) (hw _ (List.mem_of_getElem? (i := 2) rfl)) (by decide) (own_m8 hw a264 a277 3 (own_upd (own_upd (fun _ => (0 : Int32)) 0 (1 : Int32)) 0 x406) (0 : Int32) 0 x406 Z421 F415 F418 (by decide) (by decide) rfl) (by decide) (by decide) (lenOf own_pd5 rfl) rfl (Nat.le_of_eq rfl) at_155 rfl rfl (by decide) (by decide) (fun v424 h425 hq426 => ?_)
        obtain ⟨rfl, rfl⟩ := hq426
        show own_Run p_ l e_ _ s_ m_ _ b_ mt_ c_ n0 _ h411 _ _ (mkF m_ 158 #[.val (.int p0), .val (.int p1), .val (.ref a264), .val (.int (0 : Int32)), .val (.int (0 : Int32)), .val (.int (1 : Int32)), .val (.int (1 : Int32)), .val (.int x406)] [(.int x406)])
        refine own_iload C (pc' := 160) at_158 rfl rfl ?_
        refine own_ii_ne C (pc1 := 176) (pc2 := 163) at_160 rfl rfl (fun c427 => absurd c427 (not_not_intro rfl)) (fun c427 => ?_)
        refine own_aloadN C (pc' := 164) at_163 rfl rfl rfl ?_
        refine own_iload C (pc' := 166) at_164 rfl rfl ?_
        refine own_callV C (pc' := 169) (y := (⟨"com/example/murmuration/murmuration/search/IndexedSet", "contains", "(I)Z"⟩ : MethodName)) (a := a264) (argsL := [(.int x406)]) (rest := []) 0 F414 (hw _ (List.mem_of_getElem? (i := 30) rfl)) (hw _ (List.mem_of_getElem? (i := 31) rfl)) (hw _ (List.mem_of_getElem? (i := 33) rfl)) (hw _ (List.mem_of_getElem? (i := 32) rfl)) (hw _ (List.mem_of_getElem? (i := 34) rfl)) (hw _ (List.mem_of_getElem? (i := 2) rfl)) (by decide) (own_m6 hw a264 a278 3 (own_upd (own_upd (own_upd (fun _ => (-1 : Int32)) 1 (0 : Int32)) 1 (-1 : Int32)) A407 (0 : Int32)) x406 A407 (1 : Int32) Z421 F416 F419 hA409 (by omega) (by simp [own_upd])) (by decide) (by decide) (lenOf own_pd4 rfl) rfl (Nat.le_of_eq rfl) at_166 rfl rfl (by decide) (by decide) (fun v428 h429 hq430 => ?_)
        obtain ⟨rfl, rfl⟩ := hq430
        show own_Run p_ l e_ _ s_ m_ _ b_ mt_ c_ n0 _ h411 _ _ (mkF m_ 169 #[.val (.int p0), .val (.int p1), .val (.ref a264), .val (.int (0 : Int32)), .val (.int (0 : Int32)), .val (.int (1 : Int32)), .val (.int (1 : Int32)), .val (.int x406)] [(.int (1 : Int32))])
        refine own_i0_eq C (pc1 := 176) (pc2 := 172) at_169 rfl rfl (fun c431 => absurd c431 (by decide)) (fun c431 => ?_)
        refine own_iconst C (pc' := 173) (v := (1 : Int32)) at_172 rfl (by decide) ?_
        refine own_goto C (pc' := 177) at_173 rfl ?_
        exact own_ret C (t := .boolean) rfl rfl (Or.inl ⟨rfl, by simp, _, rfl⟩) at_177 (by decide) (by decide) (rfl)
    · skip
      refine own_iconst C (pc' := 28) (v := (1 : Int32)) at_27 rfl (by decide) ?_
      refine own_goto C (pc' := 32) at_28 rfl ?_
      refine own_istore C (pc' := 34) (Ls' := #[.val (.int p0), .val (.int p1), .val (.ref a264), .val (.int (0 : Int32)), .val (.int (1 : Int32)), .unset, .unset, .unset]) at_32 rfl rfl ?_
      refine own_iloadN C (pc' := 35) at_34 rfl rfl ?_
      refine own_iconst C (pc' := 36) (v := (4 : Int32)) at_35 rfl (by decide) ?_
      refine own_iand C (pc' := 37) at_36 rfl ?_
      refine own_i0_eq C (pc1 := 44) (pc2 := 40) at_37 rfl rfl (fun c432 => ?_) (fun c432 => ?_)
      · skip
        refine own_iconst C (pc' := 45) (v := (0 : Int32)) at_44 rfl (by decide) ?_
        refine own_istore C (pc' := 47) (Ls' := #[.val (.int p0), .val (.int p1), .val (.ref a264), .val (.int (0 : Int32)), .val (.int (1 : Int32)), .val (.int (0 : Int32)), .unset, .unset]) at_45 rfl rfl ?_
        refine own_iloadN C (pc' := 48) at_47 rfl rfl ?_
        refine own_i0_eq C (pc1 := 56) (pc2 := 51) at_48 rfl rfl (fun c433 => ?_) (fun c433 => absurd c433 (by decide))
        refine own_iload C (pc' := 58) at_56 rfl rfl ?_
        refine own_i0_eq C (pc1 := 66) (pc2 := 61) at_58 rfl rfl (fun c434 => absurd c434 (by decide)) (fun c434 => ?_)
        refine own_aloadN C (pc' := 62) at_61 rfl rfl rfl ?_
        refine own_iconst C (pc' := 63) (v := (0 : Int32)) at_62 rfl (by decide) ?_
        refine own_callV C (pc' := 66) (y := (⟨"com/example/murmuration/murmuration/search/IndexedSet", "add", "(I)V"⟩ : MethodName)) (a := a264) (argsL := [(.int (0 : Int32))]) (rest := []) 0 F284 (hw _ (List.mem_of_getElem? (i := 36) rfl)) (hw _ (List.mem_of_getElem? (i := 37) rfl)) (hw _ (List.mem_of_getElem? (i := 39) rfl)) (hw _ (List.mem_of_getElem? (i := 38) rfl)) (hw _ (List.mem_of_getElem? (i := 40) rfl)) (hw _ (List.mem_of_getElem? (i := 2) rfl)) (by decide) (own_m7 hw a264 a277 a278 3 (0 : Int32) (fun _ => (0 : Int32)) (fun _ => (-1 : Int32)) (0 : Int32) 0 0 (1 : Int32) Z296 F284 ga266 ga280 ga282 ne293 ne294 F292 F285 F286 F287 F288 F289 (by decide) (by decide) (by decide) (by decide) (by decide)) (by decide) (by decide) (lenOf own_pd1 rfl) rfl (Nat.le_of_eq rfl) at_63 rfl rfl (by decide) (by decide) (fun v435 h436 hq437 => ?_)
        obtain ⟨rfl, K438, F439, F440, F441, F442, F443, F444⟩ := hq437
        have Z446 : n0 ≤ h436.size := Nat.le_trans Z296 K438.1
        have F447 : Exa Z h436 a264 "com/example/murmuration/murmuration/search/IndexedSet" := Exa.keep F284 K438
        show own_Run p_ l e_ _ s_ m_ _ b_ mt_ c_ n0 _ h436 _ _ (mkF m_ 66 #[.val (.int p0), .val (.int p1), .val (.ref a264), .val (.int (0 : Int32)), .val (.int (1 : Int32)), .val (.int (0 : Int32)), .unset, .unset] [])
        refine own_iload C (pc' := 68) at_66 rfl rfl ?_
        refine own_i0_eq C (pc1 := 76) (pc2 := 71) at_68 rfl rfl (fun c448 => ?_) (fun c448 => absurd c448 (by decide))
        refine own_iloadN C (pc' := 77) at_76 rfl rfl ?_
        refine own_i0_eq C (pc1 := 92) (pc2 := 80) at_77 rfl rfl (fun c449 => ?_) (fun c449 => absurd c449 (by decide))
        refine own_aloadN C (pc' := 93) at_92 rfl rfl rfl ?_
        refine own_callV C (pc' := 96) (y := (⟨"com/example/murmuration/murmuration/search/IndexedSet", "clear", "()V"⟩ : MethodName)) (a := a264) (argsL := []) (rest := []) 0 F439 (hw _ (List.mem_of_getElem? (i := 18) rfl)) (hw _ (List.mem_of_getElem? (i := 19) rfl)) (hw _ (List.mem_of_getElem? (i := 21) rfl)) (hw _ (List.mem_of_getElem? (i := 20) rfl)) (hw _ (List.mem_of_getElem? (i := 22) rfl)) (hw _ (List.mem_of_getElem? (i := 2) rfl)) (by decide) (own_clear1 hw a264 a277 a278 3 (own_upd (fun _ => (0 : Int32)) 0 (0 : Int32)) (own_upd (fun _ => (-1 : Int32)) 0 (0 : Int32)) (0 : Int32) 0 Z446 F439 ga266 ga280 ga282 ne293 ne294 F292 F440 F441 F442 F443 F444 (by omega) rfl (by decide) (by decide)) (by decide) (by decide) (lenOf own_pd2 rfl) rfl (Nat.le_of_eq rfl) at_93 rfl rfl (by decide) (by decide) (fun v450 h451 hq452 => ?_)
        obtain ⟨rfl, K453, F454, F455, F456, F457, F458, F459⟩ := hq452
        have Z461 : n0 ≤ h451.size := Nat.le_trans Z446 K453.1
        have F462 : Exa Z h451 a264 "com/example/murmuration/murmuration/search/IndexedSet" := Exa.keep F439 K453
        show own_Run p_ l e_ _ s_ m_ _ b_ mt_ c_ n0 _ h451 _ _ (mkF m_ 96 #[.val (.int p0), .val (.int p1), .val (.ref a264), .val (.int (0 : Int32)), .val (.int (1 : Int32)), .val (.int (0 : Int32)), .unset, .unset] [])
        refine own_aloadN C (pc' := 97) at_96 rfl rfl rfl ?_
        refine own_callV C (pc' := 100) (y := (⟨"com/example/murmuration/murmuration/search/IndexedSet", "size", "()I"⟩ : MethodName)) (a := a264) (argsL := []) (rest := []) 0 F454 (hw _ (List.mem_of_getElem? (i := 25) rfl)) (hw _ (List.mem_of_getElem? (i := 26) rfl)) (hw _ (List.mem_of_getElem? (i := 28) rfl)) (hw _ (List.mem_of_getElem? (i := 27) rfl)) (hw _ (List.mem_of_getElem? (i := 29) rfl)) (hw _ (List.mem_of_getElem? (i := 2) rfl)) (by decide) (own_m5 hw a264 (0 : Int32) Z461 F457 ) (by decide) (by decide) (lenOf own_pd3 rfl) rfl (Nat.le_of_eq rfl) at_97 rfl rfl (by decide) (by decide) (fun v463 h464 hq465 => ?_)
        obtain ⟨rfl, rfl⟩ := hq465
        show own_Run p_ l e_ _ s_ m_ _ b_ mt_ c_ n0 _ h451 _ _ (mkF m_ 100 #[.val (.int p0), .val (.int p1), .val (.ref a264), .val (.int (0 : Int32)), .val (.int (1 : Int32)), .val (.int (0 : Int32)), .unset, .unset] [(.int (0 : Int32))])
        refine own_i0_ne C (pc1 := 131) (pc2 := 103) at_100 rfl rfl (fun c466 => absurd c466 (by decide)) (fun c466 => ?_)
        refine own_aloadN C (pc' := 104) at_103 rfl rfl rfl ?_
        refine own_iconst C (pc' := 105) (v := (0 : Int32)) at_104 rfl (by decide) ?_
        refine own_callV C (pc' := 108) (y := (⟨"com/example/murmuration/murmuration/search/IndexedSet", "contains", "(I)Z"⟩ : MethodName)) (a := a264) (argsL := [(.int (0 : Int32))]) (rest := []) 0 F454 (hw _ (List.mem_of_getElem? (i := 30) rfl)) (hw _ (List.mem_of_getElem? (i := 31) rfl)) (hw _ (List.mem_of_getElem? (i := 33) rfl)) (hw _ (List.mem_of_getElem? (i := 32) rfl)) (hw _ (List.mem_of_getElem? (i := 34) rfl)) (hw _ (List.mem_of_getElem? (i := 2) rfl)) (by decide) (own_m6 hw a264 a278 3 (own_upd (own_upd (fun _ => (-1 : Int32)) 0 (0 : Int32)) 0 (-1 : Int32)) (0 : Int32) 0 (0 : Int32) Z461 F456 F459 (by decide) (by decide) (by decide)) (by decide) (by decide) (lenOf own_pd4 rfl) rfl (Nat.le_of_eq rfl) at_105 rfl rfl (by decide) (by decide) (fun v467 h468 hq469 => ?_)
        obtain ⟨rfl, rfl⟩ := hq469
        show own_Run p_ l e_ _ s_ m_ _ b_ mt_ c_ n0 _ h451 _ _ (mkF m_ 108 #[.val (.int p0), .val (.int p1), .val (.ref a264), .val (.int (0 : Int32)), .val (.int (1 : Int32)), .val (.int (0 : Int32)), .unset, .unset] [(.int (0 : Int32))])
        refine own_i0_ne C (pc1 := 131) (pc2 := 111) at_108 rfl rfl (fun c470 => absurd c470 (by decide)) (fun c470 => ?_)
        refine own_aloadN C (pc' := 112) at_111 rfl rfl rfl ?_
        refine own_iconst C (pc' := 113) (v := (1 : Int32)) at_112 rfl (by decide) ?_
        refine own_callV C (pc' := 116) (y := (⟨"com/example/murmuration/murmuration/search/IndexedSet", "contains", "(I)Z"⟩ : MethodName)) (a := a264) (argsL := [(.int (1 : Int32))]) (rest := []) 0 F454 (hw _ (List.mem_of_getElem? (i := 30) rfl)) (hw _ (List.mem_of_getElem? (i := 31) rfl)) (hw _ (List.mem_of_getElem? (i := 33) rfl)) (hw _ (List.mem_of_getElem? (i := 32) rfl)) (hw _ (List.mem_of_getElem? (i := 34) rfl)) (hw _ (List.mem_of_getElem? (i := 2) rfl)) (by decide) (own_m6 hw a264 a278 3 (own_upd (own_upd (fun _ => (-1 : Int32)) 0 (0 : Int32)) 0 (-1 : Int32)) (1 : Int32) 1 (0 : Int32) Z461 F456 F459 (by decide) (by decide) (by decide)) (by decide) (by decide) (lenOf own_pd4 rfl) rfl (Nat.le_of_eq rfl) at_113 rfl rfl (by decide) (by decide) (fun v471 h472 hq473 => ?_)
        obtain ⟨rfl, rfl⟩ := hq473
        show own_Run p_ l e_ _ s_ m_ _ b_ mt_ c_ n0 _ h451 _ _ (mkF m_ 116 #[.val (.int p0), .val (.int p1), .val (.ref a264), .val (.int (0 : Int32)), .val (.int (1 : Int32)), .val (.int (0 : Int32)), .unset, .unset] [(.int (0 : Int32))])
        refine own_i0_ne C (pc1 := 131) (pc2 := 119) at_116 rfl rfl (fun c474 => absurd c474 (by decide)) (fun c474 => ?_)
        refine own_aloadN C (pc' := 120) at_119 rfl rfl rfl ?_
        refine own_iconst C (pc' := 121) (v := (2 : Int32)) at_120 rfl (by decide) ?_
        refine own_callV C (pc' := 124) (y := (⟨"com/example/murmuration/murmuration/search/IndexedSet", "contains", "(I)Z"⟩ : MethodName)) (a := a264) (argsL := [(.int (2 : Int32))]) (rest := []) 0 F454 (hw _ (List.mem_of_getElem? (i := 30) rfl)) (hw _ (List.mem_of_getElem? (i := 31) rfl)) (hw _ (List.mem_of_getElem? (i := 33) rfl)) (hw _ (List.mem_of_getElem? (i := 32) rfl)) (hw _ (List.mem_of_getElem? (i := 34) rfl)) (hw _ (List.mem_of_getElem? (i := 2) rfl)) (by decide) (own_m6 hw a264 a278 3 (own_upd (own_upd (fun _ => (-1 : Int32)) 0 (0 : Int32)) 0 (-1 : Int32)) (2 : Int32) 2 (0 : Int32) Z461 F456 F459 (by decide) (by decide) (by decide)) (by decide) (by decide) (lenOf own_pd4 rfl) rfl (Nat.le_of_eq rfl) at_121 rfl rfl (by decide) (by decide) (fun v475 h476 hq477 => ?_)
        obtain ⟨rfl, rfl⟩ := hq477
        show own_Run p_ l e_ _ s_ m_ _ b_ mt_ c_ n0 _ h451 _ _ (mkF m_ 124 #[.val (.int p0), .val (.int p1), .val (.ref a264), .val (.int (0 : Int32)), .val (.int (1 : Int32)), .val (.int (0 : Int32)), .unset, .unset] [(.int (0 : Int32))])
        refine own_i0_ne C (pc1 := 131) (pc2 := 127) at_124 rfl rfl (fun c478 => absurd c478 (by decide)) (fun c478 => ?_)
        refine own_iconst C (pc' := 128) (v := (1 : Int32)) at_127 rfl (by decide) ?_
        refine own_goto C (pc' := 132) at_128 rfl ?_
        refine own_istore C (pc' := 134) (Ls' := #[.val (.int p0), .val (.int p1), .val (.ref a264), .val (.int (0 : Int32)), .val (.int (1 : Int32)), .val (.int (0 : Int32)), .val (.int (1 : Int32)), .unset]) at_132 rfl rfl ?_
        refine own_iloadN C (pc' := 135) at_134 rfl rfl ?_
        refine own_ldc C (pc' := 137) (v := (2147483647 : Int32)) at_135 rfl (hw _ (List.mem_of_getElem? (i := 35) rfl)) ?_
        refine own_iand C (pc' := 138) at_137 rfl ?_
        refine own_iconst C (pc' := 139) (v := (3 : Int32)) at_138 rfl (by decide) ?_
        refine own_irem C (pc' := 140) at_139 rfl (by decide) ?_
        refine own_istore C (pc' := 142) (Ls' := #[.val (.int p0), .val (.int p1), .val (.ref a264), .val (.int (0 : Int32)), .val (.int (1 : Int32)), .val (.int (0 : Int32)), .val (.int (1 : Int32)), .val (.int ((p1 &&& (2147483647 : Int32)) % (3 : Int32)))]) at_140 rfl rfl ?_
        obtain ⟨A480, b481, hA482⟩ := own_rem p1 (n := (3 : Int32)) (N := 3) (by decide) (by decide)
        generalize ((p1 &&& (2147483647 : Int32)) % (3 : Int32)) = x479 at hA482 ⊢
        show own_Run p_ l e_ _ s_ m_ _ b_ mt_ c_ n0 _ h451 _ _ (mkF m_ 142 #[.val (.int p0), .val (.int p1), .val (.ref a264), .val (.int (0 : Int32)), .val (.int (1 : Int32)), .val (.int (0 : Int32)), .val (.int (1 : Int32)), .val (.int x479)] [])
        refine own_aloadN C (pc' := 143) at_142 rfl rfl rfl ?_
        refine own_iload C (pc' := 145) at_143 rfl rfl ?_
        refine own_callV C (pc' := 148) (y := (⟨"com/example/murmuration/murmuration/search/IndexedSet", "add", "(I)V"⟩ : MethodName)) (a := a264) (argsL := [(.int x479)]) (rest := []) 0 F454 (hw _ (List.mem_of_getElem? (i := 36) rfl)) (hw _ (List.mem_of_getElem? (i := 37) rfl)) (hw _ (List.mem_of_getElem? (i := 39) rfl)) (hw _ (List.mem_of_getElem? (i := 38) rfl)) (hw _ (List.mem_of_getElem? (i := 40) rfl)) (hw _ (List.mem_of_getElem? (i := 2) rfl)) (by decide) (own_m7 hw a264 a277 a278 3 (0 : Int32) (own_upd (fun _ => (0 : Int32)) 0 (0 : Int32)) (own_upd (own_upd (fun _ => (-1 : Int32)) 0 (0 : Int32)) 0 (-1 : Int32)) x479 A480 0 (1 : Int32) Z461 F454 ga266 ga280 ga282 ne293 ne294 F292 F455 F456 F457 F458 F459 hA482 (by omega) (by decide) (by decide) (by decide)) (by decide) (by decide) (lenOf own_pd1 rfl) rfl (Nat.le_of_eq rfl) at_145 rfl rfl (by decide) (by decide) (fun v483 h484 hq485 => ?_)
        obtain ⟨rfl, K486, F487, F488, F489, F490, F491, F492⟩ := hq485
        have Z494 : n0 ≤ h484.size := Nat.le_trans Z461 K486.1
        have F495 : Exa Z h484 a264 "com/example/murmuration/murmuration/search/IndexedSet" := Exa.keep F454 K486
        show own_Run p_ l e_ _ s_ m_ _ b_ mt_ c_ n0 _ h484 _ _ (mkF m_ 148 #[.val (.int p0), .val (.int p1), .val (.ref a264), .val (.int (0 : Int32)), .val (.int (1 : Int32)), .val (.int (0 : Int32)), .val (.int (1 : Int32)), .val (.int x479)] [])
        refine own_iload C (pc' := 150) at_148 rfl rfl ?_
        refine own_i0_eq C (pc1 := 176) (pc2 := 153) at_150 rfl rfl (fun c496 => absurd c496 (by decide)) (fun c496 => ?_)
        refine own_aloadN C (pc' := 154) at_153 rfl rfl rfl ?_
        refine own_iconst C (pc' := 155) (v := (0 : Int32)) at_154 rfl (by decide) ?_
        refine own_callV C (pc' := 158) (y := (⟨"com/example/murmuration/murmuration/search/IndexedSet", "get", "(I)I"⟩ : MethodName)) (a := a264) (argsL := [(.int (0 : Int32))]) (rest := []) 0 F487 (hw _ (List.mem_of_getElem? (i := 41) rfl)) (hw _ (List.mem_of_getElem? (i := 42) rfl)) (hw _ (List.mem_of_getElem? (i := 44) rfl)) (hw _ (List.mem_of_getElem? (i := 43) rfl)) (hw _ (List.mem_of_getElem? (i := 45) rfl)) (hw _ (List.mem_of_getElem? (i := 2) rfl)) (by decide) (own_m8 hw a264 a277 3 (own_upd (own_upd (fun _ => (0 : Int32)) 0 (0 : Int32)) 0 x479) (0 : Int32) 0 x479 Z494 F488 F491 (by decide) (by decide) rfl) (by decide) (by decide) (lenOf own_pd5 rfl) rfl (Nat.le_of_eq rfl) at_155 rfl rfl (by decide) (by decide) (fun v497 h498 hq499 => ?_)
        obtain ⟨rfl, rfl⟩ := hq499
        show own_Run p_ l e_ _ s_ m_ _ b_ mt_ c_ n0 _ h484 _ _ (mkF m_ 158 #[.val (.int p0), .val (.int p1), .val (.ref a264), .val (.int (0 : Int32)), .val (.int (1 : Int32)), .val (.int (0 : Int32)), .val (.int (1 : Int32)), .val (.int x479)] [(.int x479)])
        refine own_iload C (pc' := 160) at_158 rfl rfl ?_
        refine own_ii_ne C (pc1 := 176) (pc2 := 163) at_160 rfl rfl (fun c500 => absurd c500 (not_not_intro rfl)) (fun c500 => ?_)
        refine own_aloadN C (pc' := 164) at_163 rfl rfl rfl ?_
        refine own_iload C (pc' := 166) at_164 rfl rfl ?_
        refine own_callV C (pc' := 169) (y := (⟨"com/example/murmuration/murmuration/search/IndexedSet", "contains", "(I)Z"⟩ : MethodName)) (a := a264) (argsL := [(.int x479)]) (rest := []) 0 F487 (hw _ (List.mem_of_getElem? (i := 30) rfl)) (hw _ (List.mem_of_getElem? (i := 31) rfl)) (hw _ (List.mem_of_getElem? (i := 33) rfl)) (hw _ (List.mem_of_getElem? (i := 32) rfl)) (hw _ (List.mem_of_getElem? (i := 34) rfl)) (hw _ (List.mem_of_getElem? (i := 2) rfl)) (by decide) (own_m6 hw a264 a278 3 (own_upd (own_upd (own_upd (fun _ => (-1 : Int32)) 0 (0 : Int32)) 0 (-1 : Int32)) A480 (0 : Int32)) x479 A480 (1 : Int32) Z494 F489 F492 hA482 (by omega) (by simp [own_upd])) (by decide) (by decide) (lenOf own_pd4 rfl) rfl (Nat.le_of_eq rfl) at_166 rfl rfl (by decide) (by decide) (fun v501 h502 hq503 => ?_)
        obtain ⟨rfl, rfl⟩ := hq503
        show own_Run p_ l e_ _ s_ m_ _ b_ mt_ c_ n0 _ h484 _ _ (mkF m_ 169 #[.val (.int p0), .val (.int p1), .val (.ref a264), .val (.int (0 : Int32)), .val (.int (1 : Int32)), .val (.int (0 : Int32)), .val (.int (1 : Int32)), .val (.int x479)] [(.int (1 : Int32))])
        refine own_i0_eq C (pc1 := 176) (pc2 := 172) at_169 rfl rfl (fun c504 => absurd c504 (by decide)) (fun c504 => ?_)
        refine own_iconst C (pc' := 173) (v := (1 : Int32)) at_172 rfl (by decide) ?_
        refine own_goto C (pc' := 177) at_173 rfl ?_
        exact own_ret C (t := .boolean) rfl rfl (Or.inl ⟨rfl, by simp, _, rfl⟩) at_177 (by decide) (by decide) (rfl)
      · skip
        refine own_iconst C (pc' := 41) (v := (1 : Int32)) at_40 rfl (by decide) ?_
        refine own_goto C (pc' := 45) at_41 rfl ?_
        refine own_istore C (pc' := 47) (Ls' := #[.val (.int p0), .val (.int p1), .val (.ref a264), .val (.int (0 : Int32)), .val (.int (1 : Int32)), .val (.int (1 : Int32)), .unset, .unset]) at_45 rfl rfl ?_
        refine own_iloadN C (pc' := 48) at_47 rfl rfl ?_
        refine own_i0_eq C (pc1 := 56) (pc2 := 51) at_48 rfl rfl (fun c505 => ?_) (fun c505 => absurd c505 (by decide))
        refine own_iload C (pc' := 58) at_56 rfl rfl ?_
        refine own_i0_eq C (pc1 := 66) (pc2 := 61) at_58 rfl rfl (fun c506 => absurd c506 (by decide)) (fun c506 => ?_)
        refine own_aloadN C (pc' := 62) at_61 rfl rfl rfl ?_
        refine own_iconst C (pc' := 63) (v := (0 : Int32)) at_62 rfl (by decide) ?_
        refine own_callV C (pc' := 66) (y := (⟨"com/example/murmuration/murmuration/search/IndexedSet", "add", "(I)V"⟩ : MethodName)) (a := a264) (argsL := [(.int (0 : Int32))]) (rest := []) 0 F284 (hw _ (List.mem_of_getElem? (i := 36) rfl)) (hw _ (List.mem_of_getElem? (i := 37) rfl)) (hw _ (List.mem_of_getElem? (i := 39) rfl)) (hw _ (List.mem_of_getElem? (i := 38) rfl)) (hw _ (List.mem_of_getElem? (i := 40) rfl)) (hw _ (List.mem_of_getElem? (i := 2) rfl)) (by decide) (own_m7 hw a264 a277 a278 3 (0 : Int32) (fun _ => (0 : Int32)) (fun _ => (-1 : Int32)) (0 : Int32) 0 0 (1 : Int32) Z296 F284 ga266 ga280 ga282 ne293 ne294 F292 F285 F286 F287 F288 F289 (by decide) (by decide) (by decide) (by decide) (by decide)) (by decide) (by decide) (lenOf own_pd1 rfl) rfl (Nat.le_of_eq rfl) at_63 rfl rfl (by decide) (by decide) (fun v507 h508 hq509 => ?_)
        obtain ⟨rfl, K510, F511, F512, F513, F514, F515, F516⟩ := hq509
        have Z518 : n0 ≤ h508.size := Nat.le_trans Z296 K510.1
        have F519 : Exa Z h508 a264 "com/example/murmuration/murmuration/search/IndexedSet" := Exa.keep F284 K510
        show own_Run p_ l e_ _ s_ m_ _ b_ mt_ c_ n0 _ h508 _ _ (mkF m_ 66 #[.val (.int p0), .val (.int p1), .val (.ref a264), .val (.int (0 : Int32)), .val (.int (1 : Int32)), .val (.int (1 : Int32)), .unset, .unset] [])
        refine own_iload C (pc' := 68) at_66 rfl rfl ?_
        refine own_i0_eq C (pc1 := 76) (pc2 := 71) at_68 rfl rfl (fun c520 => absurd c520 (by decide)) (fun c520 => ?_)
        refine own_aloadN C (pc' := 72) at_71 rfl rfl rfl ?_
        refine own_iconst C (pc' := 73) (v := (1 : Int32)) at_72 rfl (by decide) ?_
        refine own_callV C (pc' := 76) (y := (⟨"com/example/murmuration/murmuration/search/IndexedSet", "add", "(I)V"⟩ : MethodName)) (a := a264) (argsL := [(.int (1 : Int32))]) (rest := []) 0 F511 (hw _ (List.mem_of_getElem? (i := 36) rfl)) (hw _ (List.mem_of_getElem? (i := 37) rfl)) (hw _ (List.mem_of_getElem? (i := 39) rfl)) (hw _ (List.mem_of_getElem? (i := 38) rfl)) (hw _ (List.mem_of_getElem? (i := 40) rfl)) (hw _ (List.mem_of_getElem? (i := 2) rfl)) (by decide) (own_m7 hw a264 a277 a278 3 (1 : Int32) (own_upd (fun _ => (0 : Int32)) 0 (0 : Int32)) (own_upd (fun _ => (-1 : Int32)) 0 (0 : Int32)) (1 : Int32) 1 1 (2 : Int32) Z518 F511 ga266 ga280 ga282 ne293 ne294 F292 F512 F513 F514 F515 F516 (by decide) (by decide) (by decide) (by decide) (by decide)) (by decide) (by decide) (lenOf own_pd1 rfl) rfl (Nat.le_of_eq rfl) at_73 rfl rfl (by decide) (by decide) (fun v521 h522 hq523 => ?_)
        obtain ⟨rfl, K524, F525, F526, F527, F528, F529, F530⟩ := hq523
        have Z532 : n0 ≤ h522.size := Nat.le_trans Z518 K524.1
        have F533 : Exa Z h522 a264 "com/example/murmuration/murmuration/search/IndexedSet" := Exa.keep F511 K524
        show own_Run p_ l e_ _ s_ m_ _ b_ mt_ c_ n0 _ h522 _ _ (mkF m_ 76 #[.val (.int p0), .val (.int p1), .val (.ref a264), .val (.int (0 : Int32)), .val (.int (1 : Int32)), .val (.int (1 : Int32)), .unset, .unset] [])
        refine own_iloadN C (pc' := 77) at_76 rfl rfl ?_
        refine own_i0_eq C (pc1 := 92) (pc2 := 80) at_77 rfl rfl (fun c534 => ?_) (fun c534 => absurd c534 (by decide))
        refine own_aloadN C (pc' := 93) at_92 rfl rfl rfl ?_
        refine own_callV C (pc' := 96) (y := (⟨"com/example/murmuration/murmuration/search/IndexedSet", "clear", "()V"⟩ : MethodName)) (a := a264) (argsL := []) (rest := []) 0 F525 (hw _ (List.mem_of_getElem? (i := 18) rfl)) (hw _ (List.mem_of_getElem? (i := 19) rfl)) (hw _ (List.mem_of_getElem? (i := 21) rfl)) (hw _ (List.mem_of_getElem? (i := 20) rfl)) (hw _ (List.mem_of_getElem? (i := 22) rfl)) (hw _ (List.mem_of_getElem? (i := 2) rfl)) (by decide) (own_clear2 hw a264 a277 a278 3 (own_upd (own_upd (fun _ => (0 : Int32)) 0 (0 : Int32)) 1 (1 : Int32)) (own_upd (own_upd (fun _ => (-1 : Int32)) 0 (0 : Int32)) 1 (1 : Int32)) (0 : Int32) (1 : Int32) 0 1 Z532 F525 ga266 ga280 ga282 ne293 ne294 F292 F526 F527 F528 F529 F530 (by omega) rfl (by decide) (by decide) rfl (by decide) (by decide)) (by decide) (by decide) (lenOf own_pd2 rfl) rfl (Nat.le_of_eq rfl) at_93 rfl rfl (by decide) (by decide) (fun v535 h536 hq537 => ?_)
        obtain ⟨rfl, K538, F539, F540, F541, F542, F543, F544⟩ := hq537
        have Z546 : n0 ≤ h536.size := Nat.le_trans Z532 K538.1
        have F547 : Exa Z h536 a264 "com/example/murmuration/murmuration/search/IndexedSet" := Exa.keep F525 K538
        show own_Run p_ l e_ _ s_ m_ _ b_ mt_ c_ n0 _ h536 _ _ (mkF m_ 96 #[.val (.int p0), .val (.int p1), .val (.ref a264), .val (.int (0 : Int32)), .val (.int (1 : Int32)), .val (.int (1 : Int32)), .unset, .unset] [])
        refine own_aloadN C (pc' := 97) at_96 rfl rfl rfl ?_
        refine own_callV C (pc' := 100) (y := (⟨"com/example/murmuration/murmuration/search/IndexedSet", "size", "()I"⟩ : MethodName)) (a := a264) (argsL := []) (rest := []) 0 F539 (hw _ (List.mem_of_getElem? (i := 25) rfl)) (hw _ (List.mem_of_getElem? (i := 26) rfl)) (hw _ (List.mem_of_getElem? (i := 28) rfl)) (hw _ (List.mem_of_getElem? (i := 27) rfl)) (hw _ (List.mem_of_getElem? (i := 29) rfl)) (hw _ (List.mem_of_getElem? (i := 2) rfl)) (by decide) (own_m5 hw a264 (0 : Int32) Z546 F542 ) (by decide) (by decide) (lenOf own_pd3 rfl) rfl (Nat.le_of_eq rfl) at_97 rfl rfl (by decide) (by decide) (fun v548 h549 hq550 => ?_)
        obtain ⟨rfl, rfl⟩ := hq550
        show own_Run p_ l e_ _ s_ m_ _ b_ mt_ c_ n0 _ h536 _ _ (mkF m_ 100 #[.val (.int p0), .val (.int p1), .val (.ref a264), .val (.int (0 : Int32)), .val (.int (1 : Int32)), .val (.int (1 : Int32)), .unset, .unset] [(.int (0 : Int32))])
        refine own_i0_ne C (pc1 := 131) (pc2 := 103) at_100 rfl rfl (fun c551 => absurd c551 (by decide)) (fun c551 => ?_)
        refine own_aloadN C (pc' := 104) at_103 rfl rfl rfl ?_
        refine own_iconst C (pc' := 105) (v := (0 : Int32)) at_104 rfl (by decide) ?_
        refine own_callV C (pc' := 108) (y := (⟨"com/example/murmuration/murmuration/search/IndexedSet", "contains", "(I)Z"⟩ : MethodName)) (a := a264) (argsL := [(.int (0 : Int32))]) (rest := []) 0 F539 (hw _ (List.mem_of_getElem? (i := 30) rfl)) (hw _ (List.mem_of_getElem? (i := 31) rfl)) (hw _ (List.mem_of_getElem? (i := 33) rfl)) (hw _ (List.mem_of_getElem? (i := 32) rfl)) (hw _ (List.mem_of_getElem? (i := 34) rfl)) (hw _ (List.mem_of_getElem? (i := 2) rfl)) (by decide) (own_m6 hw a264 a278 3 (own_upd (own_upd (own_upd (own_upd (fun _ => (-1 : Int32)) 0 (0 : Int32)) 1 (1 : Int32)) 0 (-1 : Int32)) 1 (-1 : Int32)) (0 : Int32) 0 (0 : Int32) Z546 F541 F544 (by decide) (by decide) (by decide)) (by decide) (by decide) (lenOf own_pd4 rfl) rfl (Nat.le_of_eq rfl) at_105 rfl rfl (by decide) (by decide) (fun v552 h553 hq554 => ?_)
        obtain ⟨rfl, rfl⟩ := hq554
        show own_Run p_ l e_ _ s_ m_ _ b_ mt_ c_ n0 _ h536 _ _ (mkF m_ 108 #[.val (.int p0), .val (.int p1), .val (.ref a264), .val (.int (0 : Int32)), .val (.int (1 : Int32)), .val (.int (1 : Int32)), .unset, .unset] [(.int (0 : Int32))])
        refine own_i0_ne C (pc1 := 131) (pc2 := 111) at_108 rfl rfl (fun c555 => absurd c555 (by decide)) (fun c555 => ?_)
        refine own_aloadN C (pc' := 112) at_111 rfl rfl rfl ?_
        refine own_iconst C (pc' := 113) (v := (1 : Int32)) at_112 rfl (by decide) ?_
        refine own_callV C (pc' := 116) (y := (⟨"com/example/murmuration/murmuration/search/IndexedSet", "contains", "(I)Z"⟩ : MethodName)) (a := a264) (argsL := [(.int (1 : Int32))]) (rest := []) 0 F539 (hw _ (List.mem_of_getElem? (i := 30) rfl)) (hw _ (List.mem_of_getElem? (i := 31) rfl)) (hw _ (List.mem_of_getElem? (i := 33) rfl)) (hw _ (List.mem_of_getElem? (i := 32) rfl)) (hw _ (List.mem_of_getElem? (i := 34) rfl)) (hw _ (List.mem_of_getElem? (i := 2) rfl)) (by decide) (own_m6 hw a264 a278 3 (own_upd (own_upd (own_upd (own_upd (fun _ => (-1 : Int32)) 0 (0 : Int32)) 1 (1 : Int32)) 0 (-1 : Int32)) 1 (-1 : Int32)) (1 : Int32) 1 (0 : Int32) Z546 F541 F544 (by decide) (by decide) (by decide)) (by decide) (by decide) (lenOf own_pd4 rfl) rfl (Nat.le_of_eq rfl) at_113 rfl rfl (by decide) (by decide) (fun v556 h557 hq558 => ?_)
        obtain ⟨rfl, rfl⟩ := hq558
        show own_Run p_ l e_ _ s_ m_ _ b_ mt_ c_ n0 _ h536 _ _ (mkF m_ 116 #[.val (.int p0), .val (.int p1), .val (.ref a264), .val (.int (0 : Int32)), .val (.int (1 : Int32)), .val (.int (1 : Int32)), .unset, .unset] [(.int (0 : Int32))])
        refine own_i0_ne C (pc1 := 131) (pc2 := 119) at_116 rfl rfl (fun c559 => absurd c559 (by decide)) (fun c559 => ?_)
        refine own_aloadN C (pc' := 120) at_119 rfl rfl rfl ?_
        refine own_iconst C (pc' := 121) (v := (2 : Int32)) at_120 rfl (by decide) ?_
        refine own_callV C (pc' := 124) (y := (⟨"com/example/murmuration/murmuration/search/IndexedSet", "contains", "(I)Z"⟩ : MethodName)) (a := a264) (argsL := [(.int (2 : Int32))]) (rest := []) 0 F539 (hw _ (List.mem_of_getElem? (i := 30) rfl)) (hw _ (List.mem_of_getElem? (i := 31) rfl)) (hw _ (List.mem_of_getElem? (i := 33) rfl)) (hw _ (List.mem_of_getElem? (i := 32) rfl)) (hw _ (List.mem_of_getElem? (i := 34) rfl)) (hw _ (List.mem_of_getElem? (i := 2) rfl)) (by decide) (own_m6 hw a264 a278 3 (own_upd (own_upd (own_upd (own_upd (fun _ => (-1 : Int32)) 0 (0 : Int32)) 1 (1 : Int32)) 0 (-1 : Int32)) 1 (-1 : Int32)) (2 : Int32) 2 (0 : Int32) Z546 F541 F544 (by decide) (by decide) (by decide)) (by decide) (by decide) (lenOf own_pd4 rfl) rfl (Nat.le_of_eq rfl) at_121 rfl rfl (by decide) (by decide) (fun v560 h561 hq562 => ?_)
        obtain ⟨rfl, rfl⟩ := hq562
        show own_Run p_ l e_ _ s_ m_ _ b_ mt_ c_ n0 _ h536 _ _ (mkF m_ 124 #[.val (.int p0), .val (.int p1), .val (.ref a264), .val (.int (0 : Int32)), .val (.int (1 : Int32)), .val (.int (1 : Int32)), .unset, .unset] [(.int (0 : Int32))])
        refine own_i0_ne C (pc1 := 131) (pc2 := 127) at_124 rfl rfl (fun c563 => absurd c563 (by decide)) (fun c563 => ?_)
        refine own_iconst C (pc' := 128) (v := (1 : Int32)) at_127 rfl (by decide) ?_
        refine own_goto C (pc' := 132) at_128 rfl ?_
        refine own_istore C (pc' := 134) (Ls' := #[.val (.int p0), .val (.int p1), .val (.ref a264), .val (.int (0 : Int32)), .val (.int (1 : Int32)), .val (.int (1 : Int32)), .val (.int (1 : Int32)), .unset]) at_132 rfl rfl ?_
        refine own_iloadN C (pc' := 135) at_134 rfl rfl ?_
        refine own_ldc C (pc' := 137) (v := (2147483647 : Int32)) at_135 rfl (hw _ (List.mem_of_getElem? (i := 35) rfl)) ?_
        refine own_iand C (pc' := 138) at_137 rfl ?_
        refine own_iconst C (pc' := 139) (v := (3 : Int32)) at_138 rfl (by decide) ?_
        refine own_irem C (pc' := 140) at_139 rfl (by decide) ?_
        refine own_istore C (pc' := 142) (Ls' := #[.val (.int p0), .val (.int p1), .val (.ref a264), .val (.int (0 : Int32)), .val (.int (1 : Int32)), .val (.int (1 : Int32)), .val (.int (1 : Int32)), .val (.int ((p1 &&& (2147483647 : Int32)) % (3 : Int32)))]) at_140 rfl rfl ?_
        obtain ⟨A565, b566, hA567⟩ := own_rem p1 (n := (3 : Int32)) (N := 3) (by decide) (by decide)
        generalize ((p1 &&& (2147483647 : Int32)) % (3 : Int32)) = x564 at hA567 ⊢
        show own_Run p_ l e_ _ s_ m_ _ b_ mt_ c_ n0 _ h536 _ _ (mkF m_ 142 #[.val (.int p0), .val (.int p1), .val (.ref a264), .val (.int (0 : Int32)), .val (.int (1 : Int32)), .val (.int (1 : Int32)), .val (.int (1 : Int32)), .val (.int x564)] [])
        refine own_aloadN C (pc' := 143) at_142 rfl rfl rfl ?_
        refine own_iload C (pc' := 145) at_143 rfl rfl ?_
        refine own_callV C (pc' := 148) (y := (⟨"com/example/murmuration/murmuration/search/IndexedSet", "add", "(I)V"⟩ : MethodName)) (a := a264) (argsL := [(.int x564)]) (rest := []) 0 F539 (hw _ (List.mem_of_getElem? (i := 36) rfl)) (hw _ (List.mem_of_getElem? (i := 37) rfl)) (hw _ (List.mem_of_getElem? (i := 39) rfl)) (hw _ (List.mem_of_getElem? (i := 38) rfl)) (hw _ (List.mem_of_getElem? (i := 40) rfl)) (hw _ (List.mem_of_getElem? (i := 2) rfl)) (by decide) (own_m7 hw a264 a277 a278 3 (0 : Int32) (own_upd (own_upd (fun _ => (0 : Int32)) 0 (0 : Int32)) 1 (1 : Int32)) (own_upd (own_upd (own_upd (own_upd (fun _ => (-1 : Int32)) 0 (0 : Int32)) 1 (1 : Int32)) 0 (-1 : Int32)) 1 (-1 : Int32)) x564 A565 0 (1 : Int32) Z546 F539 ga266 ga280 ga282 ne293 ne294 F292 F540 F541 F542 F543 F544 hA567 (by omega) (by decide) (by decide) (by decide)) (by decide) (by decide) (lenOf own_pd1 rfl) rfl (Nat.le_of_eq rfl) at_145 rfl rfl (by decide) (by decide) (fun v568 h569 hq570 => ?_)
        obtain ⟨rfl, K571, F572, F573, F574, F575, F576, F577⟩ := hq570
        have Z579 : n0 ≤ h569.size := Nat.le_trans Z546 K571.1
        have F580 : Exa Z h569 a264 "com/example/murmuration/murmuration/search/IndexedSet" := Exa.keep F539 K571
        show own_Run p_ l e_ _ s_ m_ _ b_ mt_ c_ n0 _ h569 _ _ (mkF m_ 148 #[.val (.int p0), .val (.int p1), .val (.ref a264), .val (.int (0 : Int32)), .val (.int (1 : Int32)), .val (.int (1 : Int32)), .val (.int (1 : Int32)), .val (.int x564)] [])
        refine own_iload C (pc' := 150) at_148 rfl rfl ?_
        refine own_i0_eq C (pc1 := 176) (pc2 := 153) at_150 rfl rfl (fun c581 => absurd c581 (by decide)) (fun c581 => ?_)
        refine own_aloadN C (pc' := 154) at_153 rfl rfl rfl ?_
        refine own_iconst C (pc' := 155) (v := (0 : Int32)) at_154 rfl (by decide) ?_
        refine own_callV C (pc' := 158) (y := (⟨"com/example/murmuration/murmuration/search/IndexedSet", "get", "(I)I"⟩ : MethodName)) (a := a264) (argsL := [(.int (0 : Int32))]) (rest := []) 0 F572 (hw _ (List.mem_of_getElem? (i := 41) rfl)) (hw _ (List.mem_of_getElem? (i := 42) rfl)) (hw _ (List.mem_of_getElem? (i := 44) rfl)) (hw _ (List.mem_of_getElem? (i := 43) rfl)) (hw _ (List.mem_of_getElem? (i := 45) rfl)) (hw _ (List.mem_of_getElem? (i := 2) rfl)) (by decide) (own_m8 hw a264 a277 3 (own_upd (own_upd (own_upd (fun _ => (0 : Int32)) 0 (0 : Int32)) 1 (1 : Int32)) 0 x564) (0 : Int32) 0 x564 Z579 F573 F576 (by decide) (by decide) rfl) (by decide) (by decide) (lenOf own_pd5 rfl) rfl (Nat.le_of_eq rfl) at_155 rfl rfl (by decide) (by decide) (fun v582 h583 hq584 => ?_)
        obtain ⟨rfl, rfl⟩ := hq584
        show own_Run p_ l e_ _ s_ m_ _ b_ mt_ c_ n0 _ h569 _ _ (mkF m_ 158 #[.val (.int p0), .val (.int p1), .val (.ref a264), .val (.int (0 : Int32)), .val (.int (1 : Int32)), .val (.int (1 : Int32)), .val (.int (1 : Int32)), .val (.int x564)] [(.int x564)])
        refine own_iload C (pc' := 160) at_158 rfl rfl ?_
        refine own_ii_ne C (pc1 := 176) (pc2 := 163) at_160 rfl rfl (fun c585 => absurd c585 (not_not_intro rfl)) (fun c585 => ?_)
        refine own_aloadN C (pc' := 164) at_163 rfl rfl rfl ?_
        refine own_iload C (pc' := 166) at_164 rfl rfl ?_
        refine own_callV C (pc' := 169) (y := (⟨"com/example/murmuration/murmuration/search/IndexedSet", "contains", "(I)Z"⟩ : MethodName)) (a := a264) (argsL := [(.int x564)]) (rest := []) 0 F572 (hw _ (List.mem_of_getElem? (i := 30) rfl)) (hw _ (List.mem_of_getElem? (i := 31) rfl)) (hw _ (List.mem_of_getElem? (i := 33) rfl)) (hw _ (List.mem_of_getElem? (i := 32) rfl)) (hw _ (List.mem_of_getElem? (i := 34) rfl)) (hw _ (List.mem_of_getElem? (i := 2) rfl)) (by decide) (own_m6 hw a264 a278 3 (own_upd (own_upd (own_upd (own_upd (own_upd (fun _ => (-1 : Int32)) 0 (0 : Int32)) 1 (1 : Int32)) 0 (-1 : Int32)) 1 (-1 : Int32)) A565 (0 : Int32)) x564 A565 (1 : Int32) Z579 F574 F577 hA567 (by omega) (by simp [own_upd])) (by decide) (by decide) (lenOf own_pd4 rfl) rfl (Nat.le_of_eq rfl) at_166 rfl rfl (by decide) (by decide) (fun v586 h587 hq588 => ?_)
        obtain ⟨rfl, rfl⟩ := hq588
        show own_Run p_ l e_ _ s_ m_ _ b_ mt_ c_ n0 _ h569 _ _ (mkF m_ 169 #[.val (.int p0), .val (.int p1), .val (.ref a264), .val (.int (0 : Int32)), .val (.int (1 : Int32)), .val (.int (1 : Int32)), .val (.int (1 : Int32)), .val (.int x564)] [(.int (1 : Int32))])
        refine own_i0_eq C (pc1 := 176) (pc2 := 172) at_169 rfl rfl (fun c589 => absurd c589 (by decide)) (fun c589 => ?_)
        refine own_iconst C (pc' := 173) (v := (1 : Int32)) at_172 rfl (by decide) ?_
        refine own_goto C (pc' := 177) at_173 rfl ?_
        exact own_ret C (t := .boolean) rfl rfl (Or.inl ⟨rfl, by simp, _, rfl⟩) at_177 (by decide) (by decide) (rfl)
  · skip
    refine own_iconst C (pc' := 16) (v := (1 : Int32)) at_15 rfl (by decide) ?_
    refine own_goto C (pc' := 20) at_16 rfl ?_
    refine own_istoreN C (pc' := 21) (Ls' := #[.val (.int p0), .val (.int p1), .val (.ref a264), .val (.int (1 : Int32)), .unset, .unset, .unset, .unset]) at_20 rfl rfl ?_
    refine own_iloadN C (pc' := 22) at_21 rfl rfl ?_
    refine own_iconst C (pc' := 23) (v := (2 : Int32)) at_22 rfl (by decide) ?_
    refine own_iand C (pc' := 24) at_23 rfl ?_
    refine own_i0_eq C (pc1 := 31) (pc2 := 27) at_24 rfl rfl (fun c590 => ?_) (fun c590 => ?_)
    · skip
      refine own_iconst C (pc' := 32) (v := (0 : Int32)) at_31 rfl (by decide) ?_
      refine own_istore C (pc' := 34) (Ls' := #[.val (.int p0), .val (.int p1), .val (.ref a264), .val (.int (1 : Int32)), .val (.int (0 : Int32)), .unset, .unset, .unset]) at_32 rfl rfl ?_
      refine own_iloadN C (pc' := 35) at_34 rfl rfl ?_
      refine own_iconst C (pc' := 36) (v := (4 : Int32)) at_35 rfl (by decide) ?_
      refine own_iand C (pc' := 37) at_36 rfl ?_
      refine own_i0_eq C (pc1 := 44) (pc2 := 40) at_37 rfl rfl (fun c591 => ?_) (fun c591 => ?_)
      · skip
        refine own_iconst C (pc' := 45) (v := (0 : Int32)) at_44 rfl (by decide) ?_
        refine own_istore C (pc' := 47) (Ls' := #[.val (.int p0), .val (.int p1), .val (.ref a264), .val (.int (1 : Int32)), .val (.int (0 : Int32)), .val (.int (0 : Int32)), .unset, .unset]) at_45 rfl rfl ?_
        refine own_iloadN C (pc' := 48) at_47 rfl rfl ?_
        refine own_i0_eq C (pc1 := 56) (pc2 := 51) at_48 rfl rfl (fun c592 => absurd c592 (by decide)) (fun c592 => ?_)
        refine own_aloadN C (pc' := 52) at_51 rfl rfl rfl ?_
        refine own_iconst C (pc' := 53) (v := (2 : Int32)) at_52 rfl (by decide) ?_
        refine own_callV C (pc' := 56) (y := (⟨"com/example/murmuration/murmuration/search/IndexedSet", "add", "(I)V"⟩ : MethodName)) (a := a264) (argsL := [(.int (2 : Int32))]) (rest := []) 0 F284 (hw _ (List.mem_of_getElem? (i := 36) rfl)) (hw _ (List.mem_of_getElem? (i := 37) rfl)) (hw _ (List.mem_of_getElem? (i := 39) rfl)) (hw _ (List.mem_of_getElem? (i := 38) rfl)) (hw _ (List.mem_of_getElem? (i := 40) rfl)) (hw _ (List.mem_of_getElem? (i := 2) rfl)) (by decide) (own_m7 hw a264 a277 a278 3 (0 : Int32) (fun _ => (0 : Int32)) (fun _ => (-1 : Int32)) (2 : Int32) 2 0 (1 : Int32) Z296 F284 ga266 ga280 ga282 ne293 ne294 F292 F285 F286 F287 F288 F289 (by decide) (by decide) (by decide) (by decide) (by decide)) (by decide) (by decide) (lenOf own_pd1 rfl) rfl (Nat.le_of_eq rfl) at_53 rfl rfl (by decide) (by decide) (fun v593 h594 hq595 => ?_)
        obtain ⟨rfl, K596, F597, F598, F599, F600, F601, F602⟩ := hq595
        have Z604 : n0 ≤ h594.size := Nat.le_trans Z296 K596.1
        have F605 : Exa Z h594 a264 "com/example/murmuration/murmuration/search/IndexedSet" := Exa.keep F284 K596
        show own_Run p_ l e_ _ s_ m_ _ b_ mt_ c_ n0 _ h594 _ _ (mkF m_ 56 #[.val (.int p0), .val (.int p1), .val (.ref a264), .val (.int (1 : Int32)), .val (.int (0 : Int32)), .val (.int (0 : Int32)), .unset, .unset] [])
        refine own_iload C (pc' := 58) at_56 rfl rfl ?_
        refine own_i0_eq C (pc1 := 66) (pc2 := 61) at_58 rfl rfl (fun c606 => ?_) (fun c606 => absurd c606 (by decide))
        refine own_iload C (pc' := 68) at_66 rfl rfl ?_
        refine own_i0_eq C (pc1 := 76) (pc2 := 71) at_68 rfl rfl (fun c607 => ?_) (fun c607 => absurd c607 (by decide))
        refine own_iloadN C (pc' := 77) at_76 rfl rfl ?_
        refine own_i0_eq C (pc1 := 92) (pc2 := 80) at_77 rfl rfl (fun c608 => absurd c608 (by decide)) (fun c608 => ?_)
        refine own_iloadN C (pc' := 81) at_80 rfl rfl ?_
        refine own_bipush C (pc' := 83) (v := (8 : Int32)) at_81 rfl (by decide) ?_
        refine own_iand C (pc' := 84) at_83 rfl ?_
        refine own_i0_eq C (pc1 := 92) (pc2 := 87) at_84 rfl rfl (fun c609 => ?_) (fun c609 => ?_)
        · skip
          refine own_aloadN C (pc' := 93) at_92 rfl rfl rfl ?_
          refine own_callV C (pc' := 96) (y := (⟨"com/example/murmuration/murmuration/search/IndexedSet", "clear", "()V"⟩ : MethodName)) (a := a264) (argsL := []) (rest := []) 0 F597 (hw _ (List.mem_of_getElem? (i := 18) rfl)) (hw _ (List.mem_of_getElem? (i := 19) rfl)) (hw _ (List.mem_of_getElem? (i := 21) rfl)) (hw _ (List.mem_of_getElem? (i := 20) rfl)) (hw _ (List.mem_of_getElem? (i := 22) rfl)) (hw _ (List.mem_of_getElem? (i := 2) rfl)) (by decide) (own_clear1 hw a264 a277 a278 3 (own_upd (fun _ => (0 : Int32)) 0 (2 : Int32)) (own_upd (fun _ => (-1 : Int32)) 2 (0 : Int32)) (2 : Int32) 2 Z604 F597 ga266 ga280 ga282 ne293 ne294 F292 F598 F599 F600 F601 F602 (by omega) rfl (by decide) (by decide)) (by decide) (by decide) (lenOf own_pd2 rfl) rfl (Nat.le_of_eq rfl) at_93 rfl rfl (by decide) (by decide) (fun v610 h611 hq612 => ?_)
          obtain ⟨rfl, K613, F614, F615, F616, F617, F618, F619⟩ := hq612
          have Z621 : n0 ≤ h611.size := Nat.le_trans Z604 K613.1
          have F622 : Exa Z h611 a264 "com/example/murmuration/murmuration/search/IndexedSet" := Exa.keep F597 K613
          show own_Run p_ l e_ _ s_ m_ _ b_ mt_ c_ n0 _ h611 _ _ (mkF m_ 96 #[.val (.int p0), .val (.int p1), .val (.ref a264), .val (.int (1 : Int32)), .val (.int (0 : Int32)), .val (.int (0 : Int32)), .unset, .unset] [])
          refine own_aloadN C (pc' := 97) at_96 rfl rfl rfl ?_
          refine own_callV C (pc' := 100) (y := (⟨"com/example/murmuration/murmuration/search/IndexedSet", "size", "()I"⟩ : MethodName)) (a := a264) (argsL := []) (rest := []) 0 F614 (hw _ (List.mem_of_getElem? (i := 25) rfl)) (hw _ (List.mem_of_getElem? (i := 26) rfl)) (hw _ (List.mem_of_getElem? (i := 28) rfl)) (hw _ (List.mem_of_getElem? (i := 27) rfl)) (hw _ (List.mem_of_getElem? (i := 29) rfl)) (hw _ (List.mem_of_getElem? (i := 2) rfl)) (by decide) (own_m5 hw a264 (0 : Int32) Z621 F617 ) (by decide) (by decide) (lenOf own_pd3 rfl) rfl (Nat.le_of_eq rfl) at_97 rfl rfl (by decide) (by decide) (fun v623 h624 hq625 => ?_)
          obtain ⟨rfl, rfl⟩ := hq625
          show own_Run p_ l e_ _ s_ m_ _ b_ mt_ c_ n0 _ h611 _ _ (mkF m_ 100 #[.val (.int p0), .val (.int p1), .val (.ref a264), .val (.int (1 : Int32)), .val (.int (0 : Int32)), .val (.int (0 : Int32)), .unset, .unset] [(.int (0 : Int32))])
          refine own_i0_ne C (pc1 := 131) (pc2 := 103) at_100 rfl rfl (fun c626 => absurd c626 (by decide)) (fun c626 => ?_)
          refine own_aloadN C (pc' := 104) at_103 rfl rfl rfl ?_
          refine own_iconst C (pc' := 105) (v := (0 : Int32)) at_104 rfl (by decide) ?_
          refine own_callV C (pc' := 108) (y := (⟨"com/example/murmuration/murmuration/search/IndexedSet", "contains", "(I)Z"⟩ : MethodName)) (a := a264) (argsL := [(.int (0 : Int32))]) (rest := []) 0 F614 (hw _ (List.mem_of_getElem? (i := 30) rfl)) (hw _ (List.mem_of_getElem? (i := 31) rfl)) (hw _ (List.mem_of_getElem? (i := 33) rfl)) (hw _ (List.mem_of_getElem? (i := 32) rfl)) (hw _ (List.mem_of_getElem? (i := 34) rfl)) (hw _ (List.mem_of_getElem? (i := 2) rfl)) (by decide) (own_m6 hw a264 a278 3 (own_upd (own_upd (fun _ => (-1 : Int32)) 2 (0 : Int32)) 2 (-1 : Int32)) (0 : Int32) 0 (0 : Int32) Z621 F616 F619 (by decide) (by decide) (by decide)) (by decide) (by decide) (lenOf own_pd4 rfl) rfl (Nat.le_of_eq rfl) at_105 rfl rfl (by decide) (by decide) (fun v627 h628 hq629 => ?_)
          obtain ⟨rfl, rfl⟩ := hq629
          show own_Run p_ l e_ _ s_ m_ _ b_ mt_ c_ n0 _ h611 _ _ (mkF m_ 108 #[.val (.int p0), .val (.int p1), .val (.ref a264), .val (.int (1 : Int32)), .val (.int (0 : Int32)), .val (.int (0 : Int32)), .unset, .unset] [(.int (0 : Int32))])
          refine own_i0_ne C (pc1 := 131) (pc2 := 111) at_108 rfl rfl (fun c630 => absurd c630 (by decide)) (fun c630 => ?_)
          refine own_aloadN C (pc' := 112) at_111 rfl rfl rfl ?_
          refine own_iconst C (pc' := 113) (v := (1 : Int32)) at_112 rfl (by decide) ?_
          refine own_callV C (pc' := 116) (y := (⟨"com/example/murmuration/murmuration/search/IndexedSet", "contains", "(I)Z"⟩ : MethodName)) (a := a264) (argsL := [(.int (1 : Int32))]) (rest := []) 0 F614 (hw _ (List.mem_of_getElem? (i := 30) rfl)) (hw _ (List.mem_of_getElem? (i := 31) rfl)) (hw _ (List.mem_of_getElem? (i := 33) rfl)) (hw _ (List.mem_of_getElem? (i := 32) rfl)) (hw _ (List.mem_of_getElem? (i := 34) rfl)) (hw _ (List.mem_of_getElem? (i := 2) rfl)) (by decide) (own_m6 hw a264 a278 3 (own_upd (own_upd (fun _ => (-1 : Int32)) 2 (0 : Int32)) 2 (-1 : Int32)) (1 : Int32) 1 (0 : Int32) Z621 F616 F619 (by decide) (by decide) (by decide)) (by decide) (by decide) (lenOf own_pd4 rfl) rfl (Nat.le_of_eq rfl) at_113 rfl rfl (by decide) (by decide) (fun v631 h632 hq633 => ?_)
          obtain ⟨rfl, rfl⟩ := hq633
          show own_Run p_ l e_ _ s_ m_ _ b_ mt_ c_ n0 _ h611 _ _ (mkF m_ 116 #[.val (.int p0), .val (.int p1), .val (.ref a264), .val (.int (1 : Int32)), .val (.int (0 : Int32)), .val (.int (0 : Int32)), .unset, .unset] [(.int (0 : Int32))])
          refine own_i0_ne C (pc1 := 131) (pc2 := 119) at_116 rfl rfl (fun c634 => absurd c634 (by decide)) (fun c634 => ?_)
          refine own_aloadN C (pc' := 120) at_119 rfl rfl rfl ?_
          refine own_iconst C (pc' := 121) (v := (2 : Int32)) at_120 rfl (by decide) ?_
          refine own_callV C (pc' := 124) (y := (⟨"com/example/murmuration/murmuration/search/IndexedSet", "contains", "(I)Z"⟩ : MethodName)) (a := a264) (argsL := [(.int (2 : Int32))]) (rest := []) 0 F614 (hw _ (List.mem_of_getElem? (i := 30) rfl)) (hw _ (List.mem_of_getElem? (i := 31) rfl)) (hw _ (List.mem_of_getElem? (i := 33) rfl)) (hw _ (List.mem_of_getElem? (i := 32) rfl)) (hw _ (List.mem_of_getElem? (i := 34) rfl)) (hw _ (List.mem_of_getElem? (i := 2) rfl)) (by decide) (own_m6 hw a264 a278 3 (own_upd (own_upd (fun _ => (-1 : Int32)) 2 (0 : Int32)) 2 (-1 : Int32)) (2 : Int32) 2 (0 : Int32) Z621 F616 F619 (by decide) (by decide) (by decide)) (by decide) (by decide) (lenOf own_pd4 rfl) rfl (Nat.le_of_eq rfl) at_121 rfl rfl (by decide) (by decide) (fun v635 h636 hq637 => ?_)
          obtain ⟨rfl, rfl⟩ := hq637
          show own_Run p_ l e_ _ s_ m_ _ b_ mt_ c_ n0 _ h611 _ _ (mkF m_ 124 #[.val (.int p0), .val (.int p1), .val (.ref a264), .val (.int (1 : Int32)), .val (.int (0 : Int32)), .val (.int (0 : Int32)), .unset, .unset] [(.int (0 : Int32))])
          refine own_i0_ne C (pc1 := 131) (pc2 := 127) at_124 rfl rfl (fun c638 => absurd c638 (by decide)) (fun c638 => ?_)
          refine own_iconst C (pc' := 128) (v := (1 : Int32)) at_127 rfl (by decide) ?_
          refine own_goto C (pc' := 132) at_128 rfl ?_
          refine own_istore C (pc' := 134) (Ls' := #[.val (.int p0), .val (.int p1), .val (.ref a264), .val (.int (1 : Int32)), .val (.int (0 : Int32)), .val (.int (0 : Int32)), .val (.int (1 : Int32)), .unset]) at_132 rfl rfl ?_
          refine own_iloadN C (pc' := 135) at_134 rfl rfl ?_
          refine own_ldc C (pc' := 137) (v := (2147483647 : Int32)) at_135 rfl (hw _ (List.mem_of_getElem? (i := 35) rfl)) ?_
          refine own_iand C (pc' := 138) at_137 rfl ?_
          refine own_iconst C (pc' := 139) (v := (3 : Int32)) at_138 rfl (by decide) ?_
          refine own_irem C (pc' := 140) at_139 rfl (by decide) ?_
          refine own_istore C (pc' := 142) (Ls' := #[.val (.int p0), .val (.int p1), .val (.ref a264), .val (.int (1 : Int32)), .val (.int (0 : Int32)), .val (.int (0 : Int32)), .val (.int (1 : Int32)), .val (.int ((p1 &&& (2147483647 : Int32)) % (3 : Int32)))]) at_140 rfl rfl ?_
          obtain ⟨A640, b641, hA642⟩ := own_rem p1 (n := (3 : Int32)) (N := 3) (by decide) (by decide)
          generalize ((p1 &&& (2147483647 : Int32)) % (3 : Int32)) = x639 at hA642 ⊢
          show own_Run p_ l e_ _ s_ m_ _ b_ mt_ c_ n0 _ h611 _ _ (mkF m_ 142 #[.val (.int p0), .val (.int p1), .val (.ref a264), .val (.int (1 : Int32)), .val (.int (0 : Int32)), .val (.int (0 : Int32)), .val (.int (1 : Int32)), .val (.int x639)] [])
          refine own_aloadN C (pc' := 143) at_142 rfl rfl rfl ?_
          refine own_iload C (pc' := 145) at_143 rfl rfl ?_
          refine own_callV C (pc' := 148) (y := (⟨"com/example/murmuration/murmuration/search/IndexedSet", "add", "(I)V"⟩ : MethodName)) (a := a264) (argsL := [(.int x639)]) (rest := []) 0 F614 (hw _ (List.mem_of_getElem? (i := 36) rfl)) (hw _ (List.mem_of_getElem? (i := 37) rfl)) (hw _ (List.mem_of_getElem? (i := 39) rfl)) (hw _ (List.mem_of_getElem? (i := 38) rfl)) (hw _ (List.mem_of_getElem? (i := 40) rfl)) (hw _ (List.mem_of_getElem? (i := 2) rfl)) (by decide) (own_m7 hw a264 a277 a278 3 (0 : Int32) (own_upd (fun _ => (0 : Int32)) 0 (2 : Int32)) (own_upd (own_upd (fun _ => (-1 : Int32)) 2 (0 : Int32)) 2 (-1 : Int32)) x639 A640 0 (1 : Int32) Z621 F614 ga266 ga280 ga282 ne293 ne294 F292 F615 F616 F617 F618 F619 hA642 (by omega) (by decide) (by decide) (by decide)) (by decide) (by decide) (lenOf own_pd1 rfl) rfl (Nat.le_of_eq rfl) at_145 rfl rfl (by decide) (by decide) (fun v643 h644 hq645 => ?_)
          obtain ⟨rfl, K646, F647, F648, F649, F650, F651, F652⟩ := hq645
          have Z654 : n0 ≤ h644.size := Nat.le_trans Z621 K646.1
          have F655 : Exa Z h644 a264 "com/example/murmuration/murmuration/search/IndexedSet" := Exa.keep F614 K646
          show own_Run p_ l e_ _ s_ m_ _ b_ mt_ c_ n0 _ h644 _ _ (mkF m_ 148 #[.val (.int p0), .val (.int p1), .val (.ref a264), .val (.int (1 : Int32)), .val (.int (0 : Int32)), .val (.int (0 : Int32)), .val (.int (1 : Int32)), .val (.int x639)] [])
          refine own_iload C (pc' := 150) at_148 rfl rfl ?_
          refine own_i0_eq C (pc1 := 176) (pc2 := 153) at_150 rfl rfl (fun c656 => absurd c656 (by decide)) (fun c656 => ?_)
          refine own_aloadN C (pc' := 154) at_153 rfl rfl rfl ?_
          refine own_iconst C (pc' := 155) (v := (0 : Int32)) at_154 rfl (by decide) ?_
          refine own_callV C (pc' := 158) (y := (⟨"com/example/murmuration/murmuration/search/IndexedSet", "get", "(I)I"⟩ : MethodName)) (a := a264) (argsL := [(.int (0 : Int32))]) (rest := []) 0 F647 (hw _ (List.mem_of_getElem? (i := 41) rfl)) (hw _ (List.mem_of_getElem? (i := 42) rfl)) (hw _ (List.mem_of_getElem? (i := 44) rfl)) (hw _ (List.mem_of_getElem? (i := 43) rfl)) (hw _ (List.mem_of_getElem? (i := 45) rfl)) (hw _ (List.mem_of_getElem? (i := 2) rfl)) (by decide) (own_m8 hw a264 a277 3 (own_upd (own_upd (fun _ => (0 : Int32)) 0 (2 : Int32)) 0 x639) (0 : Int32) 0 x639 Z654 F648 F651 (by decide) (by decide) rfl) (by decide) (by decide) (lenOf own_pd5 rfl) rfl (Nat.le_of_eq rfl) at_155 rfl rfl (by decide) (by decide) (fun v657 h658 hq659 => ?_)
          obtain ⟨rfl, rfl⟩ := hq659
          show own_Run p_ l e_ _ s_ m_ _ b_ mt_ c_ n0 _ h644 _ _ (mkF m_ 158 #[.val (.int p0), .val (.int p1), .val (.ref a264), .val (.int (1 : Int32)), .val (.int (0 : Int32)), .val (.int (0 : Int32)), .val (.int (1 : Int32)), .val (.int x639)] [(.int x639)])
          refine own_iload C (pc' := 160) at_158 rfl rfl ?_
          refine own_ii_ne C (pc1 := 176) (pc2 := 163) at_160 rfl rfl (fun c660 => absurd c660 (not_not_intro rfl)) (fun c660 => ?_)
          refine own_aloadN C (pc' := 164) at_163 rfl rfl rfl ?_
          refine own_iload C (pc' := 166) at_164 rfl rfl ?_
          refine own_callV C (pc' := 169) (y := (⟨"com/example/murmuration/murmuration/search/IndexedSet", "contains", "(I)Z"⟩ : MethodName)) (a := a264) (argsL := [(.int x639)]) (rest := []) 0 F647 (hw _ (List.mem_of_getElem? (i := 30) rfl)) (hw _ (List.mem_of_getElem? (i := 31) rfl)) (hw _ (List.mem_of_getElem? (i := 33) rfl)) (hw _ (List.mem_of_getElem? (i := 32) rfl)) (hw _ (List.mem_of_getElem? (i := 34) rfl)) (hw _ (List.mem_of_getElem? (i := 2) rfl)) (by decide) (own_m6 hw a264 a278 3 (own_upd (own_upd (own_upd (fun _ => (-1 : Int32)) 2 (0 : Int32)) 2 (-1 : Int32)) A640 (0 : Int32)) x639 A640 (1 : Int32) Z654 F649 F652 hA642 (by omega) (by simp [own_upd])) (by decide) (by decide) (lenOf own_pd4 rfl) rfl (Nat.le_of_eq rfl) at_166 rfl rfl (by decide) (by decide) (fun v661 h662 hq663 => ?_)
          obtain ⟨rfl, rfl⟩ := hq663
          show own_Run p_ l e_ _ s_ m_ _ b_ mt_ c_ n0 _ h644 _ _ (mkF m_ 169 #[.val (.int p0), .val (.int p1), .val (.ref a264), .val (.int (1 : Int32)), .val (.int (0 : Int32)), .val (.int (0 : Int32)), .val (.int (1 : Int32)), .val (.int x639)] [(.int (1 : Int32))])
          refine own_i0_eq C (pc1 := 176) (pc2 := 172) at_169 rfl rfl (fun c664 => absurd c664 (by decide)) (fun c664 => ?_)
          refine own_iconst C (pc' := 173) (v := (1 : Int32)) at_172 rfl (by decide) ?_
          refine own_goto C (pc' := 177) at_173 rfl ?_
          exact own_ret C (t := .boolean) rfl rfl (Or.inl ⟨rfl, by simp, _, rfl⟩) at_177 (by decide) (by decide) (rfl)
        · skip
          refine own_aloadN C (pc' := 88) at_87 rfl rfl rfl ?_
          refine own_iconst C (pc' := 89) (v := (2 : Int32)) at_88 rfl (by decide) ?_
          refine own_callV C (pc' := 92) (y := (⟨"com/example/murmuration/murmuration/search/IndexedSet", "remove", "(I)V"⟩ : MethodName)) (a := a264) (argsL := [(.int (2 : Int32))]) (rest := []) 0 F597 (hw _ (List.mem_of_getElem? (i := 46) rfl)) (hw _ (List.mem_of_getElem? (i := 47) rfl)) (hw _ (List.mem_of_getElem? (i := 49) rfl)) (hw _ (List.mem_of_getElem? (i := 48) rfl)) (hw _ (List.mem_of_getElem? (i := 50) rfl)) (hw _ (List.mem_of_getElem? (i := 2) rfl)) (by decide) (own_m9 hw a264 a277 a278 3 (1 : Int32) (own_upd (fun _ => (0 : Int32)) 0 (2 : Int32)) (own_upd (fun _ => (-1 : Int32)) 2 (0 : Int32)) (2 : Int32) 2 0 (0 : Int32) (2 : Int32) 0 2 (0 : Int32) Z604 F597 ga266 ga280 ga282 ne293 ne294 F292 F598 F599 F600 F601 F602 (by decide) (by decide) rfl (by decide) (by decide) (by decide) (by decide) rfl (by decide) (by decide) (by decide)) (by decide) (by decide) (lenOf own_pd1 rfl) rfl (Nat.le_of_eq rfl) at_89 rfl rfl (by decide) (by decide) (fun v665 h666 hq667 => ?_)
          obtain ⟨rfl, K668, F669, F670, F671, F672, F673, F674⟩ := hq667
          have Z676 : n0 ≤ h666.size := Nat.le_trans Z604 K668.1
          have F677 : Exa Z h666 a264 "com/example/murmuration/murmuration/search/IndexedSet" := Exa.keep F597 K668
          show own_Run p_ l e_ _ s_ m_ _ b_ mt_ c_ n0 _ h666 _ _ (mkF m_ 92 #[.val (.int p0), .val (.int p1), .val (.ref a264), .val (.int (1 : Int32)), .val (.int (0 : Int32)), .val (.int (0 : Int32)), .unset, .unset] [])
          refine own_aloadN C (pc' := 93) at_92 rfl rfl rfl ?_
          refine own_callV C (pc' := 96) (y := (⟨"com/example/murmuration/murmuration/search/IndexedSet", "clear", "()V"⟩ : MethodName)) (a := a264) (argsL := []) (rest := []) 0 F669 (hw _ (List.mem_of_getElem? (i := 18) rfl)) (hw _ (List.mem_of_getElem? (i := 19) rfl)) (hw _ (List.mem_of_getElem? (i := 21) rfl)) (hw _ (List.mem_of_getElem? (i := 20) rfl)) (hw _ (List.mem_of_getElem? (i := 22) rfl)) (hw _ (List.mem_of_getElem? (i := 2) rfl)) (by decide) (own_clear0 hw a264 a277 a278 3 (own_upd (own_upd (fun _ => (0 : Int32)) 0 (2 : Int32)) 0 (2 : Int32)) (own_upd (own_upd (own_upd (fun _ => (-1 : Int32)) 2 (0 : Int32)) 2 (0 : Int32)) 2 (-1 : Int32)) Z676 F669 ga266 ga280 ga282 ne293 ne294 F292 F670 F671 F672 F673 F674 (by omega)) (by decide) (by decide) (lenOf own_pd2 rfl) rfl (Nat.le_of_eq rfl) at_93 rfl rfl (by decide) (by decide) (fun v678 h679 hq680 => ?_)
          obtain ⟨rfl, K681, F682, F683, F684, F685, F686, F687⟩ := hq680
          have Z689 : n0 ≤ h679.size := Nat.le_trans Z676 K681.1
          have F690 : Exa Z h679 a264 "com/example/murmuration/murmuration/search/IndexedSet" := Exa.keep F669 K681
          show own_Run p_ l e_ _ s_ m_ _ b_ mt_ c_ n0 _ h679 _ _ (mkF m_ 96 #[.val (.int p0), .val (.int p1), .val (.ref a264), .val (.int (1 : Int32)), .val (.int (0 : Int32)), .val (.int (0 : Int32)), .unset, .unset] [])
          refine own_aloadN C (pc' := 97) at_96 rfl rfl rfl ?_
          refine own_callV C (pc' := 100) (y := (⟨"com/example/murmuration/murmuration/search/IndexedSet", "size", "()I"⟩ : MethodName)) (a := a264) (argsL := []) (rest := []) 0 F682 (hw _ (List.mem_of_getElem? (i := 25) rfl)) (hw _ (List.mem_of_getElem? (i := 26) rfl)) (hw _ (List.mem_of_getElem? (i := 28) rfl)) (hw _ (List.mem_of_getElem? (i := 27) rfl)) (hw _ (List.mem_of_getElem? (i := 29) rfl)) (hw _ (List.mem_of_getElem? (i := 2) rfl)) (by decide) (own_m5 hw a264 (0 : Int32) Z689 F685 ) (by decide) (by decide) (lenOf own_pd3 rfl) rfl (Nat.le_of_eq rfl) at_97 rfl rfl (by decide) (by decide) (fun v691 h692 hq693 => ?_)
          obtain ⟨rfl, rfl⟩ := hq693
          show own_Run p_ l e_ _ s_ m_ _ b_ mt_ c_ n0 _ h679 _ _ (mkF m_ 100 #[.val (.int p0), .val (.int p1), .val (.ref a264), .val (.int (1 : Int32)), .val (.int (0 : Int32)), .val (.int (0 : Int32)), .unset, .unset] [(.int (0 : Int32))])
          refine own_i0_ne C (pc1 := 131) (pc2 := 103) at_100 rfl rfl (fun c694 => absurd c694 (by decide)) (fun c694 => ?_)
          refine own_aloadN C (pc' := 104) at_103 rfl rfl rfl ?_
          refine own_iconst C (pc' := 105) (v := (0 : Int32)) at_104 rfl (by decide) ?_
          refine own_callV C (pc' := 108) (y := (⟨"com/example/murmuration/murmuration/search/IndexedSet", "contains", "(I)Z"⟩ : MethodName)) (a := a264) (argsL := [(.int (0 : Int32))]) (rest := []) 0 F682 (hw _ (List.mem_of_getElem? (i := 30) rfl)) (hw _ (List.mem_of_getElem? (i := 31) rfl)) (hw _ (List.mem_of_getElem? (i := 33) rfl)) (hw _ (List.mem_of_getElem? (i := 32) rfl)) (hw _ (List.mem_of_getElem? (i := 34) rfl)) (hw _ (List.mem_of_getElem? (i := 2) rfl)) (by decide) (own_m6 hw a264 a278 3 (own_upd (own_upd (own_upd (fun _ => (-1 : Int32)) 2 (0 : Int32)) 2 (0 : Int32)) 2 (-1 : Int32)) (0 : Int32) 0 (0 : Int32) Z689 F684 F687 (by decide) (by decide) (by decide)) (by decide) (by decide) (lenOf own_pd4 rfl) rfl (Nat.le_of_eq rfl) at_105 rfl rfl (by decide) (by decide) (fun v695 h696 hq697 => ?_)
          obtain ⟨rfl, rfl⟩ := hq697
          show own_Run p_ l e_ _ s_ m_ _ b_ mt_ c_ n0 _ h679 _ _ (mkF m_ 108 #[.val (.int p0), .val (.int p1), .val (.ref a264), .val (.int (1 : Int32)), .val (.int (0 : Int32)), .val (.int (0 : Int32)), .unset, .unset] [(.int (0 : Int32))])
          refine own_i0_ne C (pc1 := 131) (pc2 := 111) at_108 rfl rfl (fun c698 => absurd c698 (by decide)) (fun c698 => ?_)
          refine own_aloadN C (pc' := 112) at_111 rfl rfl rfl ?_
          refine own_iconst C (pc' := 113) (v := (1 : Int32)) at_112 rfl (by decide) ?_
          refine own_callV C (pc' := 116) (y := (⟨"com/example/murmuration/murmuration/search/IndexedSet", "contains", "(I)Z"⟩ : MethodName)) (a := a264) (argsL := [(.int (1 : Int32))]) (rest := []) 0 F682 (hw _ (List.mem_of_getElem? (i := 30) rfl)) (hw _ (List.mem_of_getElem? (i := 31) rfl)) (hw _ (List.mem_of_getElem? (i := 33) rfl)) (hw _ (List.mem_of_getElem? (i := 32) rfl)) (hw _ (List.mem_of_getElem? (i := 34) rfl)) (hw _ (List.mem_of_getElem? (i := 2) rfl)) (by decide) (own_m6 hw a264 a278 3 (own_upd (own_upd (own_upd (fun _ => (-1 : Int32)) 2 (0 : Int32)) 2 (0 : Int32)) 2 (-1 : Int32)) (1 : Int32) 1 (0 : Int32) Z689 F684 F687 (by decide) (by decide) (by decide)) (by decide) (by decide) (lenOf own_pd4 rfl) rfl (Nat.le_of_eq rfl) at_113 rfl rfl (by decide) (by decide) (fun v699 h700 hq701 => ?_)
          obtain ⟨rfl, rfl⟩ := hq701
          show own_Run p_ l e_ _ s_ m_ _ b_ mt_ c_ n0 _ h679 _ _ (mkF m_ 116 #[.val (.int p0), .val (.int p1), .val (.ref a264), .val (.int (1 : Int32)), .val (.int (0 : Int32)), .val (.int (0 : Int32)), .unset, .unset] [(.int (0 : Int32))])
          refine own_i0_ne C (pc1 := 131) (pc2 := 119) at_116 rfl rfl (fun c702 => absurd c702 (by decide)) (fun c702 => ?_)
          refine own_aloadN C (pc' := 120) at_119 rfl rfl rfl ?_
          refine own_iconst C (pc' := 121) (v := (2 : Int32)) at_120 rfl (by decide) ?_
          refine own_callV C (pc' := 124) (y := (⟨"com/example/murmuration/murmuration/search/IndexedSet", "contains", "(I)Z"⟩ : MethodName)) (a := a264) (argsL := [(.int (2 : Int32))]) (rest := []) 0 F682 (hw _ (List.mem_of_getElem? (i := 30) rfl)) (hw _ (List.mem_of_getElem? (i := 31) rfl)) (hw _ (List.mem_of_getElem? (i := 33) rfl)) (hw _ (List.mem_of_getElem? (i := 32) rfl)) (hw _ (List.mem_of_getElem? (i := 34) rfl)) (hw _ (List.mem_of_getElem? (i := 2) rfl)) (by decide) (own_m6 hw a264 a278 3 (own_upd (own_upd (own_upd (fun _ => (-1 : Int32)) 2 (0 : Int32)) 2 (0 : Int32)) 2 (-1 : Int32)) (2 : Int32) 2 (0 : Int32) Z689 F684 F687 (by decide) (by decide) (by decide)) (by decide) (by decide) (lenOf own_pd4 rfl) rfl (Nat.le_of_eq rfl) at_121 rfl rfl (by decide) (by decide) (fun v703 h704 hq705 => ?_)
          obtain ⟨rfl, rfl⟩ := hq705
          show own_Run p_ l e_ _ s_ m_ _ b_ mt_ c_ n0 _ h679 _ _ (mkF m_ 124 #[.val (.int p0), .val (.int p1), .val (.ref a264), .val (.int (1 : Int32)), .val (.int (0 : Int32)), .val (.int (0 : Int32)), .unset, .unset] [(.int (0 : Int32))])
          refine own_i0_ne C (pc1 := 131) (pc2 := 127) at_124 rfl rfl (fun c706 => absurd c706 (by decide)) (fun c706 => ?_)
          refine own_iconst C (pc' := 128) (v := (1 : Int32)) at_127 rfl (by decide) ?_
          refine own_goto C (pc' := 132) at_128 rfl ?_
          refine own_istore C (pc' := 134) (Ls' := #[.val (.int p0), .val (.int p1), .val (.ref a264), .val (.int (1 : Int32)), .val (.int (0 : Int32)), .val (.int (0 : Int32)), .val (.int (1 : Int32)), .unset]) at_132 rfl rfl ?_
          refine own_iloadN C (pc' := 135) at_134 rfl rfl ?_
          refine own_ldc C (pc' := 137) (v := (2147483647 : Int32)) at_135 rfl (hw _ (List.mem_of_getElem? (i := 35) rfl)) ?_
          refine own_iand C (pc' := 138) at_137 rfl ?_
          refine own_iconst C (pc' := 139) (v := (3 : Int32)) at_138 rfl (by decide) ?_
          refine own_irem C (pc' := 140) at_139 rfl (by decide) ?_
          refine own_istore C (pc' := 142) (Ls' := #[.val (.int p0), .val (.int p1), .val (.ref a264), .val (.int (1 : Int32)), .val (.int (0 : Int32)), .val (.int (0 : Int32)), .val (.int (1 : Int32)), .val (.int ((p1 &&& (2147483647 : Int32)) % (3 : Int32)))]) at_140 rfl rfl ?_
          obtain ⟨A708, b709, hA710⟩ := own_rem p1 (n := (3 : Int32)) (N := 3) (by decide) (by decide)
          generalize ((p1 &&& (2147483647 : Int32)) % (3 : Int32)) = x707 at hA710 ⊢
          show own_Run p_ l e_ _ s_ m_ _ b_ mt_ c_ n0 _ h679 _ _ (mkF m_ 142 #[.val (.int p0), .val (.int p1), .val (.ref a264), .val (.int (1 : Int32)), .val (.int (0 : Int32)), .val (.int (0 : Int32)), .val (.int (1 : Int32)), .val (.int x707)] [])
          refine own_aloadN C (pc' := 143) at_142 rfl rfl rfl ?_
          refine own_iload C (pc' := 145) at_143 rfl rfl ?_
          refine own_callV C (pc' := 148) (y := (⟨"com/example/murmuration/murmuration/search/IndexedSet", "add", "(I)V"⟩ : MethodName)) (a := a264) (argsL := [(.int x707)]) (rest := []) 0 F682 (hw _ (List.mem_of_getElem? (i := 36) rfl)) (hw _ (List.mem_of_getElem? (i := 37) rfl)) (hw _ (List.mem_of_getElem? (i := 39) rfl)) (hw _ (List.mem_of_getElem? (i := 38) rfl)) (hw _ (List.mem_of_getElem? (i := 40) rfl)) (hw _ (List.mem_of_getElem? (i := 2) rfl)) (by decide) (own_m7 hw a264 a277 a278 3 (0 : Int32) (own_upd (own_upd (fun _ => (0 : Int32)) 0 (2 : Int32)) 0 (2 : Int32)) (own_upd (own_upd (own_upd (fun _ => (-1 : Int32)) 2 (0 : Int32)) 2 (0 : Int32)) 2 (-1 : Int32)) x707 A708 0 (1 : Int32) Z689 F682 ga266 ga280 ga282 ne293 ne294 F292 F683 F684 F685 F686 F687 hA710 (by omega) (by decide) (by decide) (by decide)) (by decide) (by decide) (lenOf own_pd1 rfl) rfl (Nat.le_of_eq rfl) at_145 rfl rfl (by decide) (by decide) (fun v711 h712 hq713 => ?_)
          obtain ⟨rfl, K714, F715, F716, F717, F718, F719, F720⟩ := hq713
          have Z722 : n0 ≤ h712.size := Nat.le_trans Z689 K714.1
          have F723 : Exa Z h712 a264 "com/example/murmuration/murmuration/search/IndexedSet" := Exa.keep F682 K714
          show own_Run p_ l e_ _ s_ m_ _ b_ mt_ c_ n0 _ h712 _ _ (mkF m_ 148 #[.val (.int p0), .val (.int p1), .val (.ref a264), .val (.int (1 : Int32)), .val (.int (0 : Int32)), .val (.int (0 : Int32)), .val (.int (1 : Int32)), .val (.int x707)] [])
          refine own_iload C (pc' := 150) at_148 rfl rfl ?_
          refine own_i0_eq C (pc1 := 176) (pc2 := 153) at_150 rfl rfl (fun c724 => absurd c724 (by decide)) (fun c724 => ?_)
          refine own_aloadN C (pc' := 154) at_153 rfl rfl rfl ?_
          refine own_iconst C (pc' := 155) (v := (0 : Int32)) at_154 rfl (by decide) ?_
          refine own_callV C (pc' := 158) (y := (⟨"com/example/murmuration/murmuration/search/IndexedSet", "get", "(I)I"⟩ : MethodName)) (a := a264) (argsL := [(.int (0 : Int32))]) (rest := []) 0 F715 (hw _ (List.mem_of_getElem? (i := 41) rfl)) (hw _ (List.mem_of_getElem? (i := 42) rfl)) (hw _ (List.mem_of_getElem? (i := 44) rfl)) (hw _ (List.mem_of_getElem? (i := 43) rfl)) (hw _ (List.mem_of_getElem? (i := 45) rfl)) (hw _ (List.mem_of_getElem? (i := 2) rfl)) (by decide) (own_m8 hw a264 a277 3 (own_upd (own_upd (own_upd (fun _ => (0 : Int32)) 0 (2 : Int32)) 0 (2 : Int32)) 0 x707) (0 : Int32) 0 x707 Z722 F716 F719 (by decide) (by decide) rfl) (by decide) (by decide) (lenOf own_pd5 rfl) rfl (Nat.le_of_eq rfl) at_155 rfl rfl (by decide) (by decide) (fun v725 h726 hq727 => ?_)
          obtain ⟨rfl, rfl⟩ := hq727
          show own_Run p_ l e_ _ s_ m_ _ b_ mt_ c_ n0 _ h712 _ _ (mkF m_ 158 #[.val (.int p0), .val (.int p1), .val (.ref a264), .val (.int (1 : Int32)), .val (.int (0 : Int32)), .val (.int (0 : Int32)), .val (.int (1 : Int32)), .val (.int x707)] [(.int x707)])
          refine own_iload C (pc' := 160) at_158 rfl rfl ?_
          refine own_ii_ne C (pc1 := 176) (pc2 := 163) at_160 rfl rfl (fun c728 => absurd c728 (not_not_intro rfl)) (fun c728 => ?_)
          refine own_aloadN C (pc' := 164) at_163 rfl rfl rfl ?_
          refine own_iload C (pc' := 166) at_164 rfl rfl ?_
          refine own_callV C (pc' := 169) (y := (⟨"com/example/murmuration/murmuration/search/IndexedSet", "contains", "(I)Z"⟩ : MethodName)) (a := a264) (argsL := [(.int x707)]) (rest := []) 0 F715 (hw _ (List.mem_of_getElem? (i := 30) rfl)) (hw _ (List.mem_of_getElem? (i := 31) rfl)) (hw _ (List.mem_of_getElem? (i := 33) rfl)) (hw _ (List.mem_of_getElem? (i := 32) rfl)) (hw _ (List.mem_of_getElem? (i := 34) rfl)) (hw _ (List.mem_of_getElem? (i := 2) rfl)) (by decide) (own_m6 hw a264 a278 3 (own_upd (own_upd (own_upd (own_upd (fun _ => (-1 : Int32)) 2 (0 : Int32)) 2 (0 : Int32)) 2 (-1 : Int32)) A708 (0 : Int32)) x707 A708 (1 : Int32) Z722 F717 F720 hA710 (by omega) (by simp [own_upd])) (by decide) (by decide) (lenOf own_pd4 rfl) rfl (Nat.le_of_eq rfl) at_166 rfl rfl (by decide) (by decide) (fun v729 h730 hq731 => ?_)
          obtain ⟨rfl, rfl⟩ := hq731
          show own_Run p_ l e_ _ s_ m_ _ b_ mt_ c_ n0 _ h712 _ _ (mkF m_ 169 #[.val (.int p0), .val (.int p1), .val (.ref a264), .val (.int (1 : Int32)), .val (.int (0 : Int32)), .val (.int (0 : Int32)), .val (.int (1 : Int32)), .val (.int x707)] [(.int (1 : Int32))])
          refine own_i0_eq C (pc1 := 176) (pc2 := 172) at_169 rfl rfl (fun c732 => absurd c732 (by decide)) (fun c732 => ?_)
          refine own_iconst C (pc' := 173) (v := (1 : Int32)) at_172 rfl (by decide) ?_
          refine own_goto C (pc' := 177) at_173 rfl ?_
          exact own_ret C (t := .boolean) rfl rfl (Or.inl ⟨rfl, by simp, _, rfl⟩) at_177 (by decide) (by decide) (rfl)
      · skip
        refine own_iconst C (pc' := 41) (v := (1 : Int32)) at_40 rfl (by decide) ?_
        refine own_goto C (pc' := 45) at_41 rfl ?_
        refine own_istore C (pc' := 47) (Ls' := #[.val (.int p0), .val (.int p1), .val (.ref a264), .val (.int (1 : Int32)), .val (.int (0 : Int32)), .val (.int (1 : Int32)), .unset, .unset]) at_45 rfl rfl ?_
        refine own_iloadN C (pc' := 48) at_47 rfl rfl ?_
        refine own_i0_eq C (pc1 := 56) (pc2 := 51) at_48 rfl rfl (fun c733 => absurd c733 (by decide)) (fun c733 => ?_)
        refine own_aloadN C (pc' := 52) at_51 rfl rfl rfl ?_
        refine own_iconst C (pc' := 53) (v := (2 : Int32)) at_52 rfl (by decide) ?_
        refine own_callV C (pc' := 56) (y := (⟨"com/example/murmuration/murmuration/search/IndexedSet", "add", "(I)V"⟩ : MethodName)) (a := a264) (argsL := [(.int (2 : Int32))]) (rest := []) 0 F284 (hw _ (List.mem_of_getElem? (i := 36) rfl)) (hw _ (List.mem_of_getElem? (i := 37) rfl)) (hw _ (List.mem_of_getElem? (i := 39) rfl)) (hw _ (List.mem_of_getElem? (i := 38) rfl)) (hw _ (List.mem_of_getElem? (i := 40) rfl)) (hw _ (List.mem_of_getElem? (i := 2) rfl)) (by decide) (own_m7 hw a264 a277 a278 3 (0 : Int32) (fun _ => (0 : Int32)) (fun _ => (-1 : Int32)) (2 : Int32) 2 0 (1 : Int32) Z296 F284 ga266 ga280 ga282 ne293 ne294 F292 F285 F286 F287 F288 F289 (by decide) (by decide) (by decide) (by decide) (by decide)) (by decide) (by decide) (lenOf own_pd1 rfl) rfl (Nat.le_of_eq rfl) at_53 rfl rfl (by decide) (by decide) (fun v734 h735 hq736 => ?_)
        obtain ⟨rfl, K737, F738, F739, F740, F741, F742, F743⟩ := hq736
        have Z745 : n0 ≤ h735.size := Nat.le_trans Z296 K737.1
        have F746 : Exa Z h735 a264 "com/example/murmuration/murmuration/search/IndexedSet" := Exa.keep F284 K737
        show own_Run p_ l e_ _ s_ m_ _ b_ mt_ c_ n0 _ h735 _ _ (mkF m_ 56 #[.val (.int p0), .val (.int p1), .val (.ref a264), .val (.int (1 : Int32)), .val (.int (0 : Int32)), .val (.int (1 : Int32)), .unset, .unset] [])
        refine own_iload C (pc' := 58) at_56 rfl rfl ?_
        refine own_i0_eq C (pc1 := 66) (pc2 := 61) at_58 rfl rfl (fun c747 => ?_) (fun c747 => absurd c747 (by decide))
        refine own_iload C (pc' := 68) at_66 rfl rfl ?_
        refine own_i0_eq C (pc1 := 76) (pc2 := 71) at_68 rfl rfl (fun c748 => absurd c748 (by decide)) (fun c748 => ?_)
        refine own_aloadN C (pc' := 72) at_71 rfl rfl rfl ?_
        refine own_iconst C (pc' := 73) (v := (1 : Int32)) at_72 rfl (by decide) ?_
        refine own_callV C (pc' := 76) (y := (⟨"com/example/murmuration/murmuration/search/IndexedSet", "add", "(I)V"⟩ : MethodName)) (a := a264) (argsL := [(.int (1 : Int32))]) (rest := []) 0 F738 (hw _ (List.mem_of_getElem? (i := 36) rfl)) (hw _ (List.mem_of_getElem? (i := 37) rfl)) (hw _ (List.mem_of_getElem? (i := 39) rfl)) (hw _ (List.mem_of_getElem? (i := 38) rfl)) (hw _ (List.mem_of_getElem? (i := 40) rfl)) (hw _ (List.mem_of_getElem? (i := 2) rfl)) (by decide) (own_m7 hw a264 a277 a278 3 (1 : Int32) (own_upd (fun _ => (0 : Int32)) 0 (2 : Int32)) (own_upd (fun _ => (-1 : Int32)) 2 (0 : Int32)) (1 : Int32) 1 1 (2 : Int32) Z745 F738 ga266 ga280 ga282 ne293 ne294 F292 F739 F740 F741 F742 F743 (by decide) (by decide) (by decide) (by decide) (by decide)) (by decide) (by decide) (lenOf own_pd1 rfl) rfl (Nat.le_of_eq rfl) at_73 rfl rfl (by decide) (by decide) (fun v749 h750 hq751 => ?_)
        obtain ⟨rfl, K752, F753, F754, F755, F756, F757, F758⟩ := hq751
        have Z760 : n0 ≤ h750.size := Nat.le_trans Z745 K752.1
        have F761 : Exa Z h750 a264 "com/example/murmuration/murmuration/search/IndexedSet" := Exa.keep F738 K752
        show own_Run p_ l e_ _ s_ m_ _ b_ mt_ c_ n0 _ h750 _ _ (mkF m_ 76 #[.val (.int p0), .val (.int p1), .val (.ref a264), .val (.int (1 : Int32)), .val (.int (0 : Int32)), .val (.int (1 : Int32)), .unset, .unset] [])
        refine own_iloadN C (pc' := 77) at_76 rfl rfl ?_
        refine own_i0_eq C (pc1 := 92) (pc2 := 80) at_77 rfl rfl (fun c762 => absurd c762 (by decide)) (fun c762 => ?_)
        refine own_iloadN C (pc' := 81) at_80 rfl rfl ?_
        refine own_bipush C (pc' := 83) (v := (8 : Int32)) at_81 rfl (by decide) ?_
        refine own_iand C (pc' := 84) at_83 rfl ?_
        refine own_i0_eq C (pc1 := 92) (pc2 := 87) at_84 rfl rfl (fun c763 => ?_) (fun c763 => ?_)
        · skip
          refine own_aloadN C (pc' := 93) at_92 rfl rfl rfl ?_
          refine own_callV C (pc' := 96) (y := (⟨"com/example/murmuration/murmuration/search/IndexedSet", "clear", "()V"⟩ : MethodName)) (a := a264) (argsL := []) (rest := []) 0 F753 (hw _ (List.mem_of_getElem? (i := 18) rfl)) (hw _ (List.mem_of_getElem? (i := 19) rfl)) (hw _ (List.mem_of_getElem? (i := 21) rfl)) (hw _ (List.mem_of_getElem? (i := 20) rfl)) (hw _ (List.mem_of_getElem? (i := 22) rfl)) (hw _ (List.mem_of_getElem? (i := 2) rfl)) (by decide) (own_clear2 hw a264 a277 a278 3 (own_upd (own_upd (fun _ => (0 : Int32)) 0 (2 : Int32)) 1 (1 : Int32)) (own_upd (own_upd (fun _ => (-1 : Int32)) 2 (0 : Int32)) 1 (1 : Int32)) (2 : Int32) (1 : Int32) 2 1 Z760 F753 ga266 ga280 ga282 ne293 ne294 F292 F754 F755 F756 F757 F758 (by omega) rfl (by decide) (by decide) rfl (by decide) (by decide)) (by decide) (by decide) (lenOf own_pd2 rfl) rfl (Nat.le_of_eq rfl) at_93 rfl rfl (by decide) (by decide) (fun v764 h765 hq766 => ?_)
          obtain ⟨rfl, K767, F768, F769, F770, F771, F772, F773⟩ := hq766
          have Z775 : n0 ≤ h765.size := Nat.le_trans Z760 K767.1
          have F776 : Exa Z h765 a264 "com/example/murmuration/murmuration/search/IndexedSet" := Exa.keep F753 K767
          show own_Run p_ l e_ _ s_ m_ _ b_ mt_ c_ n0 _ h765 _ _ (mkF m_ 96 #[.val (.int p0), .val (.int p1), .val (.ref a264), .val (.int (1 : Int32)), .val (.int (0 : Int32)), .val (.int (1 : Int32)), .unset, .unset] [])
          refine own_aloadN C (pc' := 97) at_96 rfl rfl rfl ?_
          refine own_callV C (pc' := 100) (y := (⟨"com/example/murmuration/murmuration/search/IndexedSet", "size", "()I"⟩ : MethodName)) (a := a264) (argsL := []) (rest := []) 0 F768 (hw _ (List.mem_of_getElem? (i := 25) rfl)) (hw _ (List.mem_of_getElem? (i := 26) rfl)) (hw _ (List.mem_of_getElem? (i := 28) rfl)) (hw _ (List.mem_of_getElem? (i := 27) rfl)) (hw _ (List.mem_of_getElem? (i := 29) rfl)) (hw _ (List.mem_of_getElem? (i := 2) rfl)) (by decide) (own_m5 hw a264 (0 : Int32) Z775 F771 ) (by decide) (by decide) (lenOf own_pd3 rfl) rfl (Nat.le_of_eq rfl) at_97 rfl rfl (by decide) (by decide) (fun v777 h778 hq779 => ?_)
          obtain ⟨rfl, rfl⟩ := hq779
          show own_Run p_ l e_ _ s_ m_ _ b_ mt_ c_ n0 _ h765 _ _ (mkF m_ 100 #[.val (.int p0), .val (.int p1), .val (.ref a264), .val (.int (1 : Int32)), .val (.int (0 : Int32)), .val (.int (1 : Int32)), .unset, .unset] [(.int (0 : Int32))])
          refine own_i0_ne C (pc1 := 131) (pc2 := 103) at_100 rfl rfl (fun c780 => absurd c780 (by decide)) (fun c780 => ?_)
          refine own_aloadN C (pc' := 104) at_103 rfl rfl rfl ?_
          refine own_iconst C (pc' := 105) (v := (0 : Int32)) at_104 rfl (by decide) ?_
          refine own_callV C (pc' := 108) (y := (⟨"com/example/murmuration/murmuration/search/IndexedSet", "contains", "(I)Z"⟩ : MethodName)) (a := a264) (argsL := [(.int (0 : Int32))]) (rest := []) 0 F768 (hw _ (List.mem_of_getElem? (i := 30) rfl)) (hw _ (List.mem_of_getElem? (i := 31) rfl)) (hw _ (List.mem_of_getElem? (i := 33) rfl)) (hw _ (List.mem_of_getElem? (i := 32) rfl)) (hw _ (List.mem_of_getElem? (i := 34) rfl)) (hw _ (List.mem_of_getElem? (i := 2) rfl)) (by decide) (own_m6 hw a264 a278 3 (own_upd (own_upd (own_upd (own_upd (fun _ => (-1 : Int32)) 2 (0 : Int32)) 1 (1 : Int32)) 2 (-1 : Int32)) 1 (-1 : Int32)) (0 : Int32) 0 (0 : Int32) Z775 F770 F773 (by decide) (by decide) (by decide)) (by decide) (by decide) (lenOf own_pd4 rfl) rfl (Nat.le_of_eq rfl) at_105 rfl rfl (by decide) (by decide) (fun v781 h782 hq783 => ?_)
          obtain ⟨rfl, rfl⟩ := hq783
          show own_Run p_ l e_ _ s_ m_ _ b_ mt_ c_ n0 _ h765 _ _ (mkF m_ 108 #[.val (.int p0), .val (.int p1), .val (.ref a264), .val (.int (1 : Int32)), .val (.int (0 : Int32)), .val (.int (1 : Int32)), .unset, .unset] [(.int (0 : Int32))])
          refine own_i0_ne C (pc1 := 131) (pc2 := 111) at_108 rfl rfl (fun c784 => absurd c784 (by decide)) (fun c784 => ?_)
          refine own_aloadN C (pc' := 112) at_111 rfl rfl rfl ?_
          refine own_iconst C (pc' := 113) (v := (1 : Int32)) at_112 rfl (by decide) ?_
          refine own_callV C (pc' := 116) (y := (⟨"com/example/murmuration/murmuration/search/IndexedSet", "contains", "(I)Z"⟩ : MethodName)) (a := a264) (argsL := [(.int (1 : Int32))]) (rest := []) 0 F768 (hw _ (List.mem_of_getElem? (i := 30) rfl)) (hw _ (List.mem_of_getElem? (i := 31) rfl)) (hw _ (List.mem_of_getElem? (i := 33) rfl)) (hw _ (List.mem_of_getElem? (i := 32) rfl)) (hw _ (List.mem_of_getElem? (i := 34) rfl)) (hw _ (List.mem_of_getElem? (i := 2) rfl)) (by decide) (own_m6 hw a264 a278 3 (own_upd (own_upd (own_upd (own_upd (fun _ => (-1 : Int32)) 2 (0 : Int32)) 1 (1 : Int32)) 2 (-1 : Int32)) 1 (-1 : Int32)) (1 : Int32) 1 (0 : Int32) Z775 F770 F773 (by decide) (by decide) (by decide)) (by decide) (by decide) (lenOf own_pd4 rfl) rfl (Nat.le_of_eq rfl) at_113 rfl rfl (by decide) (by decide) (fun v785 h786 hq787 => ?_)
          obtain ⟨rfl, rfl⟩ := hq787
          show own_Run p_ l e_ _ s_ m_ _ b_ mt_ c_ n0 _ h765 _ _ (mkF m_ 116 #[.val (.int p0), .val (.int p1), .val (.ref a264), .val (.int (1 : Int32)), .val (.int (0 : Int32)), .val (.int (1 : Int32)), .unset, .unset] [(.int (0 : Int32))])
          refine own_i0_ne C (pc1 := 131) (pc2 := 119) at_116 rfl rfl (fun c788 => absurd c788 (by decide)) (fun c788 => ?_)
          refine own_aloadN C (pc' := 120) at_119 rfl rfl rfl ?_
          refine own_iconst C (pc' := 121) (v := (2 : Int32)) at_120 rfl (by decide) ?_
          refine own_callV C (pc' := 124) (y := (⟨"com/example/murmuration/murmuration/search/IndexedSet", "contains", "(I)Z"⟩ : MethodName)) (a := a264) (argsL := [(.int (2 : Int32))]) (rest := []) 0 F768 (hw _ (List.mem_of_getElem? (i := 30) rfl)) (hw _ (List.mem_of_getElem? (i := 31) rfl)) (hw _ (List.mem_of_getElem? (i := 33) rfl)) (hw _ (List.mem_of_getElem? (i := 32) rfl)) (hw _ (List.mem_of_getElem? (i := 34) rfl)) (hw _ (List.mem_of_getElem? (i := 2) rfl)) (by decide) (own_m6 hw a264 a278 3 (own_upd (own_upd (own_upd (own_upd (fun _ => (-1 : Int32)) 2 (0 : Int32)) 1 (1 : Int32)) 2 (-1 : Int32)) 1 (-1 : Int32)) (2 : Int32) 2 (0 : Int32) Z775 F770 F773 (by decide) (by decide) (by decide)) (by decide) (by decide) (lenOf own_pd4 rfl) rfl (Nat.le_of_eq rfl) at_121 rfl rfl (by decide) (by decide) (fun v789 h790 hq791 => ?_)
          obtain ⟨rfl, rfl⟩ := hq791
          show own_Run p_ l e_ _ s_ m_ _ b_ mt_ c_ n0 _ h765 _ _ (mkF m_ 124 #[.val (.int p0), .val (.int p1), .val (.ref a264), .val (.int (1 : Int32)), .val (.int (0 : Int32)), .val (.int (1 : Int32)), .unset, .unset] [(.int (0 : Int32))])
          refine own_i0_ne C (pc1 := 131) (pc2 := 127) at_124 rfl rfl (fun c792 => absurd c792 (by decide)) (fun c792 => ?_)
          refine own_iconst C (pc' := 128) (v := (1 : Int32)) at_127 rfl (by decide) ?_
          refine own_goto C (pc' := 132) at_128 rfl ?_
          refine own_istore C (pc' := 134) (Ls' := #[.val (.int p0), .val (.int p1), .val (.ref a264), .val (.int (1 : Int32)), .val (.int (0 : Int32)), .val (.int (1 : Int32)), .val (.int (1 : Int32)), .unset]) at_132 rfl rfl ?_
          refine own_iloadN C (pc' := 135) at_134 rfl rfl ?_
          refine own_ldc C (pc' := 137) (v := (2147483647 : Int32)) at_135 rfl (hw _ (List.mem_of_getElem? (i := 35) rfl)) ?_
          refine own_iand C (pc' := 138) at_137 rfl ?_
          refine own_iconst C (pc' := 139) (v := (3 : Int32)) at_138 rfl (by decide) ?_
          refine own_irem C (pc' := 140) at_139 rfl (by decide) ?_
          refine own_istore C (pc' := 142) (Ls' := #[.val (.int p0), .val (.int p1), .val (.ref a264), .val (.int (1 : Int32)), .val (.int (0 : Int32)), .val (.int (1 : Int32)), .val (.int (1 : Int32)), .val (.int ((p1 &&& (2147483647 : Int32)) % (3 : Int32)))]) at_140 rfl rfl ?_
          obtain ⟨A794, b795, hA796⟩ := own_rem p1 (n := (3 : Int32)) (N := 3) (by decide) (by decide)
          generalize ((p1 &&& (2147483647 : Int32)) % (3 : Int32)) = x793 at hA796 ⊢
          show own_Run p_ l e_ _ s_ m_ _ b_ mt_ c_ n0 _ h765 _ _ (mkF m_ 142 #[.val (.int p0), .val (.int p1), .val (.ref a264), .val (.int (1 : Int32)), .val (.int (0 : Int32)), .val (.int (1 : Int32)), .val (.int (1 : Int32)), .val (.int x793)] [])
          refine own_aloadN C (pc' := 143) at_142 rfl rfl rfl ?_
          refine own_iload C (pc' := 145) at_143 rfl rfl ?_
          refine own_callV C (pc' := 148) (y := (⟨"com/example/murmuration/murmuration/search/IndexedSet", "add", "(I)V"⟩ : MethodName)) (a := a264) (argsL := [(.int x793)]) (rest := []) 0 F768 (hw _ (List.mem_of_getElem? (i := 36) rfl)) (hw _ (List.mem_of_getElem? (i := 37) rfl)) (hw _ (List.mem_of_getElem? (i := 39) rfl)) (hw _ (List.mem_of_getElem? (i := 38) rfl)) (hw _ (List.mem_of_getElem? (i := 40) rfl)) (hw _ (List.mem_of_getElem? (i := 2) rfl)) (by decide) (own_m7 hw a264 a277 a278 3 (0 : Int32) (own_upd (own_upd (fun _ => (0 : Int32)) 0 (2 : Int32)) 1 (1 : Int32)) (own_upd (own_upd (own_upd (own_upd (fun _ => (-1 : Int32)) 2 (0 : Int32)) 1 (1 : Int32)) 2 (-1 : Int32)) 1 (-1 : Int32)) x793 A794 0 (1 : Int32) Z775 F768 ga266 ga280 ga282 ne293 ne294 F292 F769 F770 F771 F772 F773 hA796 (by omega) (by decide) (by decide) (by decide)) (by decide) (by decide) (lenOf own_pd1 rfl) rfl (Nat.le_of_eq rfl) at_145 rfl rfl (by decide) (by decide) (fun v797 h798 hq799 => ?_)
          obtain ⟨rfl, K800, F801, F802, F803, F804, F805, F806⟩ := hq799
          have Z808 : n0 ≤ h798.size := Nat.le_trans Z775 K800.1
          have F809 : Exa Z h798 a264 "com/example/murmuration/murmuration/search/IndexedSet" := Exa.keep F768 K800
          show own_Run p_ l e_ _ s_ m_ _ b_ mt_ c_ n0 _ h798 _ _ (mkF m_ 148 #[.val (.int p0), .val (.int p1), .val (.ref a264), .val (.int (1 : Int32)), .val (.int (0 : Int32)), .val (.int (1 : Int32)), .val (.int (1 : Int32)), .val (.int x793)] [])
          refine own_iload C (pc' := 150) at_148 rfl rfl ?_
          refine own_i0_eq C (pc1 := 176) (pc2 := 153) at_150 rfl rfl (fun c810 => absurd c810 (by decide)) (fun c810 => ?_)
          refine own_aloadN C (pc' := 154) at_153 rfl rfl rfl ?_
          refine own_iconst C (pc' := 155) (v := (0 : Int32)) at_154 rfl (by decide) ?_
          refine own_callV C (pc' := 158) (y := (⟨"com/example/murmuration/murmuration/search/IndexedSet", "get", "(I)I"⟩ : MethodName)) (a := a264) (argsL := [(.int (0 : Int32))]) (rest := []) 0 F801 (hw _ (List.mem_of_getElem? (i := 41) rfl)) (hw _ (List.mem_of_getElem? (i := 42) rfl)) (hw _ (List.mem_of_getElem? (i := 44) rfl)) (hw _ (List.mem_of_getElem? (i := 43) rfl)) (hw _ (List.mem_of_getElem? (i := 45) rfl)) (hw _ (List.mem_of_getElem? (i := 2) rfl)) (by decide) (own_m8 hw a264 a277 3 (own_upd (own_upd (own_upd (fun _ => (0 : Int32)) 0 (2 : Int32)) 1 (1 : Int32)) 0 x793) (0 : Int32) 0 x793 Z808 F802 F805 (by decide) (by decide) rfl) (by decide) (by decide) (lenOf own_pd5 rfl) rfl (Nat.le_of_eq rfl) at_155 rfl rfl (by decide) (by decide) (fun v811 h812 hq813 => ?_)
          obtain ⟨rfl, rfl⟩ := hq813
          show own_Run p_ l e_ _ s_ m_ _ b_ mt_ c_ n0 _ h798 _ _ (mkF m_ 158 #[.val (.int p0), .val (.int p1), .val (.ref a264), .val (.int (1 : Int32)), .val (.int (0 : Int32)), .val (.int (1 : Int32)), .val (.int (1 : Int32)), .val (.int x793)] [(.int x793)])
          refine own_iload C (pc' := 160) at_158 rfl rfl ?_
          refine own_ii_ne C (pc1 := 176) (pc2 := 163) at_160 rfl rfl (fun c814 => absurd c814 (not_not_intro rfl)) (fun c814 => ?_)
          refine own_aloadN C (pc' := 164) at_163 rfl rfl rfl ?_
          refine own_iload C (pc' := 166) at_164 rfl rfl ?_
          refine own_callV C (pc' := 169) (y := (⟨"com/example/murmuration/murmuration/search/IndexedSet", "contains", "(I)Z"⟩ : MethodName)) (a := a264) (argsL := [(.int x793)]) (rest := []) 0 F801 (hw _ (List.mem_of_getElem? (i := 30) rfl)) (hw _ (List.mem_of_getElem? (i := 31) rfl)) (hw _ (List.mem_of_getElem? (i := 33) rfl)) (hw _ (List.mem_of_getElem? (i := 32) rfl)) (hw _ (List.mem_of_getElem? (i := 34) rfl)) (hw _ (List.mem_of_getElem? (i := 2) rfl)) (by decide) (own_m6 hw a264 a278 3 (own_upd (own_upd (own_upd (own_upd (own_upd (fun _ => (-1 : Int32)) 2 (0 : Int32)) 1 (1 : Int32)) 2 (-1 : Int32)) 1 (-1 : Int32)) A794 (0 : Int32)) x793 A794 (1 : Int32) Z808 F803 F806 hA796 (by omega) (by simp [own_upd])) (by decide) (by decide) (lenOf own_pd4 rfl) rfl (Nat.le_of_eq rfl) at_166 rfl rfl (by decide) (by decide) (fun v815 h816 hq817 => ?_)
          obtain ⟨rfl, rfl⟩ := hq817
          show own_Run p_ l e_ _ s_ m_ _ b_ mt_ c_ n0 _ h798 _ _ (mkF m_ 169 #[.val (.int p0), .val (.int p1), .val (.ref a264), .val (.int (1 : Int32)), .val (.int (0 : Int32)), .val (.int (1 : Int32)), .val (.int (1 : Int32)), .val (.int x793)] [(.int (1 : Int32))])
          refine own_i0_eq C (pc1 := 176) (pc2 := 172) at_169 rfl rfl (fun c818 => absurd c818 (by decide)) (fun c818 => ?_)
          refine own_iconst C (pc' := 173) (v := (1 : Int32)) at_172 rfl (by decide) ?_
          refine own_goto C (pc' := 177) at_173 rfl ?_
          exact own_ret C (t := .boolean) rfl rfl (Or.inl ⟨rfl, by simp, _, rfl⟩) at_177 (by decide) (by decide) (rfl)
        · skip
          refine own_aloadN C (pc' := 88) at_87 rfl rfl rfl ?_
          refine own_iconst C (pc' := 89) (v := (2 : Int32)) at_88 rfl (by decide) ?_
          refine own_callV C (pc' := 92) (y := (⟨"com/example/murmuration/murmuration/search/IndexedSet", "remove", "(I)V"⟩ : MethodName)) (a := a264) (argsL := [(.int (2 : Int32))]) (rest := []) 0 F753 (hw _ (List.mem_of_getElem? (i := 46) rfl)) (hw _ (List.mem_of_getElem? (i := 47) rfl)) (hw _ (List.mem_of_getElem? (i := 49) rfl)) (hw _ (List.mem_of_getElem? (i := 48) rfl)) (hw _ (List.mem_of_getElem? (i := 50) rfl)) (hw _ (List.mem_of_getElem? (i := 2) rfl)) (by decide) (own_m9 hw a264 a277 a278 3 (2 : Int32) (own_upd (own_upd (fun _ => (0 : Int32)) 0 (2 : Int32)) 1 (1 : Int32)) (own_upd (own_upd (fun _ => (-1 : Int32)) 2 (0 : Int32)) 1 (1 : Int32)) (2 : Int32) 2 1 (0 : Int32) (1 : Int32) 0 1 (1 : Int32) Z760 F753 ga266 ga280 ga282 ne293 ne294 F292 F754 F755 F756 F757 F758 (by decide) (by decide) rfl (by decide) (by decide) (by decide) (by decide) rfl (by decide) (by decide) (by decide)) (by decide) (by decide) (lenOf own_pd1 rfl) rfl (Nat.le_of_eq rfl) at_89 rfl rfl (by decide) (by decide) (fun v819 h820 hq821 => ?_)
          obtain ⟨rfl, K822, F823, F824, F825, F826, F827, F828⟩ := hq821
          have Z830 : n0 ≤ h820.size := Nat.le_trans Z760 K822.1
          have F831 : Exa Z h820 a264 "com/example/murmuration/murmuration/search/IndexedSet" := Exa.keep F753 K822
          show own_Run p_ l e_ _ s_ m_ _ b_ mt_ c_ n0 _ h820 _ _ (mkF m_ 92 #[.val (.int p0), .val (.int p1), .val (.ref a264), .val (.int (1 : Int32)), .val (.int (0 : Int32)), .val (.int (1 : Int32)), .unset, .unset] [])
          refine own_aloadN C (pc' := 93) at_92 rfl rfl rfl ?_
          refine own_callV C (pc' := 96) (y := (⟨"com/example/murmuration/murmuration/search/IndexedSet", "clear", "()V"⟩ : MethodName)) (a := a264) (argsL := []) (rest := []) 0 F823 (hw _ (List.mem_of_getElem? (i := 18) rfl)) (hw _ (List.mem_of_getElem? (i := 19) rfl)) (hw _ (List.mem_of_getElem? (i := 21) rfl)) (hw _ (List.mem_of_getElem? (i := 20) rfl)) (hw _ (List.mem_of_getElem? (i := 22) rfl)) (hw _ (List.mem_of_getElem? (i := 2) rfl)) (by decide) (own_clear1 hw a264 a277 a278 3 (own_upd (own_upd (own_upd (fun _ => (0 : Int32)) 0 (2 : Int32)) 1 (1 : Int32)) 0 (1 : Int32)) (own_upd (own_upd (own_upd (own_upd (fun _ => (-1 : Int32)) 2 (0 : Int32)) 1 (1 : Int32)) 1 (0 : Int32)) 2 (-1 : Int32)) (1 : Int32) 1 Z830 F823 ga266 ga280 ga282 ne293 ne294 F292 F824 F825 F826 F827 F828 (by omega) rfl (by decide) (by decide)) (by decide) (by decide) (lenOf own_pd2 rfl) rfl (Nat.le_of_eq rfl) at_93 rfl rfl (by decide) (by decide) (fun v832 h833 hq834 => ?_)
          obtain ⟨rfl, K835, F836, F837, F838, F839, F840, F841⟩ := hq834
          have Z843 : n0 ≤ h833.size := Nat.le_trans Z830 K835.1
          have F844 : Exa Z h833 a264 "com/example/murmuration/murmuration/search/IndexedSet" := Exa.keep F823 K835
          show own_Run p_ l e_ _ s_ m_ _ b_ mt_ c_ n0 _ h833 _ _ (mkF m_ 96 #[.val (.int p0), .val (.int p1), .val (.ref a264), .val (.int (1 : Int32)), .val (.int (0 : Int32)), .val (.int (1 : Int32)), .unset, .unset] [])
          refine own_aloadN C (pc' := 97) at_96 rfl rfl rfl ?_
          refine own_callV C (pc' := 100) (y := (⟨"com/example/murmuration/murmuration/search/IndexedSet", "size", "()I"⟩ : MethodName)) (a := a264) (argsL := []) (rest := []) 0 F836 (hw _ (List.mem_of_getElem? (i := 25) rfl)) (hw _ (List.mem_of_getElem? (i := 26) rfl)) (hw _ (List.mem_of_getElem? (i := 28) rfl)) (hw _ (List.mem_of_getElem? (i := 27) rfl)) (hw _ (List.mem_of_getElem? (i := 29) rfl)) (hw _ (List.mem_of_getElem? (i := 2) rfl)) (by decide) (own_m5 hw a264 (0 : Int32) Z843 F839 ) (by decide) (by decide) (lenOf own_pd3 rfl) rfl (Nat.le_of_eq rfl) at_97 rfl rfl (by decide) (by decide) (fun v845 h846 hq847 => ?_)
          obtain ⟨rfl, rfl⟩ := hq847
          show own_Run p_ l e_ _ s_ m_ _ b_ mt_ c_ n0 _ h833 _ _ (mkF m_ 100 #[.val (.int p0), .val (.int p1), .val (.ref a264), .val (.int (1 : Int32)), .val (.int (0 : Int32)), .val (.int (1 : Int32)), .unset, .unset] [(.int (0 : Int32))])
          refine own_i0_ne C (pc1 := 131) (pc2 := 103) at_100 rfl rfl (fun c848 => absurd c848 (by decide)) (fun c848 => ?_)
          refine own_aloadN C (pc' := 104) at_103 rfl rfl rfl ?_
          refine own_iconst C (pc' := 105) (v := (0 : Int32)) at_104 rfl (by decide) ?_
          refine own_callV C (pc' := 108) (y := (⟨"com/example/murmuration/murmuration/search/IndexedSet", "contains", "(I)Z"⟩ : MethodName)) (a := a264) (argsL := [(.int (0 : Int32))]) (rest := []) 0 F836 (hw _ (List.mem_of_getElem? (i := 30) rfl)) (hw _ (List.mem_of_getElem? (i := 31) rfl)) (hw _ (List.mem_of_getElem? (i := 33) rfl)) (hw _ (List.mem_of_getElem? (i := 32) rfl)) (hw _ (List.mem_of_getElem? (i := 34) rfl)) (hw _ (List.mem_of_getElem? (i := 2) rfl)) (by decide) (own_m6 hw a264 a278 3 (own_upd (own_upd (own_upd (own_upd (own_upd (fun _ => (-1 : Int32)) 2 (0 : Int32)) 1 (1 : Int32)) 1 (0 : Int32)) 2 (-1 : Int32)) 1 (-1 : Int32)) (0 : Int32) 0 (0 : Int32) Z843 F838 F841 (by decide) (by decide) (by decide)) (by decide) (by decide) (lenOf own_pd4 rfl) rfl (Nat.le_of_eq rfl) at_105 rfl rfl (by decide) (by decide) (fun v849 h850 hq851 => ?_)
          obtain ⟨rfl, rfl⟩ := hq851
          show own_Run p_ l e_ _ s_ m_ _ b_ mt_ c_ n0 _ h833 _ _ (mkF m_ 108 #[.val (.int p0), .val (.int p1), .val (.ref a264), .val (.int (1 : Int32)), .val (.int (0 : Int32)), .val (.int (1 : Int32)), .unset, .unset] [(.int (0 : Int32))])
          refine own_i0_ne C (pc1 := 131) (pc2 := 111) at_108 rfl rfl (fun c852 => absurd c852 (by decide)) (fun c852 => ?_)
          refine own_aloadN C (pc' := 112) at_111 rfl rfl rfl ?_
          refine own_iconst C (pc' := 113) (v := (1 : Int32)) at_112 rfl (by decide) ?_
          refine own_callV C (pc' := 116) (y := (⟨"com/example/murmuration/murmuration/search/IndexedSet", "contains", "(I)Z"⟩ : MethodName)) (a := a264) (argsL := [(.int (1 : Int32))]) (rest := []) 0 F836 (hw _ (List.mem_of_getElem? (i := 30) rfl)) (hw _ (List.mem_of_getElem? (i := 31) rfl)) (hw _ (List.mem_of_getElem? (i := 33) rfl)) (hw _ (List.mem_of_getElem? (i := 32) rfl)) (hw _ (List.mem_of_getElem? (i := 34) rfl)) (hw _ (List.mem_of_getElem? (i := 2) rfl)) (by decide) (own_m6 hw a264 a278 3 (own_upd (own_upd (own_upd (own_upd (own_upd (fun _ => (-1 : Int32)) 2 (0 : Int32)) 1 (1 : Int32)) 1 (0 : Int32)) 2 (-1 : Int32)) 1 (-1 : Int32)) (1 : Int32) 1 (0 : Int32) Z843 F838 F841 (by decide) (by decide) (by decide)) (by decide) (by decide) (lenOf own_pd4 rfl) rfl (Nat.le_of_eq rfl) at_113 rfl rfl (by decide) (by decide) (fun v853 h854 hq855 => ?_)
          obtain ⟨rfl, rfl⟩ := hq855
          show own_Run p_ l e_ _ s_ m_ _ b_ mt_ c_ n0 _ h833 _ _ (mkF m_ 116 #[.val (.int p0), .val (.int p1), .val (.ref a264), .val (.int (1 : Int32)), .val (.int (0 : Int32)), .val (.int (1 : Int32)), .unset, .unset] [(.int (0 : Int32))])
          refine own_i0_ne C (pc1 := 131) (pc2 := 119) at_116 rfl rfl (fun c856 => absurd c856 (by decide)) (fun c856 => ?_)
          refine own_aloadN C (pc' := 120) at_119 rfl rfl rfl ?_
          refine own_iconst C (pc' := 121) (v := (2 : Int32)) at_120 rfl (by decide) ?_
          refine own_callV C (pc' := 124) (y := (⟨"com/example/murmuration/murmuration/search/IndexedSet", "contains", "(I)Z"⟩ : MethodName)) (a := a264) (argsL := [(.int (2 : Int32))]) (rest := []) 0 F836 (hw _ (List.mem_of_getElem? (i := 30) rfl)) (hw _ (List.mem_of_getElem? (i := 31) rfl)) (hw _ (List.mem_of_getElem? (i := 33) rfl)) (hw _ (List.mem_of_getElem? (i := 32) rfl)) (hw _ (List.mem_of_getElem? (i := 34) rfl)) (hw _ (List.mem_of_getElem? (i := 2) rfl)) (by decide) (own_m6 hw a264 a278 3 (own_upd (own_upd (own_upd (own_upd (own_upd (fun _ => (-1 : Int32)) 2 (0 : Int32)) 1 (1 : Int32)) 1 (0 : Int32)) 2 (-1 : Int32)) 1 (-1 : Int32)) (2 : Int32) 2 (0 : Int32) Z843 F838 F841 (by decide) (by decide) (by decide)) (by decide) (by decide) (lenOf own_pd4 rfl) rfl (Nat.le_of_eq rfl) at_121 rfl rfl (by decide) (by decide) (fun v857 h858 hq859 => ?_)
          obtain ⟨rfl, rfl⟩ := hq859
          show own_Run p_ l e_ _ s_ m_ _ b_ mt_ c_ n0 _ h833 _ _ (mkF m_ 124 #[.val (.int p0), .val (.int p1), .val (.ref a264), .val (.int (1 : Int32)), .val (.int (0 : Int32)), .val (.int (1 : Int32)), .unset, .unset] [(.int (0 : Int32))])
          refine own_i0_ne C (pc1 := 131) (pc2 := 127) at_124 rfl rfl (fun c860 => absurd c860 (by decide)) (fun c860 => ?_)
          refine own_iconst C (pc' := 128) (v := (1 : Int32)) at_127 rfl (by decide) ?_
          refine own_goto C (pc' := 132) at_128 rfl ?_
          refine own_istore C (pc' := 134) (Ls' := #[.val (.int p0), .val (.int p1), .val (.ref a264), .val (.int (1 : Int32)), .val (.int (0 : Int32)), .val (.int (1 : Int32)), .val (.int (1 : Int32)), .unset]) at_132 rfl rfl ?_
          refine own_iloadN C (pc' := 135) at_134 rfl rfl ?_
          refine own_ldc C (pc' := 137) (v := (2147483647 : Int32)) at_135 rfl (hw _ (List.mem_of_getElem? (i := 35) rfl)) ?_
          refine own_iand C (pc' := 138) at_137 rfl ?_
          refine own_iconst C (pc' := 139) (v := (3 : Int32)) at_138 rfl (by decide) ?_
          refine own_irem C (pc' := 140) at_139 rfl (by decide) ?_
          refine own_istore C (pc' := 142) (Ls' := #[.val (.int p0), .val (.int p1), .val (.ref a264), .val (.int (1 : Int32)), .val (.int (0 : Int32)), .val (.int (1 : Int32)), .val (.int (1 : Int32)), .val (.int ((p1 &&& (2147483647 : Int32)) % (3 : Int32)))]) at_140 rfl rfl ?_
          obtain ⟨A862, b863, hA864⟩ := own_rem p1 (n := (3 : Int32)) (N := 3) (by decide) (by decide)
          generalize ((p1 &&& (2147483647 : Int32)) % (3 : Int32)) = x861 at hA864 ⊢
          show own_Run p_ l e_ _ s_ m_ _ b_ mt_ c_ n0 _ h833 _ _ (mkF m_ 142 #[.val (.int p0), .val (.int p1), .val (.ref a264), .val (.int (1 : Int32)), .val (.int (0 : Int32)), .val (.int (1 : Int32)), .val (.int (1 : Int32)), .val (.int x861)] [])
          refine own_aloadN C (pc' := 143) at_142 rfl rfl rfl ?_
          refine own_iload C (pc' := 145) at_143 rfl rfl ?_
          refine own_callV C (pc' := 148) (y := (⟨"com/example/murmuration/murmuration/search/IndexedSet", "add", "(I)V"⟩ : MethodName)) (a := a264) (argsL := [(.int x861)]) (rest := []) 0 F836 (hw _ (List.mem_of_getElem? (i := 36) rfl)) (hw _ (List.mem_of_getElem? (i := 37) rfl)) (hw _ (List.mem_of_getElem? (i := 39) rfl)) (hw _ (List.mem_of_getElem? (i := 38) rfl)) (hw _ (List.mem_of_getElem? (i := 40) rfl)) (hw _ (List.mem_of_getElem? (i := 2) rfl)) (by decide) (own_m7 hw a264 a277 a278 3 (0 : Int32) (own_upd (own_upd (own_upd (fun _ => (0 : Int32)) 0 (2 : Int32)) 1 (1 : Int32)) 0 (1 : Int32)) (own_upd (own_upd (own_upd (own_upd (own_upd (fun _ => (-1 : Int32)) 2 (0 : Int32)) 1 (1 : Int32)) 1 (0 : Int32)) 2 (-1 : Int32)) 1 (-1 : Int32)) x861 A862 0 (1 : Int32) Z843 F836 ga266 ga280 ga282 ne293 ne294 F292 F837 F838 F839 F840 F841 hA864 (by omega) (by decide) (by decide) (by decide)) (by decide) (by decide) (lenOf own_pd1 rfl) rfl (Nat.le_of_eq rfl) at_145 rfl rfl (by decide) (by decide) (fun v865 h866 hq867 => ?_)
          obtain ⟨rfl, K868, F869, F870, F871, F872, F873, F874⟩ := hq867
          have Z876 : n0 ≤ h866.size := Nat.le_trans Z843 K868.1
          have F877 : Exa Z h866 a264 "com/example/murmuration/murmuration/search/IndexedSet" := Exa.keep F836 K868
          show own_Run p_ l e_ _ s_ m_ _ b_ mt_ c_ n0 _ h866 _ _ (mkF m_ 148 #[.val (.int p0), .val (.int p1), .val (.ref a264), .val (.int (1 : Int32)), .val (.int (0 : Int32)), .val (.int (1 : Int32)), .val (.int (1 : Int32)), .val (.int x861)] [])
          refine own_iload C (pc' := 150) at_148 rfl rfl ?_
          refine own_i0_eq C (pc1 := 176) (pc2 := 153) at_150 rfl rfl (fun c878 => absurd c878 (by decide)) (fun c878 => ?_)
          refine own_aloadN C (pc' := 154) at_153 rfl rfl rfl ?_
          refine own_iconst C (pc' := 155) (v := (0 : Int32)) at_154 rfl (by decide) ?_
          refine own_callV C (pc' := 158) (y := (⟨"com/example/murmuration/murmuration/search/IndexedSet", "get", "(I)I"⟩ : MethodName)) (a := a264) (argsL := [(.int (0 : Int32))]) (rest := []) 0 F869 (hw _ (List.mem_of_getElem? (i := 41) rfl)) (hw _ (List.mem_of_getElem? (i := 42) rfl)) (hw _ (List.mem_of_getElem? (i := 44) rfl)) (hw _ (List.mem_of_getElem? (i := 43) rfl)) (hw _ (List.mem_of_getElem? (i := 45) rfl)) (hw _ (List.mem_of_getElem? (i := 2) rfl)) (by decide) (own_m8 hw a264 a277 3 (own_upd (own_upd (own_upd (own_upd (fun _ => (0 : Int32)) 0 (2 : Int32)) 1 (1 : Int32)) 0 (1 : Int32)) 0 x861) (0 : Int32) 0 x861 Z876 F870 F873 (by decide) (by decide) rfl) (by decide) (by decide) (lenOf own_pd5 rfl) rfl (Nat.le_of_eq rfl) at_155 rfl rfl (by decide) (by decide) (fun v879 h880 hq881 => ?_)
          obtain ⟨rfl, rfl⟩ := hq881
          show own_Run p_ l e_ _ s_ m_ _ b_ mt_ c_ n0 _ h866 _ _ (mkF m_ 158 #[.val (.int p0), .val (.int p1), .val (.ref a264), .val (.int (1 : Int32)), .val (.int (0 : Int32)), .val (.int (1 : Int32)), .val (.int (1 : Int32)), .val (.int x861)] [(.int x861)])
          refine own_iload C (pc' := 160) at_158 rfl rfl ?_
          refine own_ii_ne C (pc1 := 176) (pc2 := 163) at_160 rfl rfl (fun c882 => absurd c882 (not_not_intro rfl)) (fun c882 => ?_)
          refine own_aloadN C (pc' := 164) at_163 rfl rfl rfl ?_
          refine own_iload C (pc' := 166) at_164 rfl rfl ?_
          refine own_callV C (pc' := 169) (y := (⟨"com/example/murmuration/murmuration/search/IndexedSet", "contains", "(I)Z"⟩ : MethodName)) (a := a264) (argsL := [(.int x861)]) (rest := []) 0 F869 (hw _ (List.mem_of_getElem? (i := 30) rfl)) (hw _ (List.mem_of_getElem? (i := 31) rfl)) (hw _ (List.mem_of_getElem? (i := 33) rfl)) (hw _ (List.mem_of_getElem? (i := 32) rfl)) (hw _ (List.mem_of_getElem? (i := 34) rfl)) (hw _ (List.mem_of_getElem? (i := 2) rfl)) (by decide) (own_m6 hw a264 a278 3 (own_upd (own_upd (own_upd (own_upd (own_upd (own_upd (fun _ => (-1 : Int32)) 2 (0 : Int32)) 1 (1 : Int32)) 1 (0 : Int32)) 2 (-1 : Int32)) 1 (-1 : Int32)) A862 (0 : Int32)) x861 A862 (1 : Int32) Z876 F871 F874 hA864 (by omega) (by simp [own_upd])) (by decide) (by decide) (lenOf own_pd4 rfl) rfl (Nat.le_of_eq rfl) at_166 rfl rfl (by decide) (by decide) (fun v883 h884 hq885 => ?_)
          obtain ⟨rfl, rfl⟩ := hq885
          show own_Run p_ l e_ _ s_ m_ _ b_ mt_ c_ n0 _ h866 _ _ (mkF m_ 169 #[.val (.int p0), .val (.int p1), .val (.ref a264), .val (.int (1 : Int32)), .val (.int (0 : Int32)), .val (.int (1 : Int32)), .val (.int (1 : Int32)), .val (.int x861)] [(.int (1 : Int32))])
          refine own_i0_eq C (pc1 := 176) (pc2 := 172) at_169 rfl rfl (fun c886 => absurd c886 (by decide)) (fun c886 => ?_)
          refine own_iconst C (pc' := 173) (v := (1 : Int32)) at_172 rfl (by decide) ?_
          refine own_goto C (pc' := 177) at_173 rfl ?_
          exact own_ret C (t := .boolean) rfl rfl (Or.inl ⟨rfl, by simp, _, rfl⟩) at_177 (by decide) (by decide) (rfl)
    · skip
      refine own_iconst C (pc' := 28) (v := (1 : Int32)) at_27 rfl (by decide) ?_
      refine own_goto C (pc' := 32) at_28 rfl ?_
      refine own_istore C (pc' := 34) (Ls' := #[.val (.int p0), .val (.int p1), .val (.ref a264), .val (.int (1 : Int32)), .val (.int (1 : Int32)), .unset, .unset, .unset]) at_32 rfl rfl ?_
      refine own_iloadN C (pc' := 35) at_34 rfl rfl ?_
      refine own_iconst C (pc' := 36) (v := (4 : Int32)) at_35 rfl (by decide) ?_
      refine own_iand C (pc' := 37) at_36 rfl ?_
      refine own_i0_eq C (pc1 := 44) (pc2 := 40) at_37 rfl rfl (fun c887 => ?_) (fun c887 => ?_)
      · skip
        refine own_iconst C (pc' := 45) (v := (0 : Int32)) at_44 rfl (by decide) ?_
        refine own_istore C (pc' := 47) (Ls' := #[.val (.int p0), .val (.int p1), .val (.ref a264), .val (.int (1 : Int32)), .val (.int (1 : Int32)), .val (.int (0 : Int32)), .unset, .unset]) at_45 rfl rfl ?_
        refine own_iloadN C (pc' := 48) at_47 rfl rfl ?_
        refine own_i0_eq C (pc1 := 56) (pc2 := 51) at_48 rfl rfl (fun c888 => absurd c888 (by decide)) (fun c888 => ?_)
        refine own_aloadN C (pc' := 52) at_51 rfl rfl rfl ?_
        refine own_iconst C (pc' := 53) (v := (2 : Int32)) at_52 rfl (by decide) ?_
        refine own_callV C (pc' := 56) (y := (⟨"com/example/murmuration/murmuration/search/IndexedSet", "add", "(I)V"⟩ : MethodName)) (a := a264) (argsL := [(.int (2 : Int32))]) (rest := []) 0 F284 (hw _ (List.mem_of_getElem? (i := 36) rfl)) (hw _ (List.mem_of_getElem? (i := 37) rfl)) (hw _ (List.mem_of_getElem? (i := 39) rfl)) (hw _ (List.mem_of_getElem? (i := 38) rfl)) (hw _ (List.mem_of_getElem? (i := 40) rfl)) (hw _ (List.mem_of_getElem? (i := 2) rfl)) (by decide) (own_m7 hw a264 a277 a278 3 (0 : Int32) (fun _ => (0 : Int32)) (fun _ => (-1 : Int32)) (2 : Int32) 2 0 (1 : Int32) Z296 F284 ga266 ga280 ga282 ne293 ne294 F292 F285 F286 F287 F288 F289 (by decide) (by decide) (by decide) (by decide) (by decide)) (by decide) (by decide) (lenOf own_pd1 rfl) rfl (Nat.le_of_eq rfl) at_53 rfl rfl (by decide) (by decide) (fun v889 h890 hq891 => ?_)
        obtain ⟨rfl, K892, F893, F894, F895, F896, F897, F898⟩ := hq891
        have Z900 : n0 ≤ h890.size := Nat.le_trans Z296 K892.1
        have F901 : Exa Z h890 a264 "com/example/murmuration/murmuration/search/IndexedSet" := Exa.keep F284 K892
        show own_Run p_ l e_ _ s_ m_ _ b_ mt_ c_ n0 _ h890 _ _ (mkF m_ 56 #[.val (.int p0), .val (.int p1), .val (.ref a264), .val (.int (1 : Int32)), .val (.int (1 : Int32)), .val (.int (0 : Int32)), .unset, .unset] [])
        refine own_iload C (pc' := 58) at_56 rfl rfl ?_
        refine own_i0_eq C (pc1 := 66) (pc2 := 61) at_58 rfl rfl (fun c902 => absurd c902 (by decide)) (fun c902 => ?_)
        refine own_aloadN C (pc' := 62) at_61 rfl rfl rfl ?_
        refine own_iconst C (pc' := 63) (v := (0 : Int32)) at_62 rfl (by decide) ?_
        refine own_callV C (pc' := 66) (y := (⟨"com/example/murmuration/murmuration/search/IndexedSet", "add", "(I)V"⟩ : MethodName)) (a := a264) (argsL := [(.int (0 : Int32))]) (rest := []) 0 F893 (hw _ (List.mem_of_getElem? (i := 36) rfl)) (hw _ (List.mem_of_getElem? (i := 37) rfl)) (hw _ (List.mem_of_getElem? (i := 39) rfl)) (hw _ (List.mem_of_getElem? (i := 38) rfl)) (hw _ (List.mem_of_getElem? (i := 40) rfl)) (hw _ (List.mem_of_getElem? (i := 2) rfl)) (by decide) (own_m7 hw a264 a277 a278 3 (1 : Int32) (own_upd (fun _ => (0 : Int32)) 0 (2 : Int32)) (own_upd (fun _ => (-1 : Int32)) 2 (0 : Int32)) (0 : Int32) 0 1 (2 : Int32) Z900 F893 ga266 ga280 ga282 ne293 ne294 F292 F894 F895 F896 F897 F898 (by decide) (by decide) (by decide) (by decide) (by decide)) (by decide) (by decide) (lenOf own_pd1 rfl) rfl (Nat.le_of_eq rfl) at_63 rfl rfl (by decide) (by decide) (fun v903 h904 hq905 => ?_)
        obtain ⟨rfl, K906, F907, F908, F909, F910, F911, F912⟩ := hq905
        have Z914 : n0 ≤ h904.size := Nat.le_trans Z900 K906.1
        have F915 : Exa Z h904 a264 "com/example/murmuration/murmuration/search/IndexedSet" := Exa.keep F893 K906
        show own_Run p_ l e_ _ s_ m_ _ b_ mt_ c_ n0 _ h904 _ _ (mkF m_ 66 #[.val (.int p0), .val (.int p1), .val (.ref a264), .val (.int (1 : Int32)), .val (.int (1 : Int32)), .val (.int (0 : Int32)), .unset, .unset] [])
        refine own_iload C (pc' := 68) at_66 rfl rfl ?_
        refine own_i0_eq C (pc1 := 76) (pc2 := 71) at_68 rfl rfl (fun c916 => ?_) (fun c916 => absurd c916 (by decide))
        refine own_iloadN C (pc' := 77) at_76 rfl rfl ?_
        refine own_i0_eq C (pc1 := 92) (pc2 := 80) at_77 rfl rfl (fun c917 => absurd c917 (by decide)) (fun c917 => ?_)
        refine own_iloadN C (pc' := 81) at_80 rfl rfl ?_
        refine own_bipush C (pc' := 83) (v := (8 : Int32)) at_81 rfl (by decide) ?_
        refine own_iand C (pc' := 84) at_83 rfl ?_
        refine own_i0_eq C (pc1 := 92) (pc2 := 87) at_84 rfl rfl (fun c918 => ?_) (fun c918 => ?_)
        · skip
          refine own_aloadN C (pc' := 93) at_92 rfl rfl rfl ?_
          refine own_callV C (pc' := 96) (y := (⟨"com/example/murmuration/murmuration/search/IndexedSet", "clear", "()V"⟩ : MethodName)) (a := a264) (argsL := []) (rest := []) 0 F907 (hw _ (List.mem_of_getElem? (i := 18) rfl)) (hw _ (List.mem_of_getElem? (i := 19) rfl)) (hw _ (List.mem_of_getElem? (i := 21) rfl)) (hw _ (List.mem_of_getElem? (i := 20) rfl)) (hw _ (List.mem_of_getElem? (i := 22) rfl)) (hw _ (List.mem_of_getElem? (i := 2) rfl)) (by decide) (own_clear2 hw a264 a277 a278 3 (own_upd (own_upd (fun _ => (0 : Int32)) 0 (2 : Int32)) 1 (0 : Int32)) (own_upd (own_upd (fun _ => (-1 : Int32)) 2 (0 : Int32)) 0 (1 : Int32)) (2 : Int32) (0 : Int32) 2 0 Z914 F907 ga266 ga280 ga282 ne293 ne294 F292 F908 F909 F910 F911 F912 (by omega) rfl (by decide) (by decide) rfl (by decide) (by decide)) (by decide) (by decide) (lenOf own_pd2 rfl) rfl (Nat.le_of_eq rfl) at_93 rfl rfl (by decide) (by decide) (fun v919 h920 hq921 => ?_)
          obtain ⟨rfl, K922, F923, F924, F925, F926, F927, F928⟩ := hq921
          have Z930 : n0 ≤ h920.size := Nat.le_trans Z914 K922.1
          have F931 : Exa Z h920 a264 "com/example/murmuration/murmuration/search/IndexedSet" := Exa.keep F907 K922
          show own_Run p_ l e_ _ s_ m_ _ b_ mt_ c_ n0 _ h920 _ _ (mkF m_ 96 #[.val (.int p0), .val (.int p1), .val (.ref a264), .val (.int (1 : Int32)), .val (.int (1 : Int32)), .val (.int (0 : Int32)), .unset, .unset] [])
          refine own_aloadN C (pc' := 97) at_96 rfl rfl rfl ?_
          refine own_callV C (pc' := 100) (y := (⟨"com/example/murmuration/murmuration/search/IndexedSet", "size", "()I"⟩ : MethodName)) (a := a264) (argsL := []) (rest := []) 0 F923 (hw _ (List.mem_of_getElem? (i := 25) rfl)) (hw _ (List.mem_of_getElem? (i := 26) rfl)) (hw _ (List.mem_of_getElem? (i := 28) rfl)) (hw _ (List.mem_of_getElem? (i := 27) rfl)) (hw _ (List.mem_of_getElem? (i := 29) rfl)) (hw _ (List.mem_of_getElem? (i := 2) rfl)) (by decide) (own_m5 hw a264 (0 : Int32) Z930 F926 ) (by decide) (by decide) (lenOf own_pd3 rfl) rfl (Nat.le_of_eq rfl) at_97 rfl rfl (by decide) (by decide) (fun v932 h933 hq934 => ?_)
          obtain ⟨rfl, rfl⟩ := hq934
          show own_Run p_ l e_ _ s_ m_ _ b_ mt_ c_ n0 _ h920 _ _ (mkF m_ 100 #[.val (.int p0), .val (.int p1), .val (.ref a264), .val (.int (1 : Int32)), .val (.int (1 : Int32)), .val (.int (0 : Int32)), .unset, .unset] [(.int (0 : Int32))])
          refine own_i0_ne C (pc1 := 131) (pc2 := 103) at_100 rfl rfl (fun c935 => absurd c935 (by decide)) (fun c935 => ?_)
          refine own_aloadN C (pc' := 104) at_103 rfl rfl rfl ?_
          refine own_iconst C (pc' := 105) (v := (0 : Int32)) at_104 rfl (by decide) ?_
          refine own_callV C (pc' := 108) (y := (⟨"com/example/murmuration/murmuration/search/IndexedSet", "contains", "(I)Z"⟩ : MethodName)) (a := a264) (argsL := [(.int (0 : Int32))]) (rest := []) 0 F923 (hw _ (List.mem_of_getElem? (i := 30) rfl)) (hw _ (List.mem_of_getElem? (i := 31) rfl)) (hw _ (List.mem_of_getElem? (i := 33) rfl)) (hw _ (List.mem_of_getElem? (i := 32) rfl)) (hw _ (List.mem_of_getElem? (i := 34) rfl)) (hw _ (List.mem_of_getElem? (i := 2) rfl)) (by decide) (own_m6 hw a264 a278 3 (own_upd (own_upd (own_upd (own_upd (fun _ => (-1 : Int32)) 2 (0 : Int32)) 0 (1 : Int32)) 2 (-1 : Int32)) 0 (-1 : Int32)) (0 : Int32) 0 (0 : Int32) Z930 F925 F928 (by decide) (by decide) (by decide)) (by decide) (by decide) (lenOf own_pd4 rfl) rfl (Nat.le_of_eq rfl) at_105 rfl rfl (by decide) (by decide) (fun v936 h937 hq938 => ?_)
          obtain ⟨rfl, rfl⟩ := hq938
          show own_Run p_ l e_ _ s_ m_ _ b_ mt_ c_ n0 _ h920 _ _ (mkF m_ 108 #[.val (.int p0), .val (.int p1), .val (.ref a264), .val (.int (1 : Int32)), .val (.int (1 : Int32)), .val (.int (0 : Int32)), .unset, .unset] [(.int (0 : Int32))])
          refine own_i0_ne C (pc1 := 131) (pc2 := 111) at_108 rfl rfl (fun c939 => absurd c939 (by decide)) (fun c939 => ?_)
          refine own_aloadN C (pc' := 112) at_111 rfl rfl rfl ?_
          refine own_iconst C (pc' := 113) (v := (1 : Int32)) at_112 rfl (by decide) ?_
          refine own_callV C (pc' := 116) (y := (⟨"com/example/murmuration/murmuration/search/IndexedSet", "contains", "(I)Z"⟩ : MethodName)) (a := a264) (argsL := [(.int (1 : Int32))]) (rest := []) 0 F923 (hw _ (List.mem_of_getElem? (i := 30) rfl)) (hw _ (List.mem_of_getElem? (i := 31) rfl)) (hw _ (List.mem_of_getElem? (i := 33) rfl)) (hw _ (List.mem_of_getElem? (i := 32) rfl)) (hw _ (List.mem_of_getElem? (i := 34) rfl)) (hw _ (List.mem_of_getElem? (i := 2) rfl)) (by decide) (own_m6 hw a264 a278 3 (own_upd (own_upd (own_upd (own_upd (fun _ => (-1 : Int32)) 2 (0 : Int32)) 0 (1 : Int32)) 2 (-1 : Int32)) 0 (-1 : Int32)) (1 : Int32) 1 (0 : Int32) Z930 F925 F928 (by decide) (by decide) (by decide)) (by decide) (by decide) (lenOf own_pd4 rfl) rfl (Nat.le_of_eq rfl) at_113 rfl rfl (by decide) (by decide) (fun v940 h941 hq942 => ?_)
          obtain ⟨rfl, rfl⟩ := hq942
          show own_Run p_ l e_ _ s_ m_ _ b_ mt_ c_ n0 _ h920 _ _ (mkF m_ 116 #[.val (.int p0), .val (.int p1), .val (.ref a264), .val (.int (1 : Int32)), .val (.int (1 : Int32)), .val (.int (0 : Int32)), .unset, .unset] [(.int (0 : Int32))])
          refine own_i0_ne C (pc1 := 131) (pc2 := 119) at_116 rfl rfl (fun c943 => absurd c943 (by decide)) (fun c943 => ?_)
          refine own_aloadN C (pc' := 120) at_119 rfl rfl rfl ?_
          refine own_iconst C (pc' := 121) (v := (2 : Int32)) at_120 rfl (by decide) ?_
          refine own_callV C (pc' := 124) (y := (⟨"com/example/murmuration/murmuration/search/IndexedSet", "contains", "(I)Z"⟩ : MethodName)) (a := a264) (argsL := [(.int (2 : Int32))]) (rest := []) 0 F923 (hw _ (List.mem_of_getElem? (i := 30) rfl)) (hw _ (List.mem_of_getElem? (i := 31) rfl)) (hw _ (List.mem_of_getElem? (i := 33) rfl)) (hw _ (List.mem_of_getElem? (i := 32) rfl)) (hw _ (List.mem_of_getElem? (i := 34) rfl)) (hw _ (List.mem_of_getElem? (i := 2) rfl)) (by decide) (own_m6 hw a264 a278 3 (own_upd (own_upd (own_upd (own_upd (fun _ => (-1 : Int32)) 2 (0 : Int32)) 0 (1 : Int32)) 2 (-1 : Int32)) 0 (-1 : Int32)) (2 : Int32) 2 (0 : Int32) Z930 F925 F928 (by decide) (by decide) (by decide)) (by decide) (by decide) (lenOf own_pd4 rfl) rfl (Nat.le_of_eq rfl) at_121 rfl rfl (by decide) (by decide) (fun v944 h945 hq946 => ?_)
          obtain ⟨rfl, rfl⟩ := hq946
          show own_Run p_ l e_ _ s_ m_ _ b_ mt_ c_ n0 _ h920 _ _ (mkF m_ 124 #[.val (.int p0), .val (.int p1), .val (.ref a264), .val (.int (1 : Int32)), .val (.int (1 : Int32)), .val (.int (0 : Int32)), .unset, .unset] [(.int (0 : Int32))])
          refine own_i0_ne C (pc1 := 131) (pc2 := 127) at_124 rfl rfl (fun c947 => absurd c947 (by decide)) (fun c947 => ?_)
          refine own_iconst C (pc' := 128) (v := (1 : Int32)) at_127 rfl (by decide) ?_
          refine own_goto C (pc' := 132) at_128 rfl ?_
          refine own_istore C (pc' := 134) (Ls' := #[.val (.int p0), .val (.int p1), .val (.ref a264), .val (.int (1 : Int32)), .val (.int (1 : Int32)), .val (.int (0 : Int32)), .val (.int (1 : Int32)), .unset]) at_132 rfl rfl ?_
          refine own_iloadN C (pc' := 135) at_134 rfl rfl ?_
          refine own_ldc C (pc' := 137) (v := (2147483647 : Int32)) at_135 rfl (hw _ (List.mem_of_getElem? (i := 35) rfl)) ?_
          refine own_iand C (pc' := 138) at_137 rfl ?_
          refine own_iconst C (pc' := 139) (v := (3 : Int32)) at_138 rfl (by decide) ?_
          refine own_irem C (pc' := 140) at_139 rfl (by decide) ?_
          refine own_istore C (pc' := 142) (Ls' := #[.val (.int p0), .val (.int p1), .val (.ref a264), .val (.int (1 : Int32)), .val (.int (1 : Int32)), .val (.int (0 : Int32)), .val (.int (1 : Int32)), .val (.int ((p1 &&& (2147483647 : Int32)) % (3 : Int32)))]) at_140 rfl rfl ?_
          obtain ⟨A949, b950, hA951⟩ := own_rem p1 (n := (3 : Int32)) (N := 3) (by decide) (by decide)
          generalize ((p1 &&& (2147483647 : Int32)) % (3 : Int32)) = x948 at hA951 ⊢
          show own_Run p_ l e_ _ s_ m_ _ b_ mt_ c_ n0 _ h920 _ _ (mkF m_ 142 #[.val (.int p0), .val (.int p1), .val (.ref a264), .val (.int (1 : Int32)), .val (.int (1 : Int32)), .val (.int (0 : Int32)), .val (.int (1 : Int32)), .val (.int x948)] [])
          refine own_aloadN C (pc' := 143) at_142 rfl rfl rfl ?_
          refine own_iload C (pc' := 145) at_143 rfl rfl ?_
          refine own_callV C (pc' := 148) (y := (⟨"com/example/murmuration/murmuration/search/IndexedSet", "add", "(I)V"⟩ : MethodName)) (a := a264) (argsL := [(.int x948)]) (rest := []) 0 F923 (hw _ (List.mem_of_getElem? (i := 36) rfl)) (hw _ (List.mem_of_getElem? (i := 37) rfl)) (hw _ (List.mem_of_getElem? (i := 39) rfl)) (hw _ (List.mem_of_getElem? (i := 38) rfl)) (hw _ (List.mem_of_getElem? (i := 40) rfl)) (hw _ (List.mem_of_getElem? (i := 2) rfl)) (by decide) (own_m7 hw a264 a277 a278 3 (0 : Int32) (own_upd (own_upd (fun _ => (0 : Int32)) 0 (2 : Int32)) 1 (0 : Int32)) (own_upd (own_upd (own_upd (own_upd (fun _ => (-1 : Int32)) 2 (0 : Int32)) 0 (1 : Int32)) 2 (-1 : Int32)) 0 (-1 : Int32)) x948 A949 0 (1 : Int32) Z930 F923 ga266 ga280 ga282 ne293 ne294 F292 F924 F925 F926 F927 F928 hA951 (by omega) (by decide) (by decide) (by decide)) (by decide) (by decide) (lenOf own_pd1 rfl) rfl (Nat.le_of_eq rfl) at_145 rfl rfl (by decide) (by decide) (fun v952 h953 hq954 => ?_)
          obtain ⟨rfl, K955, F956, F957, F958, F959, F960, F961⟩ := hq954
          have Z963 : n0 ≤ h953.size := Nat.le_trans Z930 K955.1
          have F964 : Exa Z h953 a264 "com/example/murmuration/murmuration/search/IndexedSet" := Exa.keep F923 K955
          show own_Run p_ l e_ _ s_ m_ _ b_ mt_ c_ n0 _ h953 _ _ (mkF m_ 148 #[.val (.int p0), .val (.int p1), .val (.ref a264), .val (.int (1 : Int32)), .val (.int (1 : Int32)), .val (.int (0 : Int32)), .val (.int (1 : Int32)), .val (.int x948)] [])
          refine own_iload C (pc' := 150) at_148 rfl rfl ?_
          refine own_i0_eq C (pc1 := 176) (pc2 := 153) at_150 rfl rfl (fun c965 => absurd c965 (by decide)) (fun c965 => ?_)
          refine own_aloadN C (pc' := 154) at_153 rfl rfl rfl ?_
          refine own_iconst C (pc' := 155) (v := (0 : Int32)) at_154 rfl (by decide) ?_
          refine own_callV C (pc' := 158) (y := (⟨"com/example/murmuration/murmuration/search/IndexedSet", "get", "(I)I"⟩ : MethodName)) (a := a264) (argsL := [(.int (0 : Int32))]) (rest := []) 0 F956 (hw _ (List.mem_of_getElem? (i := 41) rfl)) (hw _ (List.mem_of_getElem? (i := 42) rfl)) (hw _ (List.mem_of_getElem? (i := 44) rfl)) (hw _ (List.mem_of_getElem? (i := 43) rfl)) (hw _ (List.mem_of_getElem? (i := 45) rfl)) (hw _ (List.mem_of_getElem? (i := 2) rfl)) (by decide) (own_m8 hw a264 a277 3 (own_upd (own_upd (own_upd (fun _ => (0 : Int32)) 0 (2 : Int32)) 1 (0 : Int32)) 0 x948) (0 : Int32) 0 x948 Z963 F957 F960 (by decide) (by decide) rfl) (by decide) (by decide) (lenOf own_pd5 rfl) rfl (Nat.le_of_eq rfl) at_155 rfl rfl (by decide) (by decide) (fun v966 h967 hq968 => ?_)
          obtain ⟨rfl, rfl⟩ := hq968
          show own_Run p_ l e_ _ s_ m_ _ b_ mt_ c_ n0 _ h953 _ _ (mkF m_ 158 #[.val (.int p0), .val (.int p1), .val (.ref a264), .val (.int (1 : Int32)), .val (.int (1 : Int32)), .val (.int (0 : Int32)), .val (.int (1 : Int32)), .val (.int x948)] [(.int x948)])
          refine own_iload C (pc' := 160) at_158 rfl rfl ?_
          refine own_ii_ne C (pc1 := 176) (pc2 := 163) at_160 rfl rfl (fun c969 => absurd c969 (not_not_intro rfl)) (fun c969 => ?_)
          refine own_aloadN C (pc' := 164) at_163 rfl rfl rfl ?_
          refine own_iload C (pc' := 166) at_164 rfl rfl ?_
          refine own_callV C (pc' := 169) (y := (⟨"com/example/murmuration/murmuration/search/IndexedSet", "contains", "(I)Z"⟩ : MethodName)) (a := a264) (argsL := [(.int x948)]) (rest := []) 0 F956 (hw _ (List.mem_of_getElem? (i := 30) rfl)) (hw _ (List.mem_of_getElem? (i := 31) rfl)) (hw _ (List.mem_of_getElem? (i := 33) rfl)) (hw _ (List.mem_of_getElem? (i := 32) rfl)) (hw _ (List.mem_of_getElem? (i := 34) rfl)) (hw _ (List.mem_of_getElem? (i := 2) rfl)) (by decide) (own_m6 hw a264 a278 3 (own_upd (own_upd (own_upd (own_upd (own_upd (fun _ => (-1 : Int32)) 2 (0 : Int32)) 0 (1 : Int32)) 2 (-1 : Int32)) 0 (-1 : Int32)) A949 (0 : Int32)) x948 A949 (1 : Int32) Z963 F958 F961 hA951 (by omega) (by simp [own_upd])) (by decide) (by decide) (lenOf own_pd4 rfl) rfl (Nat.le_of_eq rfl) at_166 rfl rfl (by decide) (by decide) (fun v970 h971 hq972 => ?_)
          obtain ⟨rfl, rfl⟩ := hq972
          show own_Run p_ l e_ _ s_ m_ _ b_ mt_ c_ n0 _ h953 _ _ (mkF m_ 169 #[.val (.int p0), .val (.int p1), .val (.ref a264), .val (.int (1 : Int32)), .val (.int (1 : Int32)), .val (.int (0 : Int32)), .val (.int (1 : Int32)), .val (.int x948)] [(.int (1 : Int32))])
          refine own_i0_eq C (pc1 := 176) (pc2 := 172) at_169 rfl rfl (fun c973 => absurd c973 (by decide)) (fun c973 => ?_)
          refine own_iconst C (pc' := 173) (v := (1 : Int32)) at_172 rfl (by decide) ?_
          refine own_goto C (pc' := 177) at_173 rfl ?_
          exact own_ret C (t := .boolean) rfl rfl (Or.inl ⟨rfl, by simp, _, rfl⟩) at_177 (by decide) (by decide) (rfl)
        · skip
          refine own_aloadN C (pc' := 88) at_87 rfl rfl rfl ?_
          refine own_iconst C (pc' := 89) (v := (2 : Int32)) at_88 rfl (by decide) ?_
          refine own_callV C (pc' := 92) (y := (⟨"com/example/murmuration/murmuration/search/IndexedSet", "remove", "(I)V"⟩ : MethodName)) (a := a264) (argsL := [(.int (2 : Int32))]) (rest := []) 0 F907 (hw _ (List.mem_of_getElem? (i := 46) rfl)) (hw _ (List.mem_of_getElem? (i := 47) rfl)) (hw _ (List.mem_of_getElem? (i := 49) rfl)) (hw _ (List.mem_of_getElem? (i := 48) rfl)) (hw _ (List.mem_of_getElem? (i := 50) rfl)) (hw _ (List.mem_of_getElem? (i := 2) rfl)) (by decide) (own_m9 hw a264 a277 a278 3 (2 : Int32) (own_upd (own_upd (fun _ => (0 : Int32)) 0 (2 : Int32)) 1 (0 : Int32)) (own_upd (own_upd (fun _ => (-1 : Int32)) 2 (0 : Int32)) 0 (1 : Int32)) (2 : Int32) 2 1 (0 : Int32) (0 : Int32) 0 0 (1 : Int32) Z914 F907 ga266 ga280 ga282 ne293 ne294 F292 F908 F909 F910 F911 F912 (by decide) (by decide) rfl (by decide) (by decide) (by decide) (by decide) rfl (by decide) (by decide) (by decide)) (by decide) (by decide) (lenOf own_pd1 rfl) rfl (Nat.le_of_eq rfl) at_89 rfl rfl (by decide) (by decide) (fun v974 h975 hq976 => ?_)
          obtain ⟨rfl, K977, F978, F979, F980, F981, F982, F983⟩ := hq976
          have Z985 : n0 ≤ h975.size := Nat.le_trans Z914 K977.1
          have F986 : Exa Z h975 a264 "com/example/murmuration/murmuration/search/IndexedSet" := Exa.keep F907 K977
          show own_Run p_ l e_ _ s_ m_ _ b_ mt_ c_ n0 _ h975 _ _ (mkF m_ 92 #[.val (.int p0), .val (.int p1), .val (.ref a264), .val (.int (1 : Int32)), .val (.int (1 : Int32)), .val (.int (0 : Int32)), .unset, .unset] [])
          refine own_aloadN C (pc' := 93) at_92 rfl rfl rfl ?_
          refine own_callV C (pc' := 96) (y := (⟨"com/example/murmuration/murmuration/search/IndexedSet", "clear", "()V"⟩ : MethodName)) (a := a264) (argsL := []) (rest := []) 0 F978 (hw _ (List.mem_of_getElem? (i := 18) rfl)) (hw _ (List.mem_of_getElem? (i := 19) rfl)) (hw _ (List.mem_of_getElem? (i := 21) rfl)) (hw _ (List.mem_of_getElem? (i := 20) rfl)) (hw _ (List.mem_of_getElem? (i := 22) rfl)) (hw _ (List.mem_of_getElem? (i := 2) rfl)) (by decide) (own_clear1 hw a264 a277 a278 3 (own_upd (own_upd (own_upd (fun _ => (0 : Int32)) 0 (2 : Int32)) 1 (0 : Int32)) 0 (0 : Int32)) (own_upd (own_upd (own_upd (own_upd (fun _ => (-1 : Int32)) 2 (0 : Int32)) 0 (1 : Int32)) 0 (0 : Int32)) 2 (-1 : Int32)) (0 : Int32) 0 Z985 F978 ga266 ga280 ga282 ne293 ne294 F292 F979 F980 F981 F982 F983 (by omega) rfl (by decide) (by decide)) (by decide) (by decide) (lenOf own_pd2 rfl) rfl (Nat.le_of_eq rfl) at_93 rfl rfl (by decide) (by decide) (fun v987 h988 hq989 => ?_)
          obtain ⟨rfl, K990, F991, F992, F993, F994, F995, F996⟩ := hq989
          have Z998 : n0 ≤ h988.size := Nat.le_trans Z985 K990.1
          have F999 : Exa Z h988 a264 "com/example/murmuration/murmuration/search/IndexedSet" := Exa.keep F978 K990
          show own_Run p_ l e_ _ s_ m_ _ b_ mt_ c_ n0 _ h988 _ _ (mkF m_ 96 #[.val (.int p0), .val (.int p1), .val (.ref a264), .val (.int (1 : Int32)), .val (.int (1 : Int32)), .val (.int (0 : Int32)), .unset, .unset] [])
          refine own_aloadN C (pc' := 97) at_96 rfl rfl rfl ?_
          refine own_callV C (pc' := 100) (y := (⟨"com/example/murmuration/murmuration/search/IndexedSet", "size", "()I"⟩ : MethodName)) (a := a264) (argsL := []) (rest := []) 0 F991 (hw _ (List.mem_of_getElem? (i := 25) rfl)) (hw _ (List.mem_of_getElem? (i := 26) rfl)) (hw _ (List.mem_of_getElem? (i := 28) rfl)) (hw _ (List.mem_of_getElem? (i := 27) rfl)) (hw _ (List.mem_of_getElem? (i := 29) rfl)) (hw _ (List.mem_of_getElem? (i := 2) rfl)) (by decide) (own_m5 hw a264 (0 : Int32) Z998 F994 ) (by decide) (by decide) (lenOf own_pd3 rfl) rfl (Nat.le_of_eq rfl) at_97 rfl rfl (by decide) (by decide) (fun v1000 h1001 hq1002 => ?_)
          obtain ⟨rfl, rfl⟩ := hq1002
          show own_Run p_ l e_ _ s_ m_ _ b_ mt_ c_ n0 _ h988 _ _ (mkF m_ 100 #[.val (.int p0), .val (.int p1), .val (.ref a264), .val (.int (1 : Int32)), .val (.int (1 : Int32)), .val (.int (0 : Int32)), .unset, .unset] [(.int (0 : Int32))])
          refine own_i0_ne C (pc1 := 131) (pc2 := 103) at_100 rfl rfl (fun c1003 => absurd c1003 (by decide)) (fun c1003 => ?_)
          refine own_aloadN C (pc' := 104) at_103 rfl rfl rfl ?_
          refine own_iconst C (pc' := 105) (v := (0 : Int32)) at_104 rfl (by decide) ?_
          refine own_callV C (pc' := 108) (y := (⟨"com/example/murmuration/murmuration/search/IndexedSet", "contains", "(I)Z"⟩ : MethodName)) (a := a264) (argsL := [(.int (0 : Int32))]) (rest := []) 0 F991 (hw _ (List.mem_of_getElem? (i := 30) rfl)) (hw _ (List.mem_of_getElem? (i := 31) rfl)) (hw _ (List.mem_of_getElem? (i := 33) rfl)) (hw _ (List.mem_of_getElem? (i := 32) rfl)) (hw _ (List.mem_of_getElem? (i := 34) rfl)) (hw _ (List.mem_of_getElem? (i := 2) rfl)) (by decide) (own_m6 hw a264 a278 3 (own_upd (own_upd (own_upd (own_upd (own_upd (fun _ => (-1 : Int32)) 2 (0 : Int32)) 0 (1 : Int32)) 0 (0 : Int32)) 2 (-1 : Int32)) 0 (-1 : Int32)) (0 : Int32) 0 (0 : Int32) Z998 F993 F996 (by decide) (by decide) (by decide)) (by decide) (by decide) (lenOf own_pd4 rfl) rfl (Nat.le_of_eq rfl) at_105 rfl rfl (by decide) (by decide) (fun v1004 h1005 hq1006 => ?_)
          obtain ⟨rfl, rfl⟩ := hq1006
          show own_Run p_ l e_ _ s_ m_ _ b_ mt_ c_ n0 _ h988 _ _ (mkF m_ 108 #[.val (.int p0), .val (.int p1), .val (.ref a264), .val (.int (1 : Int32)), .val (.int (1 : Int32)), .val (.int (0 : Int32)), .unset, .unset] [(.int (0 : Int32))])
          refine own_i0_ne C (pc1 := 131) (pc2 := 111) at_108 rfl rfl (fun c1007 => absurd c1007 (by decide)) (fun c1007 => ?_)
          refine own_aloadN C (pc' := 112) at_111 rfl rfl rfl ?_
          refine own_iconst C (pc' := 113) (v := (1 : Int32)) at_112 rfl (by decide) ?_
          refine own_callV C (pc' := 116) (y := (⟨"com/example/murmuration/murmuration/search/IndexedSet", "contains", "(I)Z"⟩ : MethodName)) (a := a264) (argsL := [(.int (1 : Int32))]) (rest := []) 0 F991 (hw _ (List.mem_of_getElem? (i := 30) rfl)) (hw _ (List.mem_of_getElem? (i := 31) rfl)) (hw _ (List.mem_of_getElem? (i := 33) rfl)) (hw _ (List.mem_of_getElem? (i := 32) rfl)) (hw _ (List.mem_of_getElem? (i := 34) rfl)) (hw _ (List.mem_of_getElem? (i := 2) rfl)) (by decide) (own_m6 hw a264 a278 3 (own_upd (own_upd (own_upd (own_upd (own_upd (fun _ => (-1 : Int32)) 2 (0 : Int32)) 0 (1 : Int32)) 0 (0 : Int32)) 2 (-1 : Int32)) 0 (-1 : Int32)) (1 : Int32) 1 (0 : Int32) Z998 F993 F996 (by decide) (by decide) (by decide)) (by decide) (by decide) (lenOf own_pd4 rfl) rfl (Nat.le_of_eq rfl) at_113 rfl rfl (by decide) (by decide) (fun v1008 h1009 hq1010 => ?_)
          obtain ⟨rfl, rfl⟩ := hq1010
          show own_Run p_ l e_ _ s_ m_ _ b_ mt_ c_ n0 _ h988 _ _ (mkF m_ 116 #[.val (.int p0), .val (.int p1), .val (.ref a264), .val (.int (1 : Int32)), .val (.int (1 : Int32)), .val (.int (0 : Int32)), .unset, .unset] [(.int (0 : Int32))])
          refine own_i0_ne C (pc1 := 131) (pc2 := 119) at_116 rfl rfl (fun c1011 => absurd c1011 (by decide)) (fun c1011 => ?_)
          refine own_aloadN C (pc' := 120) at_119 rfl rfl rfl ?_
          refine own_iconst C (pc' := 121) (v := (2 : Int32)) at_120 rfl (by decide) ?_
          refine own_callV C (pc' := 124) (y := (⟨"com/example/murmuration/murmuration/search/IndexedSet", "contains", "(I)Z"⟩ : MethodName)) (a := a264) (argsL := [(.int (2 : Int32))]) (rest := []) 0 F991 (hw _ (List.mem_of_getElem? (i := 30) rfl)) (hw _ (List.mem_of_getElem? (i := 31) rfl)) (hw _ (List.mem_of_getElem? (i := 33) rfl)) (hw _ (List.mem_of_getElem? (i := 32) rfl)) (hw _ (List.mem_of_getElem? (i := 34) rfl)) (hw _ (List.mem_of_getElem? (i := 2) rfl)) (by decide) (own_m6 hw a264 a278 3 (own_upd (own_upd (own_upd (own_upd (own_upd (fun _ => (-1 : Int32)) 2 (0 : Int32)) 0 (1 : Int32)) 0 (0 : Int32)) 2 (-1 : Int32)) 0 (-1 : Int32)) (2 : Int32) 2 (0 : Int32) Z998 F993 F996 (by decide) (by decide) (by decide)) (by decide) (by decide) (lenOf own_pd4 rfl) rfl (Nat.le_of_eq rfl) at_121 rfl rfl (by decide) (by decide) (fun v1012 h1013 hq1014 => ?_)
          obtain ⟨rfl, rfl⟩ := hq1014
          show own_Run p_ l e_ _ s_ m_ _ b_ mt_ c_ n0 _ h988 _ _ (mkF m_ 124 #[.val (.int p0), .val (.int p1), .val (.ref a264), .val (.int (1 : Int32)), .val (.int (1 : Int32)), .val (.int (0 : Int32)), .unset, .unset] [(.int (0 : Int32))])
          refine own_i0_ne C (pc1 := 131) (pc2 := 127) at_124 rfl rfl (fun c1015 => absurd c1015 (by decide)) (fun c1015 => ?_)
          refine own_iconst C (pc' := 128) (v := (1 : Int32)) at_127 rfl (by decide) ?_
          refine own_goto C (pc' := 132) at_128 rfl ?_
          refine own_istore C (pc' := 134) (Ls' := #[.val (.int p0), .val (.int p1), .val (.ref a264), .val (.int (1 : Int32)), .val (.int (1 : Int32)), .val (.int (0 : Int32)), .val (.int (1 : Int32)), .unset]) at_132 rfl rfl ?_
          refine own_iloadN C (pc' := 135) at_134 rfl rfl ?_
          refine own_ldc C (pc' := 137) (v := (2147483647 : Int32)) at_135 rfl (hw _ (List.mem_of_getElem? (i := 35) rfl)) ?_
          refine own_iand C (pc' := 138) at_137 rfl ?_
          refine own_iconst C (pc' := 139) (v := (3 : Int32)) at_138 rfl (by decide) ?_
          refine own_irem C (pc' := 140) at_139 rfl (by decide) ?_
          refine own_istore C (pc' := 142) (Ls' := #[.val (.int p0), .val (.int p1), .val (.ref a264), .val (.int (1 : Int32)), .val (.int (1 : Int32)), .val (.int (0 : Int32)), .val (.int (1 : Int32)), .val (.int ((p1 &&& (2147483647 : Int32)) % (3 : Int32)))]) at_140 rfl rfl ?_
          obtain ⟨A1017, b1018, hA1019⟩ := own_rem p1 (n := (3 : Int32)) (N := 3) (by decide) (by decide)
          generalize ((p1 &&& (2147483647 : Int32)) % (3 : Int32)) = x1016 at hA1019 ⊢
          show own_Run p_ l e_ _ s_ m_ _ b_ mt_ c_ n0 _ h988 _ _ (mkF m_ 142 #[.val (.int p0), .val (.int p1), .val (.ref a264), .val (.int (1 : Int32)), .val (.int (1 : Int32)), .val (.int (0 : Int32)), .val (.int (1 : Int32)), .val (.int x1016)] [])
          refine own_aloadN C (pc' := 143) at_142 rfl rfl rfl ?_
          refine own_iload C (pc' := 145) at_143 rfl rfl ?_
          refine own_callV C (pc' := 148) (y := (⟨"com/example/murmuration/murmuration/search/IndexedSet", "add", "(I)V"⟩ : MethodName)) (a := a264) (argsL := [(.int x1016)]) (rest := []) 0 F991 (hw _ (List.mem_of_getElem? (i := 36) rfl)) (hw _ (List.mem_of_getElem? (i := 37) rfl)) (hw _ (List.mem_of_getElem? (i := 39) rfl)) (hw _ (List.mem_of_getElem? (i := 38) rfl)) (hw _ (List.mem_of_getElem? (i := 40) rfl)) (hw _ (List.mem_of_getElem? (i := 2) rfl)) (by decide) (own_m7 hw a264 a277 a278 3 (0 : Int32) (own_upd (own_upd (own_upd (fun _ => (0 : Int32)) 0 (2 : Int32)) 1 (0 : Int32)) 0 (0 : Int32)) (own_upd (own_upd (own_upd (own_upd (own_upd (fun _ => (-1 : Int32)) 2 (0 : Int32)) 0 (1 : Int32)) 0 (0 : Int32)) 2 (-1 : Int32)) 0 (-1 : Int32)) x1016 A1017 0 (1 : Int32) Z998 F991 ga266 ga280 ga282 ne293 ne294 F292 F992 F993 F994 F995 F996 hA1019 (by omega) (by decide) (by decide) (by decide)) (by decide) (by decide) (lenOf own_pd1 rfl) rfl (Nat.le_of_eq rfl) at_145 rfl rfl (by decide) (by decide) (fun v1020 h1021 hq1022 => ?_)
          obtain ⟨rfl, K1023, F1024, F1025, F1026, F1027, F1028, F1029⟩ := hq1022
          have Z1031 : n0 ≤ h1021.size := Nat.le_trans Z998 K1023.1
          have F1032 : Exa Z h1021 a264 "com/example/murmuration/murmuration/search/IndexedSet" := Exa.keep F991 K1023
          show own_Run p_ l e_ _ s_ m_ _ b_ mt_ c_ n0 _ h1021 _ _ (mkF m_ 148 #[.val (.int p0), .val (.int p1), .val (.ref a264), .val (.int (1 : Int32)), .val (.int (1 : Int32)), .val (.int (0 : Int32)), .val (.int (1 : Int32)), .val (.int x1016)] [])
          refine own_iload C (pc' := 150) at_148 rfl rfl ?_
          refine own_i0_eq C (pc1 := 176) (pc2 := 153) at_150 rfl rfl (fun c1033 => absurd c1033 (by decide)) (fun c1033 => ?_)
          refine own_aloadN C (pc' := 154) at_153 rfl rfl rfl ?_
          refine own_iconst C (pc' := 155) (v := (0 : Int32)) at_154 rfl (by decide) ?_
          refine own_callV C (pc' := 158) (y := (⟨"com/example/murmuration/murmuration/search/IndexedSet", "get", "(I)I"⟩ : MethodName)) (a := a264) (argsL := [(.int (0 : Int32))]) (rest := []) 0 F1024 (hw _ (List.mem_of_getElem? (i := 41) rfl)) (hw _ (List.mem_of_getElem? (i := 42) rfl)) (hw _ (List.mem_of_getElem? (i := 44) rfl)) (hw _ (List.mem_of_getElem? (i := 43) rfl)) (hw _ (List.mem_of_getElem? (i := 45) rfl)) (hw _ (List.mem_of_getElem? (i := 2) rfl)) (by decide) (own_m8 hw a264 a277 3 (own_upd (own_upd (own_upd (own_upd (fun _ => (0 : Int32)) 0 (2 : Int32)) 1 (0 : Int32)) 0 (0 : Int32)) 0 x1016) (0 : Int32) 0 x1016 Z1031 F1025 F1028 (by decide) (by decide) rfl) (by decide) (by decide) (lenOf own_pd5 rfl) rfl (Nat.le_of_eq rfl) at_155 rfl rfl (by decide) (by decide) (fun v1034 h1035 hq1036 => ?_)
          obtain ⟨rfl, rfl⟩ := hq1036
          show own_Run p_ l e_ _ s_ m_ _ b_ mt_ c_ n0 _ h1021 _ _ (mkF m_ 158 #[.val (.int p0), .val (.int p1), .val (.ref a264), .val (.int (1 : Int32)), .val (.int (1 : Int32)), .val (.int (0 : Int32)), .val (.int (1 : Int32)), .val (.int x1016)] [(.int x1016)])
          refine own_iload C (pc' := 160) at_158 rfl rfl ?_
          refine own_ii_ne C (pc1 := 176) (pc2 := 163) at_160 rfl rfl (fun c1037 => absurd c1037 (not_not_intro rfl)) (fun c1037 => ?_)
          refine own_aloadN C (pc' := 164) at_163 rfl rfl rfl ?_
          refine own_iload C (pc' := 166) at_164 rfl rfl ?_
          refine own_callV C (pc' := 169) (y := (⟨"com/example/murmuration/murmuration/search/IndexedSet", "contains", "(I)Z"⟩ : MethodName)) (a := a264) (argsL := [(.int x1016)]) (rest := []) 0 F1024 (hw _ (List.mem_of_getElem? (i := 30) rfl)) (hw _ (List.mem_of_getElem? (i := 31) rfl)) (hw _ (List.mem_of_getElem? (i := 33) rfl)) (hw _ (List.mem_of_getElem? (i := 32) rfl)) (hw _ (List.mem_of_getElem? (i := 34) rfl)) (hw _ (List.mem_of_getElem? (i := 2) rfl)) (by decide) (own_m6 hw a264 a278 3 (own_upd (own_upd (own_upd (own_upd (own_upd (own_upd (fun _ => (-1 : Int32)) 2 (0 : Int32)) 0 (1 : Int32)) 0 (0 : Int32)) 2 (-1 : Int32)) 0 (-1 : Int32)) A1017 (0 : Int32)) x1016 A1017 (1 : Int32) Z1031 F1026 F1029 hA1019 (by omega) (by simp [own_upd])) (by decide) (by decide) (lenOf own_pd4 rfl) rfl (Nat.le_of_eq rfl) at_166 rfl rfl (by decide) (by decide) (fun v1038 h1039 hq1040 => ?_)
          obtain ⟨rfl, rfl⟩ := hq1040
          show own_Run p_ l e_ _ s_ m_ _ b_ mt_ c_ n0 _ h1021 _ _ (mkF m_ 169 #[.val (.int p0), .val (.int p1), .val (.ref a264), .val (.int (1 : Int32)), .val (.int (1 : Int32)), .val (.int (0 : Int32)), .val (.int (1 : Int32)), .val (.int x1016)] [(.int (1 : Int32))])
          refine own_i0_eq C (pc1 := 176) (pc2 := 172) at_169 rfl rfl (fun c1041 => absurd c1041 (by decide)) (fun c1041 => ?_)
          refine own_iconst C (pc' := 173) (v := (1 : Int32)) at_172 rfl (by decide) ?_
          refine own_goto C (pc' := 177) at_173 rfl ?_
          exact own_ret C (t := .boolean) rfl rfl (Or.inl ⟨rfl, by simp, _, rfl⟩) at_177 (by decide) (by decide) (rfl)
      · skip
        refine own_iconst C (pc' := 41) (v := (1 : Int32)) at_40 rfl (by decide) ?_
        refine own_goto C (pc' := 45) at_41 rfl ?_
        refine own_istore C (pc' := 47) (Ls' := #[.val (.int p0), .val (.int p1), .val (.ref a264), .val (.int (1 : Int32)), .val (.int (1 : Int32)), .val (.int (1 : Int32)), .unset, .unset]) at_45 rfl rfl ?_
        refine own_iloadN C (pc' := 48) at_47 rfl rfl ?_
        refine own_i0_eq C (pc1 := 56) (pc2 := 51) at_48 rfl rfl (fun c1042 => absurd c1042 (by decide)) (fun c1042 => ?_)
        refine own_aloadN C (pc' := 52) at_51 rfl rfl rfl ?_
        refine own_iconst C (pc' := 53) (v := (2 : Int32)) at_52 rfl (by decide) ?_
        refine own_callV C (pc' := 56) (y := (⟨"com/example/murmuration/murmuration/search/IndexedSet", "add", "(I)V"⟩ : MethodName)) (a := a264) (argsL := [(.int (2 : Int32))]) (rest := []) 0 F284 (hw _ (List.mem_of_getElem? (i := 36) rfl)) (hw _ (List.mem_of_getElem? (i := 37) rfl)) (hw _ (List.mem_of_getElem? (i := 39) rfl)) (hw _ (List.mem_of_getElem? (i := 38) rfl)) (hw _ (List.mem_of_getElem? (i := 40) rfl)) (hw _ (List.mem_of_getElem? (i := 2) rfl)) (by decide) (own_m7 hw a264 a277 a278 3 (0 : Int32) (fun _ => (0 : Int32)) (fun _ => (-1 : Int32)) (2 : Int32) 2 0 (1 : Int32) Z296 F284 ga266 ga280 ga282 ne293 ne294 F292 F285 F286 F287 F288 F289 (by decide) (by decide) (by decide) (by decide) (by decide)) (by decide) (by decide) (lenOf own_pd1 rfl) rfl (Nat.le_of_eq rfl) at_53 rfl rfl (by decide) (by decide) (fun v1043 h1044 hq1045 => ?_)
        obtain ⟨rfl, K1046, F1047, F1048, F1049, F1050, F1051, F1052⟩ := hq1045
        have Z1054 : n0 ≤ h1044.size := Nat.le_trans Z296 K1046.1
        have F1055 : Exa Z h1044 a264 "com/example/murmuration/murmuration/search/IndexedSet" := Exa.keep F284 K1046
        show own_Run p_ l e_ _ s_ m_ _ b_ mt_ c_ n0 _ h1044 _ _ (mkF m_ 56 #[.val (.int p0), .val (.int p1), .val (.ref a264), .val (.int (1 : Int32)), .val (.int (1 : Int32)), .val (.int (1 : Int32)), .unset, .unset] [])
        refine own_iload C (pc' := 58) at_56 rfl rfl ?_
        refine own_i0_eq C (pc1 := 66) (pc2 := 61) at_58 rfl rfl (fun c1056 => absurd c1056 (by decide)) (fun c1056 => ?_)
        refine own_aloadN C (pc' := 62) at_61 rfl rfl rfl ?_
        refine own_iconst C (pc' := 63) (v := (0 : Int32)) at_62 rfl (by decide) ?_
        refine own_callV C (pc' := 66) (y := (⟨"com/example/murmuration/murmuration/search/IndexedSet", "add", "(I)V"⟩ : MethodName)) (a := a264) (argsL := [(.int (0 : Int32))]) (rest := []) 0 F1047 (hw _ (List.mem_of_getElem? (i := 36) rfl)) (hw _ (List.mem_of_getElem? (i := 37) rfl)) (hw _ (List.mem_of_getElem? (i := 39) rfl)) (hw _ (List.mem_of_getElem? (i := 38) rfl)) (hw _ (List.mem_of_getElem? (i := 40) rfl)) (hw _ (List.mem_of_getElem? (i := 2) rfl)) (by decide) (own_m7 hw a264 a277 a278 3 (1 : Int32) (own_upd (fun _ => (0 : Int32)) 0 (2 : Int32)) (own_upd (fun _ => (-1 : Int32)) 2 (0 : Int32)) (0 : Int32) 0 1 (2 : Int32) Z1054 F1047 ga266 ga280 ga282 ne293 ne294 F292 F1048 F1049 F1050 F1051 F1052 (by decide) (by decide) (by decide) (by decide) (by decide)) (by decide) (by decide) (lenOf own_pd1 rfl) rfl (Nat.le_of_eq rfl) at_63 rfl rfl (by decide) (by decide) (fun v1057 h1058 hq1059 => ?_)
        obtain ⟨rfl, K1060, F1061, F1062, F1063, F1064, F1065, F1066⟩ := hq1059
        have Z1068 : n0 ≤ h1058.size := Nat.le_trans Z1054 K1060.1
        have F1069 : Exa Z h1058 a264 "com/example/murmuration/murmuration/search/IndexedSet" := Exa.keep F1047 K1060
        show own_Run p_ l e_ _ s_ m_ _ b_ mt_ c_ n0 _ h1058 _ _ (mkF m_ 66 #[.val (.int p0), .val (.int p1), .val (.ref a264), .val (.int (1 : Int32)), .val (.int (1 : Int32)), .val (.int (1 : Int32)), .unset, .unset] [])
        refine own_iload C (pc' := 68) at_66 rfl rfl ?_
        refine own_i0_eq C (pc1 := 76) (pc2 := 71) at_68 rfl rfl (fun c1070 => absurd c1070 (by decide)) (fun c1070 => ?_)
        refine own_aloadN C (pc' := 72) at_71 rfl rfl rfl ?_
        refine own_iconst C (pc' := 73) (v := (1 : Int32)) at_72 rfl (by decide) ?_
        refine own_callV C (pc' := 76) (y := (⟨"com/example/murmuration/murmuration/search/IndexedSet", "add", "(I)V"⟩ : MethodName)) (a := a264) (argsL := [(.int (1 : Int32))]) (rest := []) 0 F1061 (hw _ (List.mem_of_getElem? (i := 36) rfl)) (hw _ (List.mem_of_getElem? (i := 37) rfl)) (hw _ (List.mem_of_getElem? (i := 39) rfl)) (hw _ (List.mem_of_getElem? (i := 38) rfl)) (hw _ (List.mem_of_getElem? (i := 40) rfl)) (hw _ (List.mem_of_getElem? (i := 2) rfl)) (by decide) (own_m7 hw a264 a277 a278 3 (2 : Int32) (own_upd (own_upd (fun _ => (0 : Int32)) 0 (2 : Int32)) 1 (0 : Int32)) (own_upd (own_upd (fun _ => (-1 : Int32)) 2 (0 : Int32)) 0 (1 : Int32)) (1 : Int32) 1 2 (3 : Int32) Z1068 F1061 ga266 ga280 ga282 ne293 ne294 F292 F1062 F1063 F1064 F1065 F1066 (by decide) (by decide) (by decide) (by decide) (by decide)) (by decide) (by decide) (lenOf own_pd1 rfl) rfl (Nat.le_of_eq rfl) at_73 rfl rfl (by decide) (by decide) (fun v1071 h1072 hq1073 => ?_)
        obtain ⟨rfl, K1074, F1075, F1076, F1077, F1078, F1079, F1080⟩ := hq1073
        have Z1082 : n0 ≤ h1072.size := Nat.le_trans Z1068 K1074.1
        have F1083 : Exa Z h1072 a264 "com/example/murmuration/murmuration/search/IndexedSet" := Exa.keep F1061 K1074
        show own_Run p_ l e_ _ s_ m_ _ b_ mt_ c_ n0 _ h1072 _ _ (mkF m_ 76 #[.val (.int p0), .val (.int p1), .val (.ref a264), .val (.int (1 : Int32)), .val (.int (1 : Int32)), .val (.int (1 : Int32)), .unset, .unset] [])
        refine own_iloadN C (pc' := 77) at_76 rfl rfl ?_
        refine own_i0_eq C (pc1 := 92) (pc2 := 80) at_77 rfl rfl (fun c1084 => absurd c1084 (by decide)) (fun c1084 => ?_)
        refine own_iloadN C (pc' := 81) at_80 rfl rfl ?_
        refine own_bipush C (pc' := 83) (v := (8 : Int32)) at_81 rfl (by decide) ?_
        refine own_iand C (pc' := 84) at_83 rfl ?_
        refine own_i0_eq C (pc1 := 92) (pc2 := 87) at_84 rfl rfl (fun c1085 => ?_) (fun c1085 => ?_)
        · skip
          refine own_aloadN C (pc' := 93) at_92 rfl rfl rfl ?_
          refine own_callV C (pc' := 96) (y := (⟨"com/example/murmuration/murmuration/search/IndexedSet", "clear", "()V"⟩ : MethodName)) (a := a264) (argsL := []) (rest := []) 0 F1075 (hw _ (List.mem_of_getElem? (i := 18) rfl)) (hw _ (List.mem_of_getElem? (i := 19) rfl)) (hw _ (List.mem_of_getElem? (i := 21) rfl)) (hw _ (List.mem_of_getElem? (i := 20) rfl)) (hw _ (List.mem_of_getElem? (i := 22) rfl)) (hw _ (List.mem_of_getElem? (i := 2) rfl)) (by decide) (own_clear3 hw a264 a277 a278 3 (own_upd (own_upd (own_upd (fun _ => (0 : Int32)) 0 (2 : Int32)) 1 (0 : Int32)) 2 (1 : Int32)) (own_upd (own_upd (own_upd (fun _ => (-1 : Int32)) 2 (0 : Int32)) 0 (1 : Int32)) 1 (2 : Int32)) (2 : Int32) (0 : Int32) (1 : Int32) 2 0 1 Z1082 F1075 ga266 ga280 ga282 ne293 ne294 F292 F1076 F1077 F1078 F1079 F1080 (by omega) rfl (by decide) (by decide) rfl (by decide) (by decide) rfl (by decide) (by decide)) (by decide) (by decide) (lenOf own_pd2 rfl) rfl (Nat.le_of_eq rfl) at_93 rfl rfl (by decide) (by decide) (fun v1086 h1087 hq1088 => ?_)
          obtain ⟨rfl, K1089, F1090, F1091, F1092, F1093, F1094, F1095⟩ := hq1088
          have Z1097 : n0 ≤ h1087.size := Nat.le_trans Z1082 K1089.1
          have F1098 : Exa Z h1087 a264 "com/example/murmuration/murmuration/search/IndexedSet" := Exa.keep F1075 K1089
          show own_Run p_ l e_ _ s_ m_ _ b_ mt_ c_ n0 _ h1087 _ _ (mkF m_ 96 #[.val (.int p0), .val (.int p1), .val (.ref a264), .val (.int (1 : Int32)), .val (.int (1 : Int32)), .val (.int (1 : Int32)), .unset, .unset] [])
          refine own_aloadN C (pc' := 97) at_96 rfl rfl rfl ?_
          refine own_callV C (pc' := 100) (y := (⟨"com/example/murmuration/murmuration/search/IndexedSet", "size", "()I"⟩ : MethodName)) (a := a264) (argsL := []) (rest := []) 0 F1090 (hw _ (List.mem_of_getElem? (i := 25) rfl)) (hw _ (List.mem_of_getElem? (i := 26) rfl)) (hw _ (List.mem_of_getElem? (i := 28) rfl)) (hw _ (List.mem_of_getElem? (i := 27) rfl)) (hw _ (List.mem_of_getElem? (i := 29) rfl)) (hw _ (List.mem_of_getElem? (i := 2) rfl)) (by decide) (own_m5 hw a264 (0 : Int32) Z1097 F1093 ) (by decide) (by decide) (lenOf own_pd3 rfl) rfl (Nat.le_of_eq rfl) at_97 rfl rfl (by decide) (by decide) (fun v1099 h1100 hq1101 => ?_)
          obtain ⟨rfl, rfl⟩ := hq1101
          show own_Run p_ l e_ _ s_ m_ _ b_ mt_ c_ n0 _ h1087 _ _ (mkF m_ 100 #[.val (.int p0), .val (.int p1), .val (.ref a264), .val (.int (1 : Int32)), .val (.int (1 : Int32)), .val (.int (1 : Int32)), .unset, .unset] [(.int (0 : Int32))])
          refine own_i0_ne C (pc1 := 131) (pc2 := 103) at_100 rfl rfl (fun c1102 => absurd c1102 (by decide)) (fun c1102 => ?_)
          refine own_aloadN C (pc' := 104) at_103 rfl rfl rfl ?_
          refine own_iconst C (pc' := 105) (v := (0 : Int32)) at_104 rfl (by decide) ?_
          refine own_callV C (pc' := 108) (y := (⟨"com/example/murmuration/murmuration/search/IndexedSet", "contains", "(I)Z"⟩ : MethodName)) (a := a264) (argsL := [(.int (0 : Int32))]) (rest := []) 0 F1090 (hw _ (List.mem_of_getElem? (i := 30) rfl)) (hw _ (List.mem_of_getElem? (i := 31) rfl)) (hw _ (List.mem_of_getElem? (i := 33) rfl)) (hw _ (List.mem_of_getElem? (i := 32) rfl)) (hw _ (List.mem_of_getElem? (i := 34) rfl)) (hw _ (List.mem_of_getElem? (i := 2) rfl)) (by decide) (own_m6 hw a264 a278 3 (own_upd (own_upd (own_upd (own_upd (own_upd (own_upd (fun _ => (-1 : Int32)) 2 (0 : Int32)) 0 (1 : Int32)) 1 (2 : Int32)) 2 (-1 : Int32)) 0 (-1 : Int32)) 1 (-1 : Int32)) (0 : Int32) 0 (0 : Int32) Z1097 F1092 F1095 (by decide) (by decide) (by decide)) (by decide) (by decide) (lenOf own_pd4 rfl) rfl (Nat.le_of_eq rfl) at_105 rfl rfl (by decide) (by decide) (fun v1103 h1104 hq1105 => ?_)
          obtain ⟨rfl, rfl⟩ := hq1105
          show own_Run p_ l e_ _ s_ m_ _ b_ mt_ c_ n0 _ h1087 _ _ (mkF m_ 108 #[.val (.int p0), .val (.int p1), .val (.ref a264), .val (.int (1 : Int32)), .val (.int (1 : Int32)), .val (.int (1 : Int32)), .unset, .unset] [(.int (0 : Int32))])
          refine own_i0_ne C (pc1 := 131) (pc2 := 111) at_108 rfl rfl (fun c1106 => absurd c1106 (by decide)) (fun c1106 => ?_)
          refine own_aloadN C (pc' := 112) at_111 rfl rfl rfl ?_
          refine own_iconst C (pc' := 113) (v := (1 : Int32)) at_112 rfl (by decide) ?_
          refine own_callV C (pc' := 116) (y := (⟨"com/example/murmuration/murmuration/search/IndexedSet", "contains", "(I)Z"⟩ : MethodName)) (a := a264) (argsL := [(.int (1 : Int32))]) (rest := []) 0 F1090 (hw _ (List.mem_of_getElem? (i := 30) rfl)) (hw _ (List.mem_of_getElem? (i := 31) rfl)) (hw _ (List.mem_of_getElem? (i := 33) rfl)) (hw _ (List.mem_of_getElem? (i := 32) rfl)) (hw _ (List.mem_of_getElem? (i := 34) rfl)) (hw _ (List.mem_of_getElem? (i := 2) rfl)) (by decide) (own_m6 hw a264 a278 3 (own_upd (own_upd (own_upd (own_upd (own_upd (own_upd (fun _ => (-1 : Int32)) 2 (0 : Int32)) 0 (1 : Int32)) 1 (2 : Int32)) 2 (-1 : Int32)) 0 (-1 : Int32)) 1 (-1 : Int32)) (1 : Int32) 1 (0 : Int32) Z1097 F1092 F1095 (by decide) (by decide) (by decide)) (by decide) (by decide) (lenOf own_pd4 rfl) rfl (Nat.le_of_eq rfl) at_113 rfl rfl (by decide) (by decide) (fun v1107 h1108 hq1109 => ?_)
          obtain ⟨rfl, rfl⟩ := hq1109
          show own_Run p_ l e_ _ s_ m_ _ b_ mt_ c_ n0 _ h1087 _ _ (mkF m_ 116 #[.val (.int p0), .val (.int p1), .val (.ref a264), .val (.int (1 : Int32)), .val (.int (1 : Int32)), .val (.int (1 : Int32)), .unset, .unset] [(.int (0 : Int32))])
          refine own_i0_ne C (pc1 := 131) (pc2 := 119) at_116 rfl rfl (fun c1110 => absurd c1110 (by decide)) (fun c1110 => ?_)
          refine own_aloadN C (pc' := 120) at_119 rfl rfl rfl ?_
          refine own_iconst C (pc' := 121) (v := (2 : Int32)) at_120 rfl (by decide) ?_
          refine own_callV C (pc' := 124) (y := (⟨"com/example/murmuration/murmuration/search/IndexedSet", "contains", "(I)Z"⟩ : MethodName)) (a := a264) (argsL := [(.int (2 : Int32))]) (rest := []) 0 F1090 (hw _ (List.mem_of_getElem? (i := 30) rfl)) (hw _ (List.mem_of_getElem? (i := 31) rfl)) (hw _ (List.mem_of_getElem? (i := 33) rfl)) (hw _ (List.mem_of_getElem? (i := 32) rfl)) (hw _ (List.mem_of_getElem? (i := 34) rfl)) (hw _ (List.mem_of_getElem? (i := 2) rfl)) (by decide) (own_m6 hw a264 a278 3 (own_upd (own_upd (own_upd (own_upd (own_upd (own_upd (fun _ => (-1 : Int32)) 2 (0 : Int32)) 0 (1 : Int32)) 1 (2 : Int32)) 2 (-1 : Int32)) 0 (-1 : Int32)) 1 (-1 : Int32)) (2 : Int32) 2 (0 : Int32) Z1097 F1092 F1095 (by decide) (by decide) (by decide)) (by decide) (by decide) (lenOf own_pd4 rfl) rfl (Nat.le_of_eq rfl) at_121 rfl rfl (by decide) (by decide) (fun v1111 h1112 hq1113 => ?_)
          obtain ⟨rfl, rfl⟩ := hq1113
          show own_Run p_ l e_ _ s_ m_ _ b_ mt_ c_ n0 _ h1087 _ _ (mkF m_ 124 #[.val (.int p0), .val (.int p1), .val (.ref a264), .val (.int (1 : Int32)), .val (.int (1 : Int32)), .val (.int (1 : Int32)), .unset, .unset] [(.int (0 : Int32))])
          refine own_i0_ne C (pc1 := 131) (pc2 := 127) at_124 rfl rfl (fun c1114 => absurd c1114 (by decide)) (fun c1114 => ?_)
          refine own_iconst C (pc' := 128) (v := (1 : Int32)) at_127 rfl (by decide) ?_
          refine own_goto C (pc' := 132) at_128 rfl ?_
          refine own_istore C (pc' := 134) (Ls' := #[.val (.int p0), .val (.int p1), .val (.ref a264), .val (.int (1 : Int32)), .val (.int (1 : Int32)), .val (.int (1 : Int32)), .val (.int (1 : Int32)), .unset]) at_132 rfl rfl ?_
          refine own_iloadN C (pc' := 135) at_134 rfl rfl ?_
          refine own_ldc C (pc' := 137) (v := (2147483647 : Int32)) at_135 rfl (hw _ (List.mem_of_getElem? (i := 35) rfl)) ?_
          refine own_iand C (pc' := 138) at_137 rfl ?_
          refine own_iconst C (pc' := 139) (v := (3 : Int32)) at_138 rfl (by decide) ?_
          refine own_irem C (pc' := 140) at_139 rfl (by decide) ?_
          refine own_istore C (pc' := 142) (Ls' := #[.val (.int p0), .val (.int p1), .val (.ref a264), .val (.int (1 : Int32)), .val (.int (1 : Int32)), .val (.int (1 : Int32)), .val (.int (1 : Int32)), .val (.int ((p1 &&& (2147483647 : Int32)) % (3 : Int32)))]) at_140 rfl rfl ?_
          obtain ⟨A1116, b1117, hA1118⟩ := own_rem p1 (n := (3 : Int32)) (N := 3) (by decide) (by decide)
          generalize ((p1 &&& (2147483647 : Int32)) % (3 : Int32)) = x1115 at hA1118 ⊢
          show own_Run p_ l e_ _ s_ m_ _ b_ mt_ c_ n0 _ h1087 _ _ (mkF m_ 142 #[.val (.int p0), .val (.int p1), .val (.ref a264), .val (.int (1 : Int32)), .val (.int (1 : Int32)), .val (.int (1 : Int32)), .val (.int (1 : Int32)), .val (.int x1115)] [])
          refine own_aloadN C (pc' := 143) at_142 rfl rfl rfl ?_
          refine own_iload C (pc' := 145) at_143 rfl rfl ?_
          refine own_callV C (pc' := 148) (y := (⟨"com/example/murmuration/murmuration/search/IndexedSet", "add", "(I)V"⟩ : MethodName)) (a := a264) (argsL := [(.int x1115)]) (rest := []) 0 F1090 (hw _ (List.mem_of_getElem? (i := 36) rfl)) (hw _ (List.mem_of_getElem? (i := 37) rfl)) (hw _ (List.mem_of_getElem? (i := 39) rfl)) (hw _ (List.mem_of_getElem? (i := 38) rfl)) (hw _ (List.mem_of_getElem? (i := 40) rfl)) (hw _ (List.mem_of_getElem? (i := 2) rfl)) (by decide) (own_m7 hw a264 a277 a278 3 (0 : Int32) (own_upd (own_upd (own_upd (fun _ => (0 : Int32)) 0 (2 : Int32)) 1 (0 : Int32)) 2 (1 : Int32)) (own_upd (own_upd (own_upd (own_upd (own_upd (own_upd (fun _ => (-1 : Int32)) 2 (0 : Int32)) 0 (1 : Int32)) 1 (2 : Int32)) 2 (-1 : Int32)) 0 (-1 : Int32)) 1 (-1 : Int32)) x1115 A1116 0 (1 : Int32) Z1097 F1090 ga266 ga280 ga282 ne293 ne294 F292 F1091 F1092 F1093 F1094 F1095 hA1118 (by omega) (by decide) (by decide) (by decide)) (by decide) (by decide) (lenOf own_pd1 rfl) rfl (Nat.le_of_eq rfl) at_145 rfl rfl (by decide) (by decide) (fun v1119 h1120 hq1121 => ?_)
          obtain ⟨rfl, K1122, F1123, F1124, F1125, F1126, F1127, F1128⟩ := hq1121
          have Z1130 : n0 ≤ h1120.size := Nat.le_trans Z1097 K1122.1
          have F1131 : Exa Z h1120 a264 "com/example/murmuration/murmuration/search/IndexedSet" := Exa.keep F1090 K1122
          show own_Run p_ l e_ _ s_ m_ _ b_ mt_ c_ n0 _ h1120 _ _ (mkF m_ 148 #[.val (.int p0), .val (.int p1), .val (.ref a264), .val (.int (1 : Int32)), .val (.int (1 : Int32)), .val (.int (1 : Int32)), .val (.int (1 : Int32)), .val (.int x1115)] [])
          refine own_iload C (pc' := 150) at_148 rfl rfl ?_
          refine own_i0_eq C (pc1 := 176) (pc2 := 153) at_150 rfl rfl (fun c1132 => absurd c1132 (by decide)) (fun c1132 => ?_)
          refine own_aloadN C (pc' := 154) at_153 rfl rfl rfl ?_
          refine own_iconst C (pc' := 155) (v := (0 : Int32)) at_154 rfl (by decide) ?_
          refine own_callV C (pc' := 158) (y := (⟨"com/example/murmuration/murmuration/search/IndexedSet", "get", "(I)I"⟩ : MethodName)) (a := a264) (argsL := [(.int (0 : Int32))]) (rest := []) 0 F1123 (hw _ (List.mem_of_getElem? (i := 41) rfl)) (hw _ (List.mem_of_getElem? (i := 42) rfl)) (hw _ (List.mem_of_getElem? (i := 44) rfl)) (hw _ (List.mem_of_getElem? (i := 43) rfl)) (hw _ (List.mem_of_getElem? (i := 45) rfl)) (hw _ (List.mem_of_getElem? (i := 2) rfl)) (by decide) (own_m8 hw a264 a277 3 (own_upd (own_upd (own_upd (own_upd (fun _ => (0 : Int32)) 0 (2 : Int32)) 1 (0 : Int32)) 2 (1 : Int32)) 0 x1115) (0 : Int32) 0 x1115 Z1130 F1124 F1127 (by decide) (by decide) rfl) (by decide) (by decide) (lenOf own_pd5 rfl) rfl (Nat.le_of_eq rfl) at_155 rfl rfl (by decide) (by decide) (fun v1133 h1134 hq1135 => ?_)
          obtain ⟨rfl, rfl⟩ := hq1135
          show own_Run p_ l e_ _ s_ m_ _ b_ mt_ c_ n0 _ h1120 _ _ (mkF m_ 158 #[.val (.int p0), .val (.int p1), .val (.ref a264), .val (.int (1 : Int32)), .val (.int (1 : Int32)), .val (.int (1 : Int32)), .val (.int (1 : Int32)), .val (.int x1115)] [(.int x1115)])
          refine own_iload C (pc' := 160) at_158 rfl rfl ?_
          refine own_ii_ne C (pc1 := 176) (pc2 := 163) at_160 rfl rfl (fun c1136 => absurd c1136 (not_not_intro rfl)) (fun c1136 => ?_)
          refine own_aloadN C (pc' := 164) at_163 rfl rfl rfl ?_
          refine own_iload C (pc' := 166) at_164 rfl rfl ?_
          refine own_callV C (pc' := 169) (y := (⟨"com/example/murmuration/murmuration/search/IndexedSet", "contains", "(I)Z"⟩ : MethodName)) (a := a264) (argsL := [(.int x1115)]) (rest := []) 0 F1123 (hw _ (List.mem_of_getElem? (i := 30) rfl)) (hw _ (List.mem_of_getElem? (i := 31) rfl)) (hw _ (List.mem_of_getElem? (i := 33) rfl)) (hw _ (List.mem_of_getElem? (i := 32) rfl)) (hw _ (List.mem_of_getElem? (i := 34) rfl)) (hw _ (List.mem_of_getElem? (i := 2) rfl)) (by decide) (own_m6 hw a264 a278 3 (own_upd (own_upd (own_upd (own_upd (own_upd (own_upd (own_upd (fun _ => (-1 : Int32)) 2 (0 : Int32)) 0 (1 : Int32)) 1 (2 : Int32)) 2 (-1 : Int32)) 0 (-1 : Int32)) 1 (-1 : Int32)) A1116 (0 : Int32)) x1115 A1116 (1 : Int32) Z1130 F1125 F1128 hA1118 (by omega) (by simp [own_upd])) (by decide) (by decide) (lenOf own_pd4 rfl) rfl (Nat.le_of_eq rfl) at_166 rfl rfl (by decide) (by decide) (fun v1137 h1138 hq1139 => ?_)
          obtain ⟨rfl, rfl⟩ := hq1139
          show own_Run p_ l e_ _ s_ m_ _ b_ mt_ c_ n0 _ h1120 _ _ (mkF m_ 169 #[.val (.int p0), .val (.int p1), .val (.ref a264), .val (.int (1 : Int32)), .val (.int (1 : Int32)), .val (.int (1 : Int32)), .val (.int (1 : Int32)), .val (.int x1115)] [(.int (1 : Int32))])
          refine own_i0_eq C (pc1 := 176) (pc2 := 172) at_169 rfl rfl (fun c1140 => absurd c1140 (by decide)) (fun c1140 => ?_)
          refine own_iconst C (pc' := 173) (v := (1 : Int32)) at_172 rfl (by decide) ?_
          refine own_goto C (pc' := 177) at_173 rfl ?_
          exact own_ret C (t := .boolean) rfl rfl (Or.inl ⟨rfl, by simp, _, rfl⟩) at_177 (by decide) (by decide) (rfl)
        · skip
          refine own_aloadN C (pc' := 88) at_87 rfl rfl rfl ?_
          refine own_iconst C (pc' := 89) (v := (2 : Int32)) at_88 rfl (by decide) ?_
          refine own_callV C (pc' := 92) (y := (⟨"com/example/murmuration/murmuration/search/IndexedSet", "remove", "(I)V"⟩ : MethodName)) (a := a264) (argsL := [(.int (2 : Int32))]) (rest := []) 0 F1075 (hw _ (List.mem_of_getElem? (i := 46) rfl)) (hw _ (List.mem_of_getElem? (i := 47) rfl)) (hw _ (List.mem_of_getElem? (i := 49) rfl)) (hw _ (List.mem_of_getElem? (i := 48) rfl)) (hw _ (List.mem_of_getElem? (i := 50) rfl)) (hw _ (List.mem_of_getElem? (i := 2) rfl)) (by decide) (own_m9 hw a264 a277 a278 3 (3 : Int32) (own_upd (own_upd (own_upd (fun _ => (0 : Int32)) 0 (2 : Int32)) 1 (0 : Int32)) 2 (1 : Int32)) (own_upd (own_upd (own_upd (fun _ => (-1 : Int32)) 2 (0 : Int32)) 0 (1 : Int32)) 1 (2 : Int32)) (2 : Int32) 2 2 (0 : Int32) (1 : Int32) 0 1 (2 : Int32) Z1082 F1075 ga266 ga280 ga282 ne293 ne294 F292 F1076 F1077 F1078 F1079 F1080 (by decide) (by decide) rfl (by decide) (by decide) (by decide) (by decide) rfl (by decide) (by decide) (by decide)) (by decide) (by decide) (lenOf own_pd1 rfl) rfl (Nat.le_of_eq rfl) at_89 rfl rfl (by decide) (by decide) (fun v1141 h1142 hq1143 => ?_)
          obtain ⟨rfl, K1144, F1145, F1146, F1147, F1148, F1149, F1150⟩ := hq1143
          have Z1152 : n0 ≤ h1142.size := Nat.le_trans Z1082 K1144.1
          have F1153 : Exa Z h1142 a264 "com/example/murmuration/murmuration/search/IndexedSet" := Exa.keep F1075 K1144
          show own_Run p_ l e_ _ s_ m_ _ b_ mt_ c_ n0 _ h1142 _ _ (mkF m_ 92 #[.val (.int p0), .val (.int p1), .val (.ref a264), .val (.int (1 : Int32)), .val (.int (1 : Int32)), .val (.int (1 : Int32)), .unset, .unset] [])
          refine own_aloadN C (pc' := 93) at_92 rfl rfl rfl ?_
          refine own_callV C (pc' := 96) (y := (⟨"com/example/murmuration/murmuration/search/IndexedSet", "clear", "()V"⟩ : MethodName)) (a := a264) (argsL := []) (rest := []) 0 F1145 (hw _ (List.mem_of_getElem? (i := 18) rfl)) (hw _ (List.mem_of_getElem? (i := 19) rfl)) (hw _ (List.mem_of_getElem? (i := 21) rfl)) (hw _ (List.mem_of_getElem? (i := 20) rfl)) (hw _ (List.mem_of_getElem? (i := 22) rfl)) (hw _ (List.mem_of_getElem? (i := 2) rfl)) (by decide) (own_clear2 hw a264 a277 a278 3 (own_upd (own_upd (own_upd (own_upd (fun _ => (0 : Int32)) 0 (2 : Int32)) 1 (0 : Int32)) 2 (1 : Int32)) 0 (1 : Int32)) (own_upd (own_upd (own_upd (own_upd (own_upd (fun _ => (-1 : Int32)) 2 (0 : Int32)) 0 (1 : Int32)) 1 (2 : Int32)) 1 (0 : Int32)) 2 (-1 : Int32)) (1 : Int32) (0 : Int32) 1 0 Z1152 F1145 ga266 ga280 ga282 ne293 ne294 F292 F1146 F1147 F1148 F1149 F1150 (by omega) rfl (by decide) (by decide) rfl (by decide) (by decide)) (by decide) (by decide) (lenOf own_pd2 rfl) rfl (Nat.le_of_eq rfl) at_93 rfl rfl (by decide) (by decide) (fun v1154 h1155 hq1156 => ?_)
          obtain ⟨rfl, K1157, F1158, F1159, F1160, F1161, F1162, F1163⟩ := hq1156
          have Z1165 : n0 ≤ h1155.size := Nat.le_trans Z1152 K1157.1
          have F1166 : Exa Z h1155 a264 "com/example/murmuration/murmuration/search/IndexedSet" := Exa.keep F1145 K1157
          show own_Run p_ l e_ _ s_ m_ _ b_ mt_ c_ n0 _ h1155 _ _ (mkF m_ 96 #[.val (.int p0), .val (.int p1), .val (.ref a264), .val (.int (1 : Int32)), .val (.int (1 : Int32)), .val (.int (1 : Int32)), .unset, .unset] [])
          refine own_aloadN C (pc' := 97) at_96 rfl rfl rfl ?_
          refine own_callV C (pc' := 100) (y := (⟨"com/example/murmuration/murmuration/search/IndexedSet", "size", "()I"⟩ : MethodName)) (a := a264) (argsL := []) (rest := []) 0 F1158 (hw _ (List.mem_of_getElem? (i := 25) rfl)) (hw _ (List.mem_of_getElem? (i := 26) rfl)) (hw _ (List.mem_of_getElem? (i := 28) rfl)) (hw _ (List.mem_of_getElem? (i := 27) rfl)) (hw _ (List.mem_of_getElem? (i := 29) rfl)) (hw _ (List.mem_of_getElem? (i := 2) rfl)) (by decide) (own_m5 hw a264 (0 : Int32) Z1165 F1161 ) (by decide) (by decide) (lenOf own_pd3 rfl) rfl (Nat.le_of_eq rfl) at_97 rfl rfl (by decide) (by decide) (fun v1167 h1168 hq1169 => ?_)
          obtain ⟨rfl, rfl⟩ := hq1169
          show own_Run p_ l e_ _ s_ m_ _ b_ mt_ c_ n0 _ h1155 _ _ (mkF m_ 100 #[.val (.int p0), .val (.int p1), .val (.ref a264), .val (.int (1 : Int32)), .val (.int (1 : Int32)), .val (.int (1 : Int32)), .unset, .unset] [(.int (0 : Int32))])
          refine own_i0_ne C (pc1 := 131) (pc2 := 103) at_100 rfl rfl (fun c1170 => absurd c1170 (by decide)) (fun c1170 => ?_)
          refine own_aloadN C (pc' := 104) at_103 rfl rfl rfl ?_
          refine own_iconst C (pc' := 105) (v := (0 : Int32)) at_104 rfl (by decide) ?_
          refine own_callV C (pc' := 108) (y := (⟨"com/example/murmuration/murmuration/search/IndexedSet", "contains", "(I)Z"⟩ : MethodName)) (a := a264) (argsL := [(.int (0 : Int32))]) (rest := []) 0 F1158 (hw _ (List.mem_of_getElem? (i := 30) rfl)) (hw _ (List.mem_of_getElem? (i := 31) rfl)) (hw _ (List.mem_of_getElem? (i := 33) rfl)) (hw _ (List.mem_of_getElem? (i := 32) rfl)) (hw _ (List.mem_of_getElem? (i := 34) rfl)) (hw _ (List.mem_of_getElem? (i := 2) rfl)) (by decide) (own_m6 hw a264 a278 3 (own_upd (own_upd (own_upd (own_upd (own_upd (own_upd (own_upd (fun _ => (-1 : Int32)) 2 (0 : Int32)) 0 (1 : Int32)) 1 (2 : Int32)) 1 (0 : Int32)) 2 (-1 : Int32)) 1 (-1 : Int32)) 0 (-1 : Int32)) (0 : Int32) 0 (0 : Int32) Z1165 F1160 F1163 (by decide) (by decide) (by decide)) (by decide) (by decide) (lenOf own_pd4 rfl) rfl (Nat.le_of_eq rfl) at_105 rfl rfl (by decide) (by decide) (fun v1171 h1172 hq1173 => ?_)
          obtain ⟨rfl, rfl⟩ := hq1173
          show own_Run p_ l e_ _ s_ m_ _ b_ mt_ c_ n0 _ h1155 _ _ (mkF m_ 108 #[.val (.int p0), .val (.int p1), .val (.ref a264), .val (.int (1 : Int32)), .val (.int (1 : Int32)), .val (.int (1 : Int32)), .unset, .unset] [(.int (0 : Int32))])
          refine own_i0_ne C (pc1 := 131) (pc2 := 111) at_108 rfl rfl (fun c1174 => absurd c1174 (by decide)) (fun c1174 => ?_)
          refine own_aloadN C (pc' := 112) at_111 rfl rfl rfl ?_
          refine own_iconst C (pc' := 113) (v := (1 : Int32)) at_112 rfl (by decide) ?_
          refine own_callV C (pc' := 116) (y := (⟨"com/example/murmuration/murmuration/search/IndexedSet", "contains", "(I)Z"⟩ : MethodName)) (a := a264) (argsL := [(.int (1 : Int32))]) (rest := []) 0 F1158 (hw _ (List.mem_of_getElem? (i := 30) rfl)) (hw _ (List.mem_of_getElem? (i := 31) rfl)) (hw _ (List.mem_of_getElem? (i := 33) rfl)) (hw _ (List.mem_of_getElem? (i := 32) rfl)) (hw _ (List.mem_of_getElem? (i := 34) rfl)) (hw _ (List.mem_of_getElem? (i := 2) rfl)) (by decide) (own_m6 hw a264 a278 3 (own_upd (own_upd (own_upd (own_upd (own_upd (own_upd (own_upd (fun _ => (-1 : Int32)) 2 (0 : Int32)) 0 (1 : Int32)) 1 (2 : Int32)) 1 (0 : Int32)) 2 (-1 : Int32)) 1 (-1 : Int32)) 0 (-1 : Int32)) (1 : Int32) 1 (0 : Int32) Z1165 F1160 F1163 (by decide) (by decide) (by decide)) (by decide) (by decide) (lenOf own_pd4 rfl) rfl (Nat.le_of_eq rfl) at_113 rfl rfl (by decide) (by decide) (fun v1175 h1176 hq1177 => ?_)
          obtain ⟨rfl, rfl⟩ := hq1177
          show own_Run p_ l e_ _ s_ m_ _ b_ mt_ c_ n0 _ h1155 _ _ (mkF m_ 116 #[.val (.int p0), .val (.int p1), .val (.ref a264), .val (.int (1 : Int32)), .val (.int (1 : Int32)), .val (.int (1 : Int32)), .unset, .unset] [(.int (0 : Int32))])
          refine own_i0_ne C (pc1 := 131) (pc2 := 119) at_116 rfl rfl (fun c1178 => absurd c1178 (by decide)) (fun c1178 => ?_)
          refine own_aloadN C (pc' := 120) at_119 rfl rfl rfl ?_
          refine own_iconst C (pc' := 121) (v := (2 : Int32)) at_120 rfl (by decide) ?_
          refine own_callV C (pc' := 124) (y := (⟨"com/example/murmuration/murmuration/search/IndexedSet", "contains", "(I)Z"⟩ : MethodName)) (a := a264) (argsL := [(.int (2 : Int32))]) (rest := []) 0 F1158 (hw _ (List.mem_of_getElem? (i := 30) rfl)) (hw _ (List.mem_of_getElem? (i := 31) rfl)) (hw _ (List.mem_of_getElem? (i := 33) rfl)) (hw _ (List.mem_of_getElem? (i := 32) rfl)) (hw _ (List.mem_of_getElem? (i := 34) rfl)) (hw _ (List.mem_of_getElem? (i := 2) rfl)) (by decide) (own_m6 hw a264 a278 3 (own_upd (own_upd (own_upd (own_upd (own_upd (own_upd (own_upd (fun _ => (-1 : Int32)) 2 (0 : Int32)) 0 (1 : Int32)) 1 (2 : Int32)) 1 (0 : Int32)) 2 (-1 : Int32)) 1 (-1 : Int32)) 0 (-1 : Int32)) (2 : Int32) 2 (0 : Int32) Z1165 F1160 F1163 (by decide) (by decide) (by decide)) (by decide) (by decide) (lenOf own_pd4 rfl) rfl (Nat.le_of_eq rfl) at_121 rfl rfl (by decide) (by decide) (fun v1179 h1180 hq1181 => ?_)
          obtain ⟨rfl, rfl⟩ := hq1181
          show own_Run p_ l e_ _ s_ m_ _ b_ mt_ c_ n0 _ h1155 _ _ (mkF m_ 124 #[.val (.int p0), .val (.int p1), .val (.ref a264), .val (.int (1 : Int32)), .val (.int (1 : Int32)), .val (.int (1 : Int32)), .unset, .unset] [(.int (0 : Int32))])
          refine own_i0_ne C (pc1 := 131) (pc2 := 127) at_124 rfl rfl (fun c1182 => absurd c1182 (by decide)) (fun c1182 => ?_)
          refine own_iconst C (pc' := 128) (v := (1 : Int32)) at_127 rfl (by decide) ?_
          refine own_goto C (pc' := 132) at_128 rfl ?_
          refine own_istore C (pc' := 134) (Ls' := #[.val (.int p0), .val (.int p1), .val (.ref a264), .val (.int (1 : Int32)), .val (.int (1 : Int32)), .val (.int (1 : Int32)), .val (.int (1 : Int32)), .unset]) at_132 rfl rfl ?_
          refine own_iloadN C (pc' := 135) at_134 rfl rfl ?_
          refine own_ldc C (pc' := 137) (v := (2147483647 : Int32)) at_135 rfl (hw _ (List.mem_of_getElem? (i := 35) rfl)) ?_
          refine own_iand C (pc' := 138) at_137 rfl ?_
          refine own_iconst C (pc' := 139) (v := (3 : Int32)) at_138 rfl (by decide) ?_
          refine own_irem C (pc' := 140) at_139 rfl (by decide) ?_
          refine own_istore C (pc' := 142) (Ls' := #[.val (.int p0), .val (.int p1), .val (.ref a264), .val (.int (1 : Int32)), .val (.int (1 : Int32)), .val (.int (1 : Int32)), .val (.int (1 : Int32)), .val (.int ((p1 &&& (2147483647 : Int32)) % (3 : Int32)))]) at_140 rfl rfl ?_
          obtain ⟨A1184, b1185, hA1186⟩ := own_rem p1 (n := (3 : Int32)) (N := 3) (by decide) (by decide)
          generalize ((p1 &&& (2147483647 : Int32)) % (3 : Int32)) = x1183 at hA1186 ⊢
          show own_Run p_ l e_ _ s_ m_ _ b_ mt_ c_ n0 _ h1155 _ _ (mkF m_ 142 #[.val (.int p0), .val (.int p1), .val (.ref a264), .val (.int (1 : Int32)), .val (.int (1 : Int32)), .val (.int (1 : Int32)), .val (.int (1 : Int32)), .val (.int x1183)] [])
          refine own_aloadN C (pc' := 143) at_142 rfl rfl rfl ?_
          refine own_iload C (pc' := 145) at_143 rfl rfl ?_
          refine own_callV C (pc' := 148) (y := (⟨"com/example/murmuration/murmuration/search/IndexedSet", "add", "(I)V"⟩ : MethodName)) (a := a264) (argsL := [(.int x1183)]) (rest := []) 0 F1158 (hw _ (List.mem_of_getElem? (i := 36) rfl)) (hw _ (List.mem_of_getElem? (i := 37) rfl)) (hw _ (List.mem_of_getElem? (i := 39) rfl)) (hw _ (List.mem_of_getElem? (i := 38) rfl)) (hw _ (List.mem_of_getElem? (i := 40) rfl)) (hw _ (List.mem_of_getElem? (i := 2) rfl)) (by decide) (own_m7 hw a264 a277 a278 3 (0 : Int32) (own_upd (own_upd (own_upd (own_upd (fun _ => (0 : Int32)) 0 (2 : Int32)) 1 (0 : Int32)) 2 (1 : Int32)) 0 (1 : Int32)) (own_upd (own_upd (own_upd (own_upd (own_upd (own_upd (own_upd (fun _ => (-1 : Int32)) 2 (0 : Int32)) 0 (1 : Int32)) 1 (2 : Int32)) 1 (0 : Int32)) 2 (-1 : Int32)) 1 (-1 : Int32)) 0 (-1 : Int32)) x1183 A1184 0 (1 : Int32) Z1165 F1158 ga266 ga280 ga282 ne293 ne294 F292 F1159 F1160 F1161 F1162 F1163 hA1186 (by omega) (by decide) (by decide) (by decide)) (by decide) (by decide) (lenOf own_pd1 rfl) rfl (Nat.le_of_eq rfl) at_145 rfl rfl (by decide) (by decide) (fun v1187 h1188 hq1189 => ?_)
          obtain ⟨rfl, K1190, F1191, F1192, F1193, F1194, F1195, F1196⟩ := hq1189
          have Z1198 : n0 ≤ h1188.size := Nat.le_trans Z1165 K1190.1
          have F1199 : Exa Z h1188 a264 "com/example/murmuration/murmuration/search/IndexedSet" := Exa.keep F1158 K1190
          show own_Run p_ l e_ _ s_ m_ _ b_ mt_ c_ n0 _ h1188 _ _ (mkF m_ 148 #[.val (.int p0), .val (.int p1), .val (.ref a264), .val (.int (1 : Int32)), .val (.int (1 : Int32)), .val (.int (1 : Int32)), .val (.int (1 : Int32)), .val (.int x1183)] [])
          refine own_iload C (pc' := 150) at_148 rfl rfl ?_
          refine own_i0_eq C (pc1 := 176) (pc2 := 153) at_150 rfl rfl (fun c1200 => absurd c1200 (by decide)) (fun c1200 => ?_)
          refine own_aloadN C (pc' := 154) at_153 rfl rfl rfl ?_
          refine own_iconst C (pc' := 155) (v := (0 : Int32)) at_154 rfl (by decide) ?_
          refine own_callV C (pc' := 158) (y := (⟨"com/example/murmuration/murmuration/search/IndexedSet", "get", "(I)I"⟩ : MethodName)) (a := a264) (argsL := [(.int (0 : Int32))]) (rest := []) 0 F1191 (hw _ (List.mem_of_getElem? (i := 41) rfl)) (hw _ (List.mem_of_getElem? (i := 42) rfl)) (hw _ (List.mem_of_getElem? (i := 44) rfl)) (hw _ (List.mem_of_getElem? (i := 43) rfl)) (hw _ (List.mem_of_getElem? (i := 45) rfl)) (hw _ (List.mem_of_getElem? (i := 2) rfl)) (by decide) (own_m8 hw a264 a277 3 (own_upd (own_upd (own_upd (own_upd (own_upd (fun _ => (0 : Int32)) 0 (2 : Int32)) 1 (0 : Int32)) 2 (1 : Int32)) 0 (1 : Int32)) 0 x1183) (0 : Int32) 0 x1183 Z1198 F1192 F1195 (by decide) (by decide) rfl) (by decide) (by decide) (lenOf own_pd5 rfl) rfl (Nat.le_of_eq rfl) at_155 rfl rfl (by decide) (by decide) (fun v1201 h1202 hq1203 => ?_)
          obtain ⟨rfl, rfl⟩ := hq1203
          show own_Run p_ l e_ _ s_ m_ _ b_ mt_ c_ n0 _ h1188 _ _ (mkF m_ 158 #[.val (.int p0), .val (.int p1), .val (.ref a264), .val (.int (1 : Int32)), .val (.int (1 : Int32)), .val (.int (1 : Int32)), .val (.int (1 : Int32)), .val (.int x1183)] [(.int x1183)])
          refine own_iload C (pc' := 160) at_158 rfl rfl ?_
          refine own_ii_ne C (pc1 := 176) (pc2 := 163) at_160 rfl rfl (fun c1204 => absurd c1204 (not_not_intro rfl)) (fun c1204 => ?_)
          refine own_aloadN C (pc' := 164) at_163 rfl rfl rfl ?_
          refine own_iload C (pc' := 166) at_164 rfl rfl ?_
          refine own_callV C (pc' := 169) (y := (⟨"com/example/murmuration/murmuration/search/IndexedSet", "contains", "(I)Z"⟩ : MethodName)) (a := a264) (argsL := [(.int x1183)]) (rest := []) 0 F1191 (hw _ (List.mem_of_getElem? (i := 30) rfl)) (hw _ (List.mem_of_getElem? (i := 31) rfl)) (hw _ (List.mem_of_getElem? (i := 33) rfl)) (hw _ (List.mem_of_getElem? (i := 32) rfl)) (hw _ (List.mem_of_getElem? (i := 34) rfl)) (hw _ (List.mem_of_getElem? (i := 2) rfl)) (by decide) (own_m6 hw a264 a278 3 (own_upd (own_upd (own_upd (own_upd (own_upd (own_upd (own_upd (own_upd (fun _ => (-1 : Int32)) 2 (0 : Int32)) 0 (1 : Int32)) 1 (2 : Int32)) 1 (0 : Int32)) 2 (-1 : Int32)) 1 (-1 : Int32)) 0 (-1 : Int32)) A1184 (0 : Int32)) x1183 A1184 (1 : Int32) Z1198 F1193 F1196 hA1186 (by omega) (by simp [own_upd])) (by decide) (by decide) (lenOf own_pd4 rfl) rfl (Nat.le_of_eq rfl) at_166 rfl rfl (by decide) (by decide) (fun v1205 h1206 hq1207 => ?_)
          obtain ⟨rfl, rfl⟩ := hq1207
          show own_Run p_ l e_ _ s_ m_ _ b_ mt_ c_ n0 _ h1188 _ _ (mkF m_ 169 #[.val (.int p0), .val (.int p1), .val (.ref a264), .val (.int (1 : Int32)), .val (.int (1 : Int32)), .val (.int (1 : Int32)), .val (.int (1 : Int32)), .val (.int x1183)] [(.int (1 : Int32))])
          refine own_i0_eq C (pc1 := 176) (pc2 := 172) at_169 rfl rfl (fun c1208 => absurd c1208 (by decide)) (fun c1208 => ?_)
          refine own_iconst C (pc' := 173) (v := (1 : Int32)) at_172 rfl (by decide) ?_
          refine own_goto C (pc' := 177) at_173 rfl ?_
          exact own_ret C (t := .boolean) rfl rfl (Or.inl ⟨rfl, by simp, _, rfl⟩) at_177 (by decide) (by decide) (rfl)
set_option maxRecDepth 65536 in
set_option maxHeartbeats 40000000 in
theorem own_comes {Post : Tables → Env → Array Value → State → Outcome → State → Prop} (hpost : ∀ tb e args s v u, (limb_1_1.after args s (.returned v) u = true ∧ limb_1_2.after args s (.returned v) u = true ∧ True) → FrameEnd s (.returned v) u (Jvm.fieldLocs frame_1_writes args s ++ Jvm.arrayLocs frame_1_arrays args s ++ Jvm.staticLocs frame_1_statics s) 16 128 → Post tb e args s (.returned v) u) :
    ArmFor flags0 classFile x code maxLocals ret World_1 tables_1 room_1 Calls_1 rest_1 Pre_1 Post := by
  intro l hfl _ _ p e ha hc hk s m args below hf hA hF happ hP
  obtain ⟨hcalls, hrest, hpre⟩ := hP
  obtain ⟨-, -, -, hnamed, -, -, -, hat⟩ := (Spec.applies_iff hf).mp happ
  obtain ⟨hg, hn⟩ := and_e (Cond.before_iff.mp (show (Jvm.Cond.and given_1 narrow_1).before args s = true from hpre))
  obtain ⟨g0, r0⟩ := and_e hg
  obtain ⟨q0, r1⟩ := and_e r0
  obtain ⟨w0, w1, rfl⟩ : ∃ w0 w1 : Value, args = #[w0, w1] := by
    have hs : args.size = 2 := by simpa [Cond.value, given_1] using g0
    obtain ⟨L⟩ := args
    match L, hs with
    | [w0, w1], _ => exact ⟨w0, w1, rfl⟩
  have hw := fun d (hd : d ∈ tables_1) => atoms_spec (ws := Jvm.Cond.code x code maxLocals ret :: tables_1) hat d (List.mem_cons_of_mem _ hd)
  obtain ⟨i0, ei0⟩ := is_v q0
  obtain rfl : w0 = (.int i0) := Option.some.inj ei0
  obtain ⟨i1, ei1⟩ := is_v r1
  obtain rfl : w1 = (.int i1) := Option.some.inj ei1
  obtain ⟨n, o, h1, h2, h3, _, L, rfl, ⟨N, rfl⟩, hq⟩ := own_law (l := l) (Z := s) hw (n0 := s.heap.size) (ws := tables_1) (h := s.heap) i0 i1 (Nat.le_refl _)  p e ha hc hk s m _ below hf ((Spec.applies_iff_loose hf).mp happ).1 ⟨rfl, State.Warmed39.refl s, rfl⟩ trivial
  refine ⟨n, _, h1, h2, h3, hpost _ _ _ _ _ _ ⟨Cond.after_iff.mpr rfl, Cond.after_iff.mpr (eq_i res_at (Term.int_eval (1)) rfl), trivial⟩ ⟨hq.1, hq.2.1, (hq.2.2.sift fun y hy => Or.inr (N y hy)).mono (by decide) (by decide)⟩⟩
theorem main_1_1 : Claimed_1_1 := own_comes fun _ _ _ _ _ _ h hF => ⟨h.1, hF⟩
theorem main_1_2 : Claimed_1_2 := own_comes fun _ _ _ _ _ _ h hF => ⟨h.2.1, hF⟩
end Jvm.Pilot.@@N@@
namespace Jvm.Pilot.@@N@@
open Jvm Jvm.ClassFile Sem Op Lib Jvm.Free Jvm.Stand Jvm.Pilot.@@N@@.Jvm.D
/-! MADE BY PROGRAM (witnessworld.py) out of the Statement's table words and the real class files: 10 classes; the members and pool entries that the words name. The judged class is class 1, her method 1. -/
namespace start1
open Jvm.ClassFile
def u (s : String) : CpInfo := .utf8 (stringToUtf16 s)
/-- a pool by its gaps: so many unusable entries, then the entry; so many at the end -/
def gap : Nat → List CpInfo → List CpInfo
  | 0, r => r
  | n + 1, r => .unusable :: gap n r
def poolList (es : List (Nat × CpInfo)) (last : Nat) : List CpInfo := es.foldr (fun e r => gap e.1 (e.2 :: r)) (gap last [])
def pool (es : List (Nat × CpInfo)) (last : Nat) : Array CpInfo := ⟨poolList es last⟩
def fileOf (pool : Array CpInfo) (this : Nat) (attrs : Array Attribute := #[]) (ms : Array MethodInfo := #[]) (fl : Nat := 33) (sup : Nat := 0) (ifs : Array Nat := #[]) (fds : Array FieldInfo := #[]) : ClassFile where
  minorVersion := 0
  majorVersion := 65
  constantPool := pool
  accessFlags := fl
  thisClass := this
  superClass := sup
  interfaces := ifs
  fields := fds
  methods := ms
  attributes := attrs
def plain (name : String) (sup : Option ClassId) : Class where
  name := name
  kind := .ordinary
  loader := none
  accessFlags := 33
  super := sup
  interfaces := #[]
  cf := none
  fields := #[]
  methods := #[]
  instanceTypes := #[]
  staticTypes := #[]
  resolved := #[]
  callSites := []
  init := .initialized
  statics := none
  mirror := none

def pool0 : Array CpInfo := pool [(5, u "<init>"), (0, u "()V"), (1, .class_ 10), (1, u "java/lang/Object")] 113

def k0c0 : Code := { maxStack := 0, maxLocals := 1, code := object_method_1_code, exceptionTable := #[], attributes := #[] }
def k0m0 : Method := { name := "<init>", desc := "()V", sig := { parameters := [], returnType := none }, accessFlags := 1, code := some k0c0 }
/-- java/lang/Object -/
def k0 : Class := { plain "java/lang/Object" none with
  accessFlags := 33
  interfaces := #[]
  cf := some (fileOf pool0 8 #[] #[{ accessFlags := 1, nameIndex := 5, descriptorIndex := 6, attributes := #[] }] 33 0 #[] #[])
  fields := #[]
  methods := #[k0m0]
  instanceTypes := #[]
  staticTypes := #[]
  resolved := Array.replicate 124 none
  statics := none }

def pool1 : Array CpInfo := pool [(2, .class_ 4), (1, u "java/lang/Object"), (0, u "<init>"), (0, u "()V"), (0, .class_ 8), (0, u "com/example/murmuration/murmuration/search/IndexedSet"), (0, .methodref 7 10), (0, .nameAndType 5 11), (0, u "(I)V"), (0, .methodref 7 13), (0, .nameAndType 14 11), (0, u "add"), (0, .methodref 7 16), (0, .nameAndType 17 11), (0, u "remove"), (0, .methodref 7 19), (0, .nameAndType 20 6), (0, u "clear"), (0, .methodref 7 22), (0, .nameAndType 23 24), (0, u "size"), (0, u "()I"), (0, .methodref 7 26), (0, .nameAndType 27 28), (0, u "contains"), (0, u "(I)Z"), (0, .integer 2147483647), (0, .methodref 7 31), (0, .nameAndType 32 33), (0, u "get"), (0, u "(I)I"), (0, .class_ 35), (0, u "com/example/murmuration/murmuration/search/IndexedSetClearPinLaw"), (2, u "law"), (0, u "(II)Z")] 3

def k1m0 : Method := { name := "<init>", desc := "()V", sig := { parameters := [], returnType := none }, accessFlags := 1, code := none }
def k1c1 : Code := { maxStack := 3, maxLocals := 8, code := code, exceptionTable := #[], attributes := #[] }
def k1m1 : Method := { name := "law", desc := "(II)Z", sig := { parameters := [.int, .int], returnType := some .boolean }, accessFlags := 9, code := some k1c1 }
/-- com/example/murmuration/murmuration/search/IndexedSetClearPinLaw -/
def k1 : Class := { plain "com/example/murmuration/murmuration/search/IndexedSetClearPinLaw" (some 0) with
  accessFlags := 49
  interfaces := #[]
  cf := some (fileOf pool1 34 #[] #[{ accessFlags := 1, nameIndex := 5, descriptorIndex := 6, attributes := #[] }, { accessFlags := 9, nameIndex := 38, descriptorIndex := 39, attributes := #[] }] 49 2 #[] #[])
  fields := #[]
  methods := #[k1m0, k1m1]
  instanceTypes := #[]
  staticTypes := #[]
  resolved := Array.replicate 43 none
  statics := none }

def pool2 : Array CpInfo := pool [(1, .methodref 2 3), (0, .class_ 4), (0, .nameAndType 5 6), (0, u "java/lang/Object"), (0, u "<init>"), (0, u "()V"), (0, .fieldref 8 9), (0, .class_ 10), (0, .nameAndType 11 12), (0, u "com/example/murmuration/murmuration/search/IndexedSet"), (0, u "members"), (0, u "[I"), (0, .fieldref 8 14), (0, .nameAndType 15 12), (0, u "positions"), (0, .methodref 17 18), (0, .class_ 19), (0, .nameAndType 20 21), (0, u "java/util/Arrays"), (0, u "fill"), (0, u "([II)V"), (0, .fieldref 8 23), (0, .nameAndType 24 25), (0, u "size"), (0, u "I"), (0, u "(I)V"), (2, u "()I"), (0, u "contains"), (0, u "(I)Z"), (1, u "get"), (0, u "(I)I"), (0, u "add"), (0, u "remove"), (0, u "clear")] 2

def k2c0 : Code := { maxStack := 2, maxLocals := 2, code := prog_28_method_1_code, exceptionTable := #[], attributes := #[] }
def k2m0 : Method := { name := "<init>", desc := "(I)V", sig := { parameters := [.int], returnType := none }, accessFlags := 0, code := some k2c0 }
def k2c1 : Code := { maxStack := 1, maxLocals := 1, code := prog_28_method_2_code, exceptionTable := #[], attributes := #[] }
def k2m1 : Method := { name := "size", desc := "()I", sig := { parameters := [], returnType := some .int }, accessFlags := 0, code := some k2c1 }
def k2c2 : Code := { maxStack := 2, maxLocals := 2, code := prog_28_method_3_code, exceptionTable := #[], attributes := #[] }
def k2m2 : Method := { name := "contains", desc := "(I)Z", sig := { parameters := [.int], returnType := some .boolean }, accessFlags := 0, code := some k2c2 }
def k2c3 : Code := { maxStack := 2, maxLocals := 2, code := prog_28_method_4_code, exceptionTable := #[], attributes := #[] }
def k2m3 : Method := { name := "get", desc := "(I)I", sig := { parameters := [.int], returnType := some .int }, accessFlags := 0, code := some k2c3 }
def k2c4 : Code := { maxStack := 5, maxLocals := 2, code := prog_28_method_5_code, exceptionTable := #[], attributes := #[] }
def k2m4 : Method := { name := "add", desc := "(I)V", sig := { parameters := [.int], returnType := none }, accessFlags := 0, code := some k2c4 }
def k2c5 : Code := { maxStack := 4, maxLocals := 4, code := prog_28_method_6_code, exceptionTable := #[], attributes := #[] }
def k2m5 : Method := { name := "remove", desc := "(I)V", sig := { parameters := [.int], returnType := none }, accessFlags := 0, code := some k2c5 }
def k2c6 : Code := { maxStack := 3, maxLocals := 2, code := prog_28_method_7_code, exceptionTable := #[], attributes := #[] }
def k2m6 : Method := { name := "clear", desc := "()V", sig := { parameters := [], returnType := none }, accessFlags := 0, code := some k2c6 }
/-- com/example/murmuration/murmuration/search/IndexedSet -/
def k2 : Class := { plain "com/example/murmuration/murmuration/search/IndexedSet" (some 0) with
  accessFlags := 48
  interfaces := #[]
  cf := some (fileOf pool2 8 #[] #[{ accessFlags := 0, nameIndex := 5, descriptorIndex := 26, attributes := #[] }, { accessFlags := 0, nameIndex := 24, descriptorIndex := 29, attributes := #[] }, { accessFlags := 0, nameIndex := 30, descriptorIndex := 31, attributes := #[] }, { accessFlags := 0, nameIndex := 33, descriptorIndex := 34, attributes := #[] }, { accessFlags := 0, nameIndex := 35, descriptorIndex := 26, attributes := #[] }, { accessFlags := 0, nameIndex := 36, descriptorIndex := 26, attributes := #[] }, { accessFlags := 0, nameIndex := 37, descriptorIndex := 6, attributes := #[] }] 48 2 #[] #[{ accessFlags := 18, nameIndex := 11, descriptorIndex := 12, attributes := #[] }, { accessFlags := 18, nameIndex := 15, descriptorIndex := 12, attributes := #[] }, { accessFlags := 2, nameIndex := 24, descriptorIndex := 25, attributes := #[] }])
  fields := #[{ name := "members", type := (.array .int), accessFlags := 18, slot := 0, constantValue := 0 }, { name := "positions", type := (.array .int), accessFlags := 18, slot := 1, constantValue := 0 }, { name := "size", type := .int, accessFlags := 2, slot := 2, constantValue := 0 }]
  methods := #[k2m0, k2m1, k2m2, k2m3, k2m4, k2m5, k2m6]
  instanceTypes := #[(.array .int), (.array .int), .int]
  staticTypes := #[]
  resolved := Array.replicate 40 none
  statics := none }

def pool3 : Array CpInfo := pool [(2, .class_ 4), (1, u "java/lang/Object"), (0, u "<init>"), (0, u "()V"), (7, .class_ 16), (1, u "java/util/Arrays"), (57, .class_ 76), (1, u "java/util/Arrays$NaturalOrder"), (36, .class_ 115), (1, u "java/util/Arrays$LegacyMergeSort"), (1, u "Z"), (257, .class_ 376), (0, u "java/util/Arrays$ArrayList"), (68, u "$assertionsDisabled"), (269, u "MIN_ARRAY_SORT_GRAN"), (0, u "I"), (2, u "INSERTIONSORT_THRESHOLD"), (120, u "fill"), (4, u "([II)V"), (129, .class_ 976), (0, u "java/util/Arrays$ArrayItr")] 52

def k3m0 : Method := { name := "<init>", desc := "()V", sig := { parameters := [], returnType := none }, accessFlags := 2, code := none }
def k3c1 : Code := { maxStack := 3, maxLocals := 4, code := jdk_65_method_103_code, exceptionTable := #[], attributes := #[] }
def k3m1 : Method := { name := "fill", desc := "([II)V", sig := { parameters := [(.array .int), .int], returnType := none }, accessFlags := 9, code := some k3c1 }
/-- java/util/Arrays -/
def k3 : Class := { plain "java/util/Arrays" (some 0) with
  accessFlags := 49
  interfaces := #[]
  cf := some (fileOf pool3 14 #[.nestMembers #[975, 375, 113, 74]] #[{ accessFlags := 2, nameIndex := 5, descriptorIndex := 6, attributes := #[] }, { accessFlags := 9, nameIndex := 840, descriptorIndex := 845, attributes := #[] }] 49 2 #[] #[{ accessFlags := 26, nameIndex := 715, descriptorIndex := 716, attributes := #[] }, { accessFlags := 26, nameIndex := 719, descriptorIndex := 716, attributes := #[] }, { accessFlags := 4120, nameIndex := 445, descriptorIndex := 117, attributes := #[] }])
  fields := #[{ name := "MIN_ARRAY_SORT_GRAN", type := .int, accessFlags := 26, slot := 0, constantValue := 0 }, { name := "INSERTIONSORT_THRESHOLD", type := .int, accessFlags := 26, slot := 1, constantValue := 0 }, { name := "$assertionsDisabled", type := .boolean, accessFlags := 4120, slot := 2, constantValue := 0 }]
  methods := #[k3m0, k3m1]
  instanceTypes := #[]
  staticTypes := #[.int, .int, .boolean]
  resolved := Array.replicate 1029 none
  statics := none }

def pool4 : Array CpInfo := pool [(1, u "java/lang/Cloneable"), (0, .class_ 1), (0, u "java/lang/Object"), (0, .class_ 3)] 3

/-- java/lang/Cloneable -/
def k4 : Class := { plain "java/lang/Cloneable" (some 0) with
  accessFlags := 1537
  interfaces := #[]
  cf := some (fileOf pool4 2 #[] #[] 1537 4 #[] #[])
  fields := #[]
  methods := #[]
  instanceTypes := #[]
  staticTypes := #[]
  resolved := Array.replicate 8 none
  statics := none }

def pool5 : Array CpInfo := pool [(1, u "java/io/Serializable"), (0, .class_ 1), (0, u "java/lang/Object"), (0, .class_ 3)] 3

/-- java/io/Serializable -/
def k5 : Class := { plain "java/io/Serializable" (some 0) with
  accessFlags := 1537
  interfaces := #[]
  cf := some (fileOf pool5 2 #[] #[] 1537 4 #[] #[])
  fields := #[]
  methods := #[]
  instanceTypes := #[]
  staticTypes := #[]
  resolved := Array.replicate 8 none
  statics := none }

/-- the primitive byte -/
def k6 : Class := { plain "byte" none with kind := .primitive 'B', accessFlags := 0x411 }
/-- [B -/
def k7 : Class := { plain "[B" (some 0) with kind := .array 6 .byte, interfaces := #[4, 5], accessFlags := 1041 }

/-- the primitive int -/
def k8 : Class := { plain "int" none with kind := .primitive 'I', accessFlags := 0x411 }
/-- [I -/
def k9 : Class := { plain "[I" (some 0) with kind := .array 8 .int, interfaces := #[4, 5], accessFlags := 1041 }

def heap : Heap := #[]
def classes : Array Class := #[k0, k1, k2, k3, k4, k5, k6, k7, k8, k9]
def interned : List (Array UInt16 × Addr) := []
def slotsUsed : Nat := 0
def theMethod : MethodId := ⟨1, 1⟩
def args0 : Array Value := #[.int 5, .int 7]
def aboutOver (below : List Frame) : State where
  vm := { classes := classes, interned := interned.toArray }
  heap := heap
  slotsUsed := slotsUsed
  threads := #[{ frames := .invoking theMethod args0 :: below }]
def below0 : List Frame := [.native { method := ⟨0, 0⟩, args := #[] }]
def about1 : State := aboutOver below0
def p0 : Program := .bare "" "" ""
def e0 : Env := launch0.env 0 0 0
theorem w_frames : about1.frames = Frame.invoking theMethod args0 :: below0 := rfl
set_option maxRecDepth 65536 in
theorem w_args : argsFit about1.vm theMethod args0 = true := by decide +kernel
set_option maxRecDepth 65536 in
theorem w_heap : heapFits about1 = true := by decide +kernel
set_option maxRecDepth 65536 in
theorem w_runnable : about1.curStatus? = some .runnable := by decide +kernel
set_option maxRecDepth 65536 in
theorem w_alone : about1.alone = true := by decide +kernel
set_option maxRecDepth 65536 in
theorem w_named : about1.methodNamed? x = some theMethod := by decide +kernel
set_option maxRecDepth 65536 in
theorem w_hears : about1.hears theMethod below0 = true := by decide +kernel
set_option maxRecDepth 65536 in
theorem w_ripe : about1.ripe theMethod args0 below0 = true := by decide +kernel
theorem w_running : about1.status = .running := rfl
set_option maxRecDepth 65536 in
theorem w_room : about1.hasRoom e0.platform room_1 = true :=
  launch0.hasRoom_least _ room_1 (by decide +kernel) (by decide +kernel) (by decide +kernel) (by decide +kernel) (by decide +kernel) (by decide +kernel)
theorem allAtoms_all (ts : List Jvm.Cond) (a : Array Jvm.Value) (st : Jvm.State) : (allAtoms ts).before a st = ts.all (fun c => c.before a st) := by
  induction ts with
  | nil => rfl
  | cons c t ih =>
    show (Jvm.Cond.and c (allAtoms t)).before a st = _
    rw [Jvm.Cond.before_and, ih, List.all_cons]
def words1 : List Jvm.Cond := Jvm.Cond.code x code maxLocals ret :: tables_1
/-- a 'code' word, met by the world's own term for the bytes: nothing is compared byte by byte -/
theorem code_word {y : MethodName} {bytes : ByteArray} {mx : Nat} {rt : Option FieldType} {a : Array Value} {s : State} {m : MethodId} {meth : Method} {c : Code} (h1 : s.methodNamed? y = some m) (h2 : s.vm.method? m = some meth) (h3 : meth.code = some c) (h4 : c.code = bytes)
    (h5 : (c.maxLocals == mx && c.exceptionTable.isEmpty && decide (c.maxStack ≤ mostOperands) && decide (meth.sig.returnType = rt) && !meth.locks && decide (parseMethodDescriptor y.desc = some meth.sig)) = true) : (Jvm.Cond.code y bytes mx rt).before a s = true := by
  simp only [Bool.and_eq_true, beq_iff_eq, Bool.not_eq_true', decide_eq_true_eq] at h5
  obtain ⟨⟨⟨⟨⟨g1, g2⟩, g3⟩, g4⟩, g5⟩, g6⟩ := h5
  simp [Cond.before, Cond.holds, Cond.value, h1, h2, h3, h4, g1, g2, g3, g4, g5, g6]
def isCode : Jvm.Cond → Bool
  | .code _ _ _ _ => true
  | _ => false
theorem all_split {L : List Jvm.Cond} {P : Jvm.Cond → Bool} (h1 : L.all (fun c => isCode c || P c) = true) (h2 : ∀ c ∈ L.filter isCode, P c = true) : L.all P = true := by
  refine List.all_eq_true.mpr fun c hc => ?_
  have h := List.all_eq_true.mp h1 c hc
  rcases Bool.eq_false_or_eq_true (isCode c) with hi | hi
  · exact h2 c (List.mem_filter.mpr ⟨hc, hi⟩)
  · simpa [hi] using h
set_option maxRecDepth 65536 in
theorem w_c0 : (Jvm.Cond.code x code maxLocals ret).before args0 about1 = true := code_word (m := ⟨1, 1⟩) (meth := k1m1) (c := k1c1) (by decide +kernel) rfl rfl rfl (by decide +kernel)
set_option maxRecDepth 65536 in
theorem w_c1 : (Jvm.Cond.code ({ cls := "com/example/murmuration/murmuration/search/IndexedSet", name := "<init>", desc := "(I)V" } : Jvm.MethodName) prog_28_method_1_code (2 : Nat) (Option.none : Option Jvm.ClassFile.FieldType)).before args0 about1 = true := code_word (m := ⟨2, 0⟩) (meth := k2m0) (c := k2c0) (by decide +kernel) rfl rfl rfl (by decide +kernel)
set_option maxRecDepth 65536 in
theorem w_c2 : (Jvm.Cond.code ({ cls := "java/lang/Object", name := "<init>", desc := "()V" } : Jvm.MethodName) object_method_1_code (1 : Nat) (Option.none : Option Jvm.ClassFile.FieldType)).before args0 about1 = true := code_word (m := ⟨0, 0⟩) (meth := k0m0) (c := k0c0) (by decide +kernel) rfl rfl rfl (by decide +kernel)
set_option maxRecDepth 65536 in
theorem w_c3 : (Jvm.Cond.code ({ cls := "java/util/Arrays", name := "fill", desc := "([II)V" } : Jvm.MethodName) jdk_65_method_103_code (4 : Nat) (Option.none : Option Jvm.ClassFile.FieldType)).before args0 about1 = true := code_word (m := ⟨3, 1⟩) (meth := k3m1) (c := k3c1) (by decide +kernel) rfl rfl rfl (by decide +kernel)
set_option maxRecDepth 65536 in
theorem w_c4 : (Jvm.Cond.code ({ cls := "com/example/murmuration/murmuration/search/IndexedSet", name := "clear", desc := "()V" } : Jvm.MethodName) prog_28_method_7_code (2 : Nat) (Option.none : Option Jvm.ClassFile.FieldType)).before args0 about1 = true := code_word (m := ⟨2, 6⟩) (meth := k2m6) (c := k2c6) (by decide +kernel) rfl rfl rfl (by decide +kernel)
set_option maxRecDepth 65536 in
theorem w_c5 : (Jvm.Cond.code ({ cls := "com/example/murmuration/murmuration/search/IndexedSet", name := "size", desc := "()I" } : Jvm.MethodName) prog_28_method_2_code (1 : Nat) (Option.some Jvm.ClassFile.FieldType.int)).before args0 about1 = true := code_word (m := ⟨2, 1⟩) (meth := k2m1) (c := k2c1) (by decide +kernel) rfl rfl rfl (by decide +kernel)
set_option maxRecDepth 65536 in
theorem w_c6 : (Jvm.Cond.code ({ cls := "com/example/murmuration/murmuration/search/IndexedSet", name := "contains", desc := "(I)Z" } : Jvm.MethodName) prog_28_method_3_code (2 : Nat) (Option.some Jvm.ClassFile.FieldType.boolean)).before args0 about1 = true := code_word (m := ⟨2, 2⟩) (meth := k2m2) (c := k2c2) (by decide +kernel) rfl rfl rfl (by decide +kernel)
set_option maxRecDepth 65536 in
theorem w_c7 : (Jvm.Cond.code ({ cls := "com/example/murmuration/murmuration/search/IndexedSet", name := "add", desc := "(I)V" } : Jvm.MethodName) prog_28_method_5_code (2 : Nat) (Option.none : Option Jvm.ClassFile.FieldType)).before args0 about1 = true := code_word (m := ⟨2, 4⟩) (meth := k2m4) (c := k2c4) (by decide +kernel) rfl rfl rfl (by decide +kernel)
set_option maxRecDepth 65536 in
theorem w_c8 : (Jvm.Cond.code ({ cls := "com/example/murmuration/murmuration/search/IndexedSet", name := "get", desc := "(I)I" } : Jvm.MethodName) prog_28_method_4_code (2 : Nat) (Option.some Jvm.ClassFile.FieldType.int)).before args0 about1 = true := code_word (m := ⟨2, 3⟩) (meth := k2m3) (c := k2c3) (by decide +kernel) rfl rfl rfl (by decide +kernel)
set_option maxRecDepth 65536 in
theorem w_c9 : (Jvm.Cond.code ({ cls := "com/example/murmuration/murmuration/search/IndexedSet", name := "remove", desc := "(I)V" } : Jvm.MethodName) prog_28_method_6_code (4 : Nat) (Option.none : Option Jvm.ClassFile.FieldType)).before args0 about1 = true := code_word (m := ⟨2, 5⟩) (meth := k2m5) (c := k2c5) (by decide +kernel) rfl rfl rfl (by decide +kernel)
def codes1 : List Jvm.Cond := [Jvm.Cond.code x code maxLocals ret, Jvm.Cond.code ({ cls := "com/example/murmuration/murmuration/search/IndexedSet", name := "<init>", desc := "(I)V" } : Jvm.MethodName) prog_28_method_1_code (2 : Nat) (Option.none : Option Jvm.ClassFile.FieldType), Jvm.Cond.code ({ cls := "java/lang/Object", name := "<init>", desc := "()V" } : Jvm.MethodName) object_method_1_code (1 : Nat) (Option.none : Option Jvm.ClassFile.FieldType), Jvm.Cond.code ({ cls := "java/util/Arrays", name := "fill", desc := "([II)V" } : Jvm.MethodName) jdk_65_method_103_code (4 : Nat) (Option.none : Option Jvm.ClassFile.FieldType), Jvm.Cond.code ({ cls := "com/example/murmuration/murmuration/search/IndexedSet", name := "clear", desc := "()V" } : Jvm.MethodName) prog_28_method_7_code (2 : Nat) (Option.none : Option Jvm.ClassFile.FieldType), Jvm.Cond.code ({ cls := "com/example/murmuration/murmuration/search/IndexedSet", name := "size", desc := "()I" } : Jvm.MethodName) prog_28_method_2_code (1 : Nat) (Option.some Jvm.ClassFile.FieldType.int), Jvm.Cond.code ({ cls := "com/example/murmuration/murmuration/search/IndexedSet", name := "contains", desc := "(I)Z" } : Jvm.MethodName) prog_28_method_3_code (2 : Nat) (Option.some Jvm.ClassFile.FieldType.boolean), Jvm.Cond.code ({ cls := "com/example/murmuration/murmuration/search/IndexedSet", name := "add", desc := "(I)V" } : Jvm.MethodName) prog_28_method_5_code (2 : Nat) (Option.none : Option Jvm.ClassFile.FieldType), Jvm.Cond.code ({ cls := "com/example/murmuration/murmuration/search/IndexedSet", name := "get", desc := "(I)I" } : Jvm.MethodName) prog_28_method_4_code (2 : Nat) (Option.some Jvm.ClassFile.FieldType.int), Jvm.Cond.code ({ cls := "com/example/murmuration/murmuration/search/IndexedSet", name := "remove", desc := "(I)V" } : Jvm.MethodName) prog_28_method_6_code (4 : Nat) (Option.none : Option Jvm.ClassFile.FieldType)]
set_option maxRecDepth 65536 in
theorem codes_eq : words1.filter isCode = codes1 := rfl
theorem w_codes : ∀ c ∈ words1.filter isCode, c.before args0 about1 = true := by
  rw [codes_eq]
  intro c hc
  simp only [codes1, List.mem_cons, List.not_mem_nil, or_false] at hc
  rcases hc with rfl | rfl | rfl | rfl | rfl | rfl | rfl | rfl | rfl | rfl
  · exact w_c0
  · exact w_c1
  · exact w_c2
  · exact w_c3
  · exact w_c4
  · exact w_c5
  · exact w_c6
  · exact w_c7
  · exact w_c8
  · exact w_c9
set_option maxRecDepth 65536 in
theorem w_t1 : (words1.take 24).all (fun c => isCode c || c.before args0 about1) = true := by decide +kernel
set_option maxRecDepth 65536 in
theorem w_t2 : ((words1.drop 24).take 24).all (fun c => isCode c || c.before args0 about1) = true := by decide +kernel
set_option maxRecDepth 65536 in
theorem w_t3 : ((words1.drop 24).drop 24).all (fun c => isCode c || c.before args0 about1) = true := by decide +kernel
theorem w_tables : (allAtoms (Jvm.Cond.code x code maxLocals ret :: tables_1)).before args0 about1 = true := by
  rw [allAtoms_all]
  show words1.all (fun c => c.before args0 about1) = true
  refine all_split ?_ w_codes
  rw [← List.take_append_drop 24 words1, List.all_append, w_t1, ← List.take_append_drop 24 (words1.drop 24), List.all_append, w_t2, w_t3]
  rfl
set_option maxRecDepth 65536 in
theorem w_case : (Jvm.Cond.and given_1 narrow_1).before args0 about1 = true := by decide +kernel
theorem w_applies : (headSpec (Jvm.Cond.code x code maxLocals ret :: tables_1) room_1).applies x e0.platform about1 = true :=
  (Spec.applies_iff w_frames).mpr ⟨w_running, w_runnable, w_alone, w_named, w_hears, w_ripe, w_room, w_tables⟩
theorem atStart : AtStart classFile x code maxLocals ret World_1 tables_1 room_1 Calls_1 rest_1 Pre_1 launch0 p0 e0 about1 theMethod args0 below0 :=
  ⟨lists_1, trivial, launch0.admits_env _ _ _, launch0.least_env, fairChoices_fair.cas, fairChoices_fair.clock, w_frames, w_args, w_heap, w_applies, trivial, trivial, w_case⟩
end start1
theorem witness_1 : WitnessClaimed_1 := ⟨start1.p0, start1.e0, start1.about1, start1.theMethod, start1.args0, start1.below0, start1.atStart⟩
end Jvm.Pilot.@@N@@
