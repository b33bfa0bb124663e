import JvmDerived
import JvmDerived.Pilot.@@N@@Statement
import JvmDerived.Pilot.@@N@@Code
set_option linter.unusedVariables false
set_option linter.unusedSimpArgs false
namespace Jvm.Pilot.@@N@@
open Jvm Jvm.ClassFile Sem Op Lib Jvm.Free Jvm.Stand Jvm.LawKit Jvm.RoadKit Bundle Jvm.Pilot.@@N@@.Jvm.D
section Own
variable {p : Program} {l : Launch} {e : Env} {R : Room} {s : State} {m : MethodId} {args : Array Value} {below : List Frame} {meth : Method} {c : Code} {Z : State} {a0 : Array Value} {n0 : Nat} {Q : Option Value → Heap → Prop} {Kf : State → Outcome → Prop} {h : Heap} {k q : Nat} {own nm : String} {bytes : ByteArray} {maxL : Nat} {ret : Option FieldType} {pc pc' pc1 pc2 : Nat} {Ls Ls' : Array Slot} {rest : List Value}
/-- how a run of the body ends: it returns, nothing old is written, and Q holds of what is returned and of the heap -/
def own_K (below : List Frame) (R : Room) (s : State) (n0 : Nat) (Q : Option Value → Heap → Prop) (t : State) (o : Outcome) : Prop :=
  t.status = .running ∧ Ended t below o ∧ ∃ v L, o = .returned v ∧ (Fr n0 L ∧ Q v t.heap) ∧ FrameEnd s o t L R.cells R.slots
/-- from the frame g, with the heap h, k cells and q slots made so far: the run ends as own_K says -/
def own_Run (p : Program) (l : Launch) (e : Env) (R : Room) (s : State) (m : MethodId) (args : Array Value) (below : List Frame) (meth : Method) (c : Code) (n0 : Nat) (Kf : State → Outcome → Prop) (h : Heap) (k q : Nat) (g : JFrame) : Prop :=
  ∀ (T : State) (locs : List Loc), Stand p l e R s m args below meth c T locs k q → T.heap = h → Fr n0 locs → ∃ t o, Steps p.tables e below (T.setTop g) t ∧ Kf t o
/-- what stands fast through a body -/
def own_Ctx (p : Program) (s : State) (m : MethodId) (meth : Method) (c : Code) (Z : State) (own nm : String) (bytes : ByteArray) (maxL : Nat) (ret : Option FieldType) : Prop :=
  p.tables.exec = Jvm.exec ∧ Z.Warmed39 s.vm ∧ s.vm.findClass own = some m.cls ∧ c.code = bytes ∧ c.maxLocals = maxL ∧ meth.sig.returnType = ret ∧ meth.locks = false ∧ meth.name = nm
theorem own_Ctx.g_x (C : own_Ctx p s m meth c Z own nm bytes maxL ret) : p.tables.exec = Jvm.exec := C.1
theorem own_Ctx.g_z (C : own_Ctx p s m meth c Z own nm bytes maxL ret) : Z.Warmed39 s.vm := C.2.1
theorem own_Ctx.g_own (C : own_Ctx p s m meth c Z own nm bytes maxL ret) : s.vm.findClass own = some m.cls := C.2.2.1
theorem own_Ctx.g_by (C : own_Ctx p s m meth c Z own nm bytes maxL ret) : c.code = bytes := C.2.2.2.1
theorem own_Ctx.g_ml (C : own_Ctx p s m meth c Z own nm bytes maxL ret) : c.maxLocals = maxL := C.2.2.2.2.1
theorem own_Ctx.g_rt (C : own_Ctx p s m meth c Z own nm bytes maxL ret) : meth.sig.returnType = ret := C.2.2.2.2.2.1
theorem own_Ctx.g_lk (C : own_Ctx p s m meth c Z own nm bytes maxL ret) : meth.locks = false := C.2.2.2.2.2.2.1
theorem own_Ctx.g_nm (C : own_Ctx p s m meth c Z own nm bytes maxL ret) : meth.name = nm := C.2.2.2.2.2.2.2
/-- a method's contract: called with these arguments at the heap h, it returns as Q says -/
def own_Met (l : Launch) (Z : State) (n0 : Nat) (y : MethodName) (bytes : ByteArray) (maxL : Nat) (ret : Option FieldType) (rm : Room) (ws : List Jvm.Cond) (as' : Array Value) (h : Heap) (Q : Option Value → Heap → Prop) : Prop :=
  MetFree l y (head1 (Jvm.Cond.code y bytes maxL ret :: ws) rm) (fun a U => a = as' ∧ Z.Warmed39 U.vm ∧ U.heap = h) (fun _ _ _ _ _ => True) (fun _ U o U' => ∃ v L, o = .returned v ∧ (Fr n0 L ∧ Q v U'.heap) ∧ FrameEnd U o U' L rm.cells rm.slots)
theorem own_met {y : MethodName} {rm : Room} {ws : List Jvm.Cond} {as' : Array Value} (hn : plainName y.cls = true) (Ls : Array Slot) (hef : ∀ m : MethodId, entryFrame m as' maxL = mkF m 0 Ls [])
    (body : ∀ (p : Program) (e : Env) (s : State) (m : MethodId) (below : List Frame) (meth : Method) (c : Code), own_Ctx p s m meth c Z y.cls y.name bytes maxL ret → own_Run p l e rm s m as' below meth c n0 (own_K below rm s n0 Q) h 0 0 (mkF m 0 Ls [])) :
    own_Met l Z n0 y bytes maxL ret rm ws as' h Q := by
  refine MetFree.of_bodySF (plainFor_of_name hn) hisR ?_
  intro p e s m args below meth c s₁ Bd hml0 hP hK
  obtain ⟨rfl, hZ, hh⟩ := hP
  have C : own_Ctx p s m meth c Z y.cls y.name bytes maxL ret := ⟨Bd.exec, hZ, findClass_of_methodNamed Bd.named, Bd.bytes, hml0, Bd.returns, BodyLoose.notSynchronized Bd, (name_of_methodNamed Bd.named Bd.method).1⟩
  obtain ⟨t, o, h1, h2, h3, h4⟩ := body p e s m below meth c C s₁ [] (Stand.of_body Bd) (by rw [← hh, Bd.state]; rfl) (Fr.nil n0)
  exact ⟨t, o, castTop (hef m) h1, h2, h3, h4⟩
theorem own_st {g g' : JFrame} (h1 : ∀ (T : State) (locs : List Loc), Stand p l e R s m args below meth c T locs k q → T.heap = h → ∀ target, Steps p.tables e below (T.setTop g') target → Steps p.tables e below (T.setTop g) target) (r : own_Run p l e R s m args below meth c n0 Kf h k q g') : own_Run p l e R s m args below meth c n0 Kf h k q g := fun T locs X eT N => by
  obtain ⟨t, o, h2, h3⟩ := r T locs X eT N
  exact ⟨t, o, h1 T locs X eT t h2, h3⟩
theorem own_more {k' q' : Nat} {g : JFrame} (hk : k ≤ k') (hq : q ≤ q') (r : own_Run p l e R s m args below meth c n0 Kf h k' q' g) : own_Run p l e R s m args below meth c n0 Kf h k q g := fun T locs X eT N => r T locs (X.more hk hq) eT N
theorem own_iloadN (C : own_Ctx p s m meth c Z own nm bytes maxL ret) {i : Fin 4} {v : Int32} (hd : decode bytes pc = .ok (.iload_n i, 1)) (hp : pc + 1 = pc') (hl : Ls[i.val]? = some (.val (.int v))) (r : own_Run p l e R s m args below meth c n0 Kf h k q (mkF m pc' Ls (.int v :: rest))) : own_Run p l e R s m args below meth c n0 Kf h k q (mkF m pc Ls (rest)) :=
  own_st (fun T locs X eT t kk => by subst hp; exact Jvm.Free.XS.iloadN X.here C.g_x rfl (hb C.g_by hd) hl kk) r
theorem own_iload (C : own_Ctx p s m meth c Z own nm bytes maxL ret) {i : Nat} {v : Int32} (hd : decode bytes pc = .ok (.iload i, 2)) (hp : pc + 2 = pc') (hl : Ls[i]? = some (.val (.int v))) (r : own_Run p l e R s m args below meth c n0 Kf h k q (mkF m pc' Ls (.int v :: rest))) : own_Run p l e R s m args below meth c n0 Kf h k q (mkF m pc Ls (rest)) :=
  own_st (fun T locs X eT t kk => by subst hp; exact Jvm.Free.XS.iload X.here C.g_x rfl (hb C.g_by hd) hl kk) r
theorem own_lloadN (C : own_Ctx p s m meth c Z own nm bytes maxL ret) {i : Fin 4} {v : Int64} (hd : decode bytes pc = .ok (.lload_n i, 1)) (hp : pc + 1 = pc') (hl : Ls[i.val]? = some (.val (.long v))) (r : own_Run p l e R s m args below meth c n0 Kf h k q (mkF m pc' Ls (.long v :: rest))) : own_Run p l e R s m args below meth c n0 Kf h k q (mkF m pc Ls (rest)) :=
  own_st (fun T locs X eT t kk => by subst hp; exact Jvm.Free.XT.lloadN X.here C.g_x rfl (hb C.g_by hd) hl kk) r
theorem own_lload (C : own_Ctx p s m meth c Z own nm bytes maxL ret) {i : Nat} {v : Int64} (hd : decode bytes pc = .ok (.lload i, 2)) (hp : pc + 2 = pc') (hl : Ls[i]? = some (.val (.long v))) (r : own_Run p l e R s m args below meth c n0 Kf h k q (mkF m pc' Ls (.long v :: rest))) : own_Run p l e R s m args below meth c n0 Kf h k q (mkF m pc Ls (rest)) :=
  own_st (fun T locs X eT t kk => by subst hp; exact Jvm.Free.XT.lload X.here C.g_x rfl (hb C.g_by hd) hl kk) r
theorem own_aloadN (C : own_Ctx p s m meth c Z own nm bytes maxL ret) {i : Fin 4} {v : Value} (hd : decode bytes pc = .ok (.aload_n i, 1)) (hp : pc + 1 = pc') (hl : Ls[i.val]? = some (.val v)) (hv : v.isRef = true) (r : own_Run p l e R s m args below meth c n0 Kf h k q (mkF m pc' Ls (v :: rest))) : own_Run p l e R s m args below meth c n0 Kf h k q (mkF m pc Ls (rest)) :=
  own_st (fun T locs X eT t kk => by subst hp; exact Jvm.Free.XS.aloadN X.here C.g_x rfl (hb C.g_by hd) hl hv kk) r
theorem own_aload (C : own_Ctx p s m meth c Z own nm bytes maxL ret) {i : Nat} {v : Value} (hd : decode bytes pc = .ok (.aload i, 2)) (hp : pc + 2 = pc') (hl : Ls[i]? = some (.val v)) (hv : v.isRef = true) (r : own_Run p l e R s m args below meth c n0 Kf h k q (mkF m pc' Ls (v :: rest))) : own_Run p l e R s m args below meth c n0 Kf h k q (mkF m pc Ls (rest)) :=
  own_st (fun T locs X eT t kk => by subst hp; exact Jvm.Free.XS.aload X.here C.g_x rfl (hb C.g_by hd) hl hv kk) r
theorem own_istoreN (C : own_Ctx p s m meth c Z own nm bytes maxL ret) {i : Fin 4} {v : Int32} (hd : decode bytes pc = .ok (.istore_n i, 1)) (hp : pc + 1 = pc') (hl : storeLocals Ls i.val (.int v) = some Ls') (r : own_Run p l e R s m args below meth c n0 Kf h k q (mkF m pc' Ls' (rest))) : own_Run p l e R s m args below meth c n0 Kf h k q (mkF m pc Ls (.int v :: rest)) :=
  own_st (fun T locs X eT t kk => by subst hp; exact Jvm.Free.XS.istoreN X.here C.g_x rfl (hb C.g_by hd) rfl hl kk) r
theorem own_istore (C : own_Ctx p s m meth c Z own nm bytes maxL ret) {i : Nat} {v : Int32} (hd : decode bytes pc = .ok (.istore i, 2)) (hp : pc + 2 = pc') (hl : storeLocals Ls i (.int v) = some Ls') (r : own_Run p l e R s m args below meth c n0 Kf h k q (mkF m pc' Ls' (rest))) : own_Run p l e R s m args below meth c n0 Kf h k q (mkF m pc Ls (.int v :: rest)) :=
  own_st (fun T locs X eT t kk => by subst hp; exact Jvm.Free.XS.istore X.here C.g_x rfl (hb C.g_by hd) rfl hl kk) r
theorem own_lstoreN (C : own_Ctx p s m meth c Z own nm bytes maxL ret) {i : Fin 4} {v : Int64} (hd : decode bytes pc = .ok (.lstore_n i, 1)) (hp : pc + 1 = pc') (hl : storeLocals Ls i.val (.long v) = some Ls') (r : own_Run p l e R s m args below meth c n0 Kf h k q (mkF m pc' Ls' (rest))) : own_Run p l e R s m args below meth c n0 Kf h k q (mkF m pc Ls (.long v :: rest)) :=
  own_st (fun T locs X eT t kk => by subst hp; exact Jvm.Free.XT.lstoreN X.here C.g_x rfl (hb C.g_by hd) rfl hl kk) r
theorem own_lstore (C : own_Ctx p s m meth c Z own nm bytes maxL ret) {i : Nat} {v : Int64} (hd : decode bytes pc = .ok (.lstore i, 2)) (hp : pc + 2 = pc') (hl : storeLocals Ls i (.long v) = some Ls') (r : own_Run p l e R s m args below meth c n0 Kf h k q (mkF m pc' Ls' (rest))) : own_Run p l e R s m args below meth c n0 Kf h k q (mkF m pc Ls (.long v :: rest)) :=
  own_st (fun T locs X eT t kk => by subst hp; exact Jvm.Free.XT.lstore X.here C.g_x rfl (hb C.g_by hd) rfl hl kk) r
theorem own_astoreN (C : own_Ctx p s m meth c Z own nm bytes maxL ret) {i : Fin 4} {v : Value} (hd : decode bytes pc = .ok (.astore_n i, 1)) (hp : pc + 1 = pc') (hv : v.isRef = true) (hl : storeLocals Ls i.val v = some Ls') (r : own_Run p l e R s m args below meth c n0 Kf h k q (mkF m pc' Ls' (rest))) : own_Run p l e R s m args below meth c n0 Kf h k q (mkF m pc Ls (v :: rest)) :=
  own_st (fun T locs X eT t kk => by subst hp; exact Jvm.Free.XS.astoreN X.here C.g_x rfl (hb C.g_by hd) rfl hv hl kk) r
theorem own_astore (C : own_Ctx p s m meth c Z own nm bytes maxL ret) {i : Nat} {v : Value} (hd : decode bytes pc = .ok (.astore i, 2)) (hp : pc + 2 = pc') (hv : v.isRef = true) (hl : storeLocals Ls i v = some Ls') (r : own_Run p l e R s m args below meth c n0 Kf h k q (mkF m pc' Ls' (rest))) : own_Run p l e R s m args below meth c n0 Kf h k q (mkF m pc Ls (v :: rest)) :=
  own_st (fun T locs X eT t kk => by subst hp; exact Jvm.Free.XS.astore X.here C.g_x rfl (hb C.g_by hd) rfl hv hl kk) r
theorem own_iinc (C : own_Ctx p s m meth c Z own nm bytes maxL ret) {i : Nat} {cst : Int} {v w : Int32} (hd : decode bytes pc = .ok (.iinc i cst, 3)) (hp : pc + 3 = pc') (hv : Int32.ofInt cst = w) (hl : Ls[i]? = some (.val (.int v))) (hl' : storeLocals Ls i (.int (v + w)) = some Ls') (r : own_Run p l e R s m args below meth c n0 Kf h k q (mkF m pc' Ls' (rest))) : own_Run p l e R s m args below meth c n0 Kf h k q (mkF m pc Ls (rest)) :=
  own_st (fun T locs X eT t kk => by subst hp; exact Jvm.Free.XT.iincV X.here C.g_x rfl w (hb C.g_by hd) hv hl hl' kk) r
theorem own_iincV (C : own_Ctx p s m meth c Z own nm bytes maxL ret) {i : Nat} {cst : Int} {v w x : Int32} (hd : decode bytes pc = .ok (.iinc i cst, 3)) (hp : pc + 3 = pc') (hv : Int32.ofInt cst = w) (hs : v + w = x) (hl : Ls[i]? = some (.val (.int v))) (hl' : storeLocals Ls i (.int x) = some Ls') (r : own_Run p l e R s m args below meth c n0 Kf h k q (mkF m pc' Ls' (rest))) : own_Run p l e R s m args below meth c n0 Kf h k q (mkF m pc Ls (rest)) :=
  own_st (fun T locs X eT t kk => by subst hp; exact Jvm.Free.XT.iincV X.here C.g_x rfl w (hb C.g_by hd) hv hl (by rw [hs]; exact hl') kk) r
theorem own_iconst (C : own_Ctx p s m meth c Z own nm bytes maxL ret) {i : Int} {v : Int32} (hd : decode bytes pc = .ok (.iconst i, 1)) (hp : pc + 1 = pc') (hv : Int32.ofInt i = v) (r : own_Run p l e R s m args below meth c n0 Kf h k q (mkF m pc' Ls (.int v :: rest))) : own_Run p l e R s m args below meth c n0 Kf h k q (mkF m pc Ls (rest)) :=
  own_st (fun T locs X eT t kk => by subst hp; exact Jvm.Free.XT.iconstV X.here C.g_x rfl v (hb C.g_by hd) hv kk) r
theorem own_bipush (C : own_Ctx p s m meth c Z own nm bytes maxL ret) {i : Int} {v : Int32} (hd : decode bytes pc = .ok (.bipush i, 2)) (hp : pc + 2 = pc') (hv : (Int8.ofInt i).toInt32 = v) (r : own_Run p l e R s m args below meth c n0 Kf h k q (mkF m pc' Ls (.int v :: rest))) : own_Run p l e R s m args below meth c n0 Kf h k q (mkF m pc Ls (rest)) :=
  own_st (fun T locs X eT t kk => by subst hp; exact Jvm.Free.XT.bipushV X.here C.g_x rfl v (hb C.g_by hd) hv kk) r
theorem own_sipush (C : own_Ctx p s m meth c Z own nm bytes maxL ret) {i : Int} {v : Int32} (hd : decode bytes pc = .ok (.sipush i, 3)) (hp : pc + 3 = pc') (hv : (Int16.ofInt i).toInt32 = v) (r : own_Run p l e R s m args below meth c n0 Kf h k q (mkF m pc' Ls (.int v :: rest))) : own_Run p l e R s m args below meth c n0 Kf h k q (mkF m pc Ls (rest)) :=
  own_st (fun T locs X eT t kk => by subst hp; exact Jvm.Free.XT.sipushV X.here C.g_x rfl v (hb C.g_by hd) hv kk) r
theorem own_lconst (C : own_Ctx p s m meth c Z own nm bytes maxL ret) {i : Fin 2} {v : Int64} (hd : decode bytes pc = .ok (.lconst i, 1)) (hp : pc + 1 = pc') (hv : Int64.ofNat i = v) (r : own_Run p l e R s m args below meth c n0 Kf h k q (mkF m pc' Ls (.long v :: rest))) : own_Run p l e R s m args below meth c n0 Kf h k q (mkF m pc Ls (rest)) :=
  own_st (fun T locs X eT t kk => by subst hp; exact Jvm.Free.XT.lconstV X.here C.g_x rfl v (hb C.g_by hd) hv kk) r
theorem own_aconst (C : own_Ctx p s m meth c Z own nm bytes maxL ret)  (hd : decode bytes pc = .ok (.aconst_null, 1)) (hp : pc + 1 = pc')  (r : own_Run p l e R s m args below meth c n0 Kf h k q (mkF m pc' Ls (.null :: rest))) : own_Run p l e R s m args below meth c n0 Kf h k q (mkF m pc Ls (rest)) :=
  own_st (fun T locs X eT t kk => by subst hp; exact Jvm.Free.XS.aconstNull X.here C.g_x rfl (hb C.g_by hd) kk) r
theorem own_ldc (C : own_Ctx p s m meth c Z own nm bytes maxL ret) {i : Nat} {v : Int32} (hd : decode bytes pc = .ok (.ldc i, 2)) (hp : pc + 2 = pc') (hc : (Jvm.Cond.constant own i v).before a0 Z = true) (r : own_Run p l e R s m args below meth c n0 Kf h k q (mkF m pc' Ls (.int v :: rest))) : own_Run p l e R s m args below meth c n0 Kf h k q (mkF m pc Ls (rest)) :=
  own_st (fun T locs X eT t kk => by subst hp; exact X.ldcI C.g_x C.g_own (mvT C.g_z hc) rfl (hb C.g_by hd) kk) r
theorem own_ldc2 (C : own_Ctx p s m meth c Z own nm bytes maxL ret) {i : Nat} {v : Int64} (hd : decode bytes pc = .ok (.ldc2_w i, 3)) (hp : pc + 3 = pc') (hc : (Jvm.Cond.constantLong own i v).before a0 Z = true) (r : own_Run p l e R s m args below meth c n0 Kf h k q (mkF m pc' Ls (.long v :: rest))) : own_Run p l e R s m args below meth c n0 Kf h k q (mkF m pc Ls (rest)) :=
  own_st (fun T locs X eT t kk => by subst hp; exact X.ldc2J C.g_x C.g_own (mvT C.g_z hc) rfl (hb C.g_by hd) kk) r
theorem own_dup (C : own_Ctx p s m meth c Z own nm bytes maxL ret) {v : Value} (hd : decode bytes pc = .ok (.dup, 1)) (hp : pc + 1 = pc') (hc : v.category = 1) (r : own_Run p l e R s m args below meth c n0 Kf h k q (mkF m pc' Ls (v :: v :: rest))) : own_Run p l e R s m args below meth c n0 Kf h k q (mkF m pc Ls (v :: rest)) :=
  own_st (fun T locs X eT t kk => by subst hp; exact Jvm.Free.XS.dup X.here C.g_x rfl (hb C.g_by hd) rfl hc kk) r
theorem own_pop (C : own_Ctx p s m meth c Z own nm bytes maxL ret) {v : Value} (hd : decode bytes pc = .ok (.pop, 1)) (hp : pc + 1 = pc') (hc : v.category = 1) (r : own_Run p l e R s m args below meth c n0 Kf h k q (mkF m pc' Ls (rest))) : own_Run p l e R s m args below meth c n0 Kf h k q (mkF m pc Ls (v :: rest)) :=
  own_st (fun T locs X eT t kk => by subst hp; exact Jvm.Free.XT.pop X.here C.g_x rfl (hb C.g_by hd) rfl hc kk) r
theorem own_dupX1 (C : own_Ctx p s m meth c Z own nm bytes maxL ret) {v w : Value} (hd : decode bytes pc = .ok (.dup_x1, 1)) (hp : pc + 1 = pc') (hc : v.category = 1) (hc' : w.category = 1) (r : own_Run p l e R s m args below meth c n0 Kf h k q (mkF m pc' Ls (v :: w :: v :: rest))) : own_Run p l e R s m args below meth c n0 Kf h k q (mkF m pc Ls (v :: w :: rest)) :=
  own_st (fun T locs X eT t kk => by subst hp; exact Jvm.Free.XT.dupX1 X.here C.g_x rfl (hb C.g_by hd) rfl hc hc' kk) r
theorem own_dup2 (C : own_Ctx p s m meth c Z own nm bytes maxL ret) {v w : Value} (hd : decode bytes pc = .ok (.dup2, 1)) (hp : pc + 1 = pc') (hc : v.category = 1) (hc' : w.category = 1) (r : own_Run p l e R s m args below meth c n0 Kf h k q (mkF m pc' Ls (v :: w :: v :: w :: rest))) : own_Run p l e R s m args below meth c n0 Kf h k q (mkF m pc Ls (v :: w :: rest)) :=
  own_st (fun T locs X eT t kk => by subst hp; exact Jvm.Free.XT.dup2 X.here C.g_x rfl (hb C.g_by hd) rfl hc hc' kk) r
theorem own_iadd (C : own_Ctx p s m meth c Z own nm bytes maxL ret) {x y : Int32} (hd : decode bytes pc = .ok (.iadd, 1)) (hp : pc + 1 = pc')  (r : own_Run p l e R s m args below meth c n0 Kf h k q (mkF m pc' Ls (.int (x + y) :: rest))) : own_Run p l e R s m args below meth c n0 Kf h k q (mkF m pc Ls (.int y :: .int x :: rest)) :=
  own_st (fun T locs X eT t kk => by subst hp; exact Jvm.Free.XS.iadd X.here C.g_x rfl (hb C.g_by hd) rfl kk) r
theorem own_isub (C : own_Ctx p s m meth c Z own nm bytes maxL ret) {x y : Int32} (hd : decode bytes pc = .ok (.isub, 1)) (hp : pc + 1 = pc')  (r : own_Run p l e R s m args below meth c n0 Kf h k q (mkF m pc' Ls (.int (x - y) :: rest))) : own_Run p l e R s m args below meth c n0 Kf h k q (mkF m pc Ls (.int y :: .int x :: rest)) :=
  own_st (fun T locs X eT t kk => by subst hp; exact Jvm.Free.XS.isub X.here C.g_x rfl (hb C.g_by hd) rfl kk) r
theorem own_iand (C : own_Ctx p s m meth c Z own nm bytes maxL ret) {x y : Int32} (hd : decode bytes pc = .ok (.iand, 1)) (hp : pc + 1 = pc')  (r : own_Run p l e R s m args below meth c n0 Kf h k q (mkF m pc' Ls (.int (x &&& y) :: rest))) : own_Run p l e R s m args below meth c n0 Kf h k q (mkF m pc Ls (.int y :: .int x :: rest)) :=
  own_st (fun T locs X eT t kk => by subst hp; exact Jvm.Free.XS.iand X.here C.g_x rfl (hb C.g_by hd) rfl kk) r
theorem own_imul (C : own_Ctx p s m meth c Z own nm bytes maxL ret) {x y : Int32} (hd : decode bytes pc = .ok (.imul, 1)) (hp : pc + 1 = pc')  (r : own_Run p l e R s m args below meth c n0 Kf h k q (mkF m pc' Ls (.int (x * y) :: rest))) : own_Run p l e R s m args below meth c n0 Kf h k q (mkF m pc Ls (.int y :: .int x :: rest)) :=
  own_st (fun T locs X eT t kk => by subst hp; exact Jvm.Free.XS.imul X.here C.g_x rfl (hb C.g_by hd) rfl kk) r
theorem own_ior (C : own_Ctx p s m meth c Z own nm bytes maxL ret) {x y : Int32} (hd : decode bytes pc = .ok (.ior, 1)) (hp : pc + 1 = pc')  (r : own_Run p l e R s m args below meth c n0 Kf h k q (mkF m pc' Ls (.int (x ||| y) :: rest))) : own_Run p l e R s m args below meth c n0 Kf h k q (mkF m pc Ls (.int y :: .int x :: rest)) :=
  own_st (fun T locs X eT t kk => by subst hp; exact Jvm.Free.XT.ior X.here C.g_x rfl (hb C.g_by hd) rfl kk) r
theorem own_ixor (C : own_Ctx p s m meth c Z own nm bytes maxL ret) {x y : Int32} (hd : decode bytes pc = .ok (.ixor, 1)) (hp : pc + 1 = pc')  (r : own_Run p l e R s m args below meth c n0 Kf h k q (mkF m pc' Ls (.int (x ^^^ y) :: rest))) : own_Run p l e R s m args below meth c n0 Kf h k q (mkF m pc Ls (.int y :: .int x :: rest)) :=
  own_st (fun T locs X eT t kk => by subst hp; exact Jvm.Free.XT.ixor X.here C.g_x rfl (hb C.g_by hd) rfl kk) r
theorem own_ishl (C : own_Ctx p s m meth c Z own nm bytes maxL ret) {x y : Int32} (hd : decode bytes pc = .ok (.ishl, 1)) (hp : pc + 1 = pc')  (r : own_Run p l e R s m args below meth c n0 Kf h k q (mkF m pc' Ls (.int (x <<< (y &&& 31)) :: rest))) : own_Run p l e R s m args below meth c n0 Kf h k q (mkF m pc Ls (.int y :: .int x :: rest)) :=
  own_st (fun T locs X eT t kk => by subst hp; exact Jvm.Free.XT.ishl X.here C.g_x rfl (hb C.g_by hd) rfl kk) r
theorem own_ishr (C : own_Ctx p s m meth c Z own nm bytes maxL ret) {x y : Int32} (hd : decode bytes pc = .ok (.ishr, 1)) (hp : pc + 1 = pc')  (r : own_Run p l e R s m args below meth c n0 Kf h k q (mkF m pc' Ls (.int (x >>> (y &&& 31)) :: rest))) : own_Run p l e R s m args below meth c n0 Kf h k q (mkF m pc Ls (.int y :: .int x :: rest)) :=
  own_st (fun T locs X eT t kk => by subst hp; exact Jvm.Free.XT.ishr X.here C.g_x rfl (hb C.g_by hd) rfl kk) r
theorem own_iushr (C : own_Ctx p s m meth c Z own nm bytes maxL ret) {x y : Int32} (hd : decode bytes pc = .ok (.iushr, 1)) (hp : pc + 1 = pc')  (r : own_Run p l e R s m args below meth c n0 Kf h k q (mkF m pc' Ls (.int (Jvm.Free.XT.ushr x y) :: rest))) : own_Run p l e R s m args below meth c n0 Kf h k q (mkF m pc Ls (.int y :: .int x :: rest)) :=
  own_st (fun T locs X eT t kk => by subst hp; exact Jvm.Free.XT.iushr X.here C.g_x rfl (hb C.g_by hd) rfl kk) r
theorem own_irem (C : own_Ctx p s m meth c Z own nm bytes maxL ret) {x y : Int32} (hd : decode bytes pc = .ok (.irem, 1)) (hp : pc + 1 = pc') (hy : y ≠ 0) (r : own_Run p l e R s m args below meth c n0 Kf h k q (mkF m pc' Ls (.int (x % y) :: rest))) : own_Run p l e R s m args below meth c n0 Kf h k q (mkF m pc Ls (.int y :: .int x :: rest)) :=
  own_st (fun T locs X eT t kk => by subst hp; exact iremM X C.g_x rfl (hb C.g_by hd) rfl hy kk) r
theorem own_idivV (C : own_Ctx p s m meth c Z own nm bytes maxL ret) {x y v : Int32} (hd : decode bytes pc = .ok (.idiv, 1)) (hp : pc + 1 = pc') (hy : y ≠ 0) (hv : x / y = v) (r : own_Run p l e R s m args below meth c n0 Kf h k q (mkF m pc' Ls (.int v :: rest))) : own_Run p l e R s m args below meth c n0 Kf h k q (mkF m pc Ls (.int y :: .int x :: rest)) :=
  own_st (fun T locs X eT t kk => by subst hp; exact Jvm.Free.XS.idiv X.here C.g_x rfl (hb C.g_by hd) rfl hy (by rw [hv]; exact kk)) r
theorem own_ineg (C : own_Ctx p s m meth c Z own nm bytes maxL ret) {x : Int32} (hd : decode bytes pc = .ok (.ineg, 1)) (hp : pc + 1 = pc')  (r : own_Run p l e R s m args below meth c n0 Kf h k q (mkF m pc' Ls (.int (-x) :: rest))) : own_Run p l e R s m args below meth c n0 Kf h k q (mkF m pc Ls (.int x :: rest)) :=
  own_st (fun T locs X eT t kk => by subst hp; exact Jvm.Free.XS.ineg X.here C.g_x rfl (hb C.g_by hd) rfl kk) r
theorem own_ladd (C : own_Ctx p s m meth c Z own nm bytes maxL ret) {x y : Int64} (hd : decode bytes pc = .ok (.ladd, 1)) (hp : pc + 1 = pc')  (r : own_Run p l e R s m args below meth c n0 Kf h k q (mkF m pc' Ls (.long (x + y) :: rest))) : own_Run p l e R s m args below meth c n0 Kf h k q (mkF m pc Ls (.long y :: .long x :: rest)) :=
  own_st (fun T locs X eT t kk => by subst hp; exact Jvm.Free.XT.ladd X.here C.g_x rfl (hb C.g_by hd) rfl kk) r
theorem own_lsub (C : own_Ctx p s m meth c Z own nm bytes maxL ret) {x y : Int64} (hd : decode bytes pc = .ok (.lsub, 1)) (hp : pc + 1 = pc')  (r : own_Run p l e R s m args below meth c n0 Kf h k q (mkF m pc' Ls (.long (x - y) :: rest))) : own_Run p l e R s m args below meth c n0 Kf h k q (mkF m pc Ls (.long y :: .long x :: rest)) :=
  own_st (fun T locs X eT t kk => by subst hp; exact Jvm.Free.XT.lsub X.here C.g_x rfl (hb C.g_by hd) rfl kk) r
theorem own_land (C : own_Ctx p s m meth c Z own nm bytes maxL ret) {x y : Int64} (hd : decode bytes pc = .ok (.land, 1)) (hp : pc + 1 = pc')  (r : own_Run p l e R s m args below meth c n0 Kf h k q (mkF m pc' Ls (.long (x &&& y) :: rest))) : own_Run p l e R s m args below meth c n0 Kf h k q (mkF m pc Ls (.long y :: .long x :: rest)) :=
  own_st (fun T locs X eT t kk => by subst hp; exact Jvm.Free.XT.land X.here C.g_x rfl (hb C.g_by hd) rfl kk) r
theorem own_lor (C : own_Ctx p s m meth c Z own nm bytes maxL ret) {x y : Int64} (hd : decode bytes pc = .ok (.lor, 1)) (hp : pc + 1 = pc')  (r : own_Run p l e R s m args below meth c n0 Kf h k q (mkF m pc' Ls (.long (x ||| y) :: rest))) : own_Run p l e R s m args below meth c n0 Kf h k q (mkF m pc Ls (.long y :: .long x :: rest)) :=
  own_st (fun T locs X eT t kk => by subst hp; exact Jvm.Free.XT.lor X.here C.g_x rfl (hb C.g_by hd) rfl kk) r
theorem own_lxor (C : own_Ctx p s m meth c Z own nm bytes maxL ret) {x y : Int64} (hd : decode bytes pc = .ok (.lxor, 1)) (hp : pc + 1 = pc')  (r : own_Run p l e R s m args below meth c n0 Kf h k q (mkF m pc' Ls (.long (x ^^^ y) :: rest))) : own_Run p l e R s m args below meth c n0 Kf h k q (mkF m pc Ls (.long y :: .long x :: rest)) :=
  own_st (fun T locs X eT t kk => by subst hp; exact Jvm.Free.XT.lxor X.here C.g_x rfl (hb C.g_by hd) rfl kk) r
theorem own_lmul (C : own_Ctx p s m meth c Z own nm bytes maxL ret) {x y : Int64} (hd : decode bytes pc = .ok (.lmul, 1)) (hp : pc + 1 = pc')  (r : own_Run p l e R s m args below meth c n0 Kf h k q (mkF m pc' Ls (.long (x * y) :: rest))) : own_Run p l e R s m args below meth c n0 Kf h k q (mkF m pc Ls (.long y :: .long x :: rest)) :=
  own_st (fun T locs X eT t kk => by subst hp; exact Jvm.Free.XT.lmul X.here C.g_x rfl (hb C.g_by hd) rfl kk) r
theorem own_lcmp (C : own_Ctx p s m meth c Z own nm bytes maxL ret) {x y : Int64} (hd : decode bytes pc = .ok (.lcmp, 1)) (hp : pc + 1 = pc')  (r : own_Run p l e R s m args below meth c n0 Kf h k q (mkF m pc' Ls (.int (Jvm.Free.XT.cmpL x y) :: rest))) : own_Run p l e R s m args below meth c n0 Kf h k q (mkF m pc Ls (.long y :: .long x :: rest)) :=
  own_st (fun T locs X eT t kk => by subst hp; exact Jvm.Free.XT.lcmp X.here C.g_x rfl (hb C.g_by hd) rfl kk) r
theorem own_lshl (C : own_Ctx p s m meth c Z own nm bytes maxL ret) {x : Int64} {y : Int32} (hd : decode bytes pc = .ok (.lshl, 1)) (hp : pc + 1 = pc')  (r : own_Run p l e R s m args below meth c n0 Kf h k q (mkF m pc' Ls (.long (x <<< (y.toInt64 &&& 63)) :: rest))) : own_Run p l e R s m args below meth c n0 Kf h k q (mkF m pc Ls (.int y :: .long x :: rest)) :=
  own_st (fun T locs X eT t kk => by subst hp; exact Jvm.Free.XT.lshl X.here C.g_x rfl (hb C.g_by hd) rfl kk) r
theorem own_i2l (C : own_Ctx p s m meth c Z own nm bytes maxL ret) {x : Int32} (hd : decode bytes pc = .ok (.i2l, 1)) (hp : pc + 1 = pc')  (r : own_Run p l e R s m args below meth c n0 Kf h k q (mkF m pc' Ls (.long (x.toInt64) :: rest))) : own_Run p l e R s m args below meth c n0 Kf h k q (mkF m pc Ls (.int x :: rest)) :=
  own_st (fun T locs X eT t kk => by subst hp; exact Jvm.Free.XT.i2l X.here C.g_x rfl (hb C.g_by hd) rfl kk) r
theorem own_l2i (C : own_Ctx p s m meth c Z own nm bytes maxL ret) {x : Int64} (hd : decode bytes pc = .ok (.l2i, 1)) (hp : pc + 1 = pc')  (r : own_Run p l e R s m args below meth c n0 Kf h k q (mkF m pc' Ls (.int (x.toInt32) :: rest))) : own_Run p l e R s m args below meth c n0 Kf h k q (mkF m pc Ls (.long x :: rest)) :=
  own_st (fun T locs X eT t kk => by subst hp; exact Jvm.Free.XT.l2i X.here C.g_x rfl (hb C.g_by hd) rfl kk) r
theorem own_i2b (C : own_Ctx p s m meth c Z own nm bytes maxL ret) {x : Int32} (hd : decode bytes pc = .ok (.i2b, 1)) (hp : pc + 1 = pc')  (r : own_Run p l e R s m args below meth c n0 Kf h k q (mkF m pc' Ls (.int (x.toInt8.toInt32) :: rest))) : own_Run p l e R s m args below meth c n0 Kf h k q (mkF m pc Ls (.int x :: rest)) :=
  own_st (fun T locs X eT t kk => by subst hp; exact Jvm.Free.XT.i2b X.here C.g_x rfl (hb C.g_by hd) rfl kk) r
theorem own_i2c (C : own_Ctx p s m meth c Z own nm bytes maxL ret) {x : Int32} (hd : decode bytes pc = .ok (.i2c, 1)) (hp : pc + 1 = pc')  (r : own_Run p l e R s m args below meth c n0 Kf h k q (mkF m pc' Ls (.int (x.toUInt32.toUInt16.toUInt32.toInt32) :: rest))) : own_Run p l e R s m args below meth c n0 Kf h k q (mkF m pc Ls (.int x :: rest)) :=
  own_st (fun T locs X eT t kk => by subst hp; exact Jvm.Free.XT.i2c X.here C.g_x rfl (hb C.g_by hd) rfl kk) r
theorem own_iaddV (C : own_Ctx p s m meth c Z own nm bytes maxL ret) {x y v : Int32} (hd : decode bytes pc = .ok (.iadd, 1)) (hp : pc + 1 = pc') (hv : x + y = v) (r : own_Run p l e R s m args below meth c n0 Kf h k q (mkF m pc' Ls (.int v :: rest))) : own_Run p l e R s m args below meth c n0 Kf h k q (mkF m pc Ls (.int y :: .int x :: rest)) :=
  own_st (fun T locs X eT t kk => by subst hp; exact Jvm.Free.XS.iadd X.here C.g_x rfl (hb C.g_by hd) rfl (by rw [hv]; exact kk)) r
theorem own_isubV (C : own_Ctx p s m meth c Z own nm bytes maxL ret) {x y v : Int32} (hd : decode bytes pc = .ok (.isub, 1)) (hp : pc + 1 = pc') (hv : x - y = v) (r : own_Run p l e R s m args below meth c n0 Kf h k q (mkF m pc' Ls (.int v :: rest))) : own_Run p l e R s m args below meth c n0 Kf h k q (mkF m pc Ls (.int y :: .int x :: rest)) :=
  own_st (fun T locs X eT t kk => by subst hp; exact Jvm.Free.XS.isub X.here C.g_x rfl (hb C.g_by hd) rfl (by rw [hv]; exact kk)) r
theorem own_imulV (C : own_Ctx p s m meth c Z own nm bytes maxL ret) {x y v : Int32} (hd : decode bytes pc = .ok (.imul, 1)) (hp : pc + 1 = pc') (hv : x * y = v) (r : own_Run p l e R s m args below meth c n0 Kf h k q (mkF m pc' Ls (.int v :: rest))) : own_Run p l e R s m args below meth c n0 Kf h k q (mkF m pc Ls (.int y :: .int x :: rest)) :=
  own_st (fun T locs X eT t kk => by subst hp; exact Jvm.Free.XS.imul X.here C.g_x rfl (hb C.g_by hd) rfl (by rw [hv]; exact kk)) r
theorem own_iandV (C : own_Ctx p s m meth c Z own nm bytes maxL ret) {x y v : Int32} (hd : decode bytes pc = .ok (.iand, 1)) (hp : pc + 1 = pc') (hv : x &&& y = v) (r : own_Run p l e R s m args below meth c n0 Kf h k q (mkF m pc' Ls (.int v :: rest))) : own_Run p l e R s m args below meth c n0 Kf h k q (mkF m pc Ls (.int y :: .int x :: rest)) :=
  own_st (fun T locs X eT t kk => by subst hp; exact Jvm.Free.XS.iand X.here C.g_x rfl (hb C.g_by hd) rfl (by rw [hv]; exact kk)) r
theorem own_goto (C : own_Ctx p s m meth c Z own nm bytes maxL ret) {o : Int} {st : List Value} (hd : decode bytes pc = .ok (.goto o, 3)) (ho : (pc : Int) + o = (pc' : Int)) (r : own_Run p l e R s m args below meth c n0 Kf h k q (mkF m pc' Ls st)) : own_Run p l e R s m args below meth c n0 Kf h k q (mkF m pc Ls st) :=
  own_st (fun T locs X eT t kk => Jvm.Free.XS.goto X.here C.g_x rfl (pc0 := pc) (pc' := pc') rfl (hb C.g_by hd) (by omega) (by omega) kk) r
theorem own_ii_eq (C : own_Ctx p s m meth c Z own nm bytes maxL ret) {o : Int} {x y : Int32} (hd : decode bytes pc = .ok (.if_icmp .eq o, 3)) (ho : (pc : Int) + o = (pc1 : Int)) (hp : pc + 3 = pc2) (r1 : x = y → own_Run p l e R s m args below meth c n0 Kf h k q (mkF m pc1 Ls rest)) (r2 : ¬ x = y → own_Run p l e R s m args below meth c n0 Kf h k q (mkF m pc2 Ls rest)) : own_Run p l e R s m args below meth c n0 Kf h k q (mkF m pc Ls (.int y :: .int x :: rest)) := by
  by_cases hc : x = y
  · exact own_st (fun T locs X eT t kk => Jvm.Free.XS.icmpYes X.here C.g_x rfl (pc0 := pc) (pc' := pc1) rfl (hb C.g_by hd) rfl (Jvm.Free.XT.ii_eq_t hc) (by omega) (by omega) kk) (r1 hc)
  · subst hp; exact own_st (fun T locs X eT t kk => Jvm.Free.XS.icmpNo X.here C.g_x rfl (hb C.g_by hd) rfl (Jvm.Free.XT.ii_eq_f hc) kk) (r2 hc)
theorem own_i0_eq (C : own_Ctx p s m meth c Z own nm bytes maxL ret) {o : Int} {x : Int32} (hd : decode bytes pc = .ok (.ifCond .eq o, 3)) (ho : (pc : Int) + o = (pc1 : Int)) (hp : pc + 3 = pc2) (r1 : x = 0 → own_Run p l e R s m args below meth c n0 Kf h k q (mkF m pc1 Ls rest)) (r2 : ¬ x = 0 → own_Run p l e R s m args below meth c n0 Kf h k q (mkF m pc2 Ls rest)) : own_Run p l e R s m args below meth c n0 Kf h k q (mkF m pc Ls (.int x :: rest)) := by
  by_cases hc : x = 0
  · exact own_st (fun T locs X eT t kk => Jvm.Free.XS.ifYes X.here C.g_x rfl (pc0 := pc) (pc' := pc1) rfl (hb C.g_by hd) rfl (Jvm.Free.XT.i0_eq_t hc) (by omega) (by omega) kk) (r1 hc)
  · subst hp; exact own_st (fun T locs X eT t kk => Jvm.Free.XS.ifNo X.here C.g_x rfl (hb C.g_by hd) rfl (Jvm.Free.XT.i0_eq_f hc) kk) (r2 hc)
theorem own_ll_eq (C : own_Ctx p s m meth c Z own nm bytes maxL ret) {o : Int} {x y : Int64} (hd : decode bytes pc = .ok (.ifCond .eq o, 3)) (ho : (pc : Int) + o = (pc1 : Int)) (hp : pc + 3 = pc2) (r1 : x = y → own_Run p l e R s m args below meth c n0 Kf h k q (mkF m pc1 Ls rest)) (r2 : ¬ x = y → own_Run p l e R s m args below meth c n0 Kf h k q (mkF m pc2 Ls rest)) : own_Run p l e R s m args below meth c n0 Kf h k q (mkF m pc Ls (.int (Jvm.Free.XT.cmpL x y) :: rest)) := by
  by_cases hc : x = y
  · exact own_st (fun T locs X eT t kk => Jvm.Free.XS.ifYes X.here C.g_x rfl (pc0 := pc) (pc' := pc1) rfl (hb C.g_by hd) rfl (Jvm.Free.XT.ll_eq_t hc) (by omega) (by omega) kk) (r1 hc)
  · subst hp; exact own_st (fun T locs X eT t kk => Jvm.Free.XS.ifNo X.here C.g_x rfl (hb C.g_by hd) rfl (Jvm.Free.XT.ll_eq_f hc) kk) (r2 hc)
theorem own_ii_ne (C : own_Ctx p s m meth c Z own nm bytes maxL ret) {o : Int} {x y : Int32} (hd : decode bytes pc = .ok (.if_icmp .ne o, 3)) (ho : (pc : Int) + o = (pc1 : Int)) (hp : pc + 3 = pc2) (r1 : ¬ x = y → own_Run p l e R s m args below meth c n0 Kf h k q (mkF m pc1 Ls rest)) (r2 : x = y → own_Run p l e R s m args below meth c n0 Kf h k q (mkF m pc2 Ls rest)) : own_Run p l e R s m args below meth c n0 Kf h k q (mkF m pc Ls (.int y :: .int x :: rest)) := by
  by_cases hc : x = y
  · subst hp; exact own_st (fun T locs X eT t kk => Jvm.Free.XS.icmpNo X.here C.g_x rfl (hb C.g_by hd) rfl (Jvm.Free.XT.ii_ne_f hc) kk) (r2 hc)
  · exact own_st (fun T locs X eT t kk => Jvm.Free.XS.icmpYes X.here C.g_x rfl (pc0 := pc) (pc' := pc1) rfl (hb C.g_by hd) rfl (Jvm.Free.XT.ii_ne_t hc) (by omega) (by omega) kk) (r1 hc)
theorem own_i0_ne (C : own_Ctx p s m meth c Z own nm bytes maxL ret) {o : Int} {x : Int32} (hd : decode bytes pc = .ok (.ifCond .ne o, 3)) (ho : (pc : Int) + o = (pc1 : Int)) (hp : pc + 3 = pc2) (r1 : ¬ x = 0 → own_Run p l e R s m args below meth c n0 Kf h k q (mkF m pc1 Ls rest)) (r2 : x = 0 → own_Run p l e R s m args below meth c n0 Kf h k q (mkF m pc2 Ls rest)) : own_Run p l e R s m args below meth c n0 Kf h k q (mkF m pc Ls (.int x :: rest)) := by
  by_cases hc : x = 0
  · subst hp; exact own_st (fun T locs X eT t kk => Jvm.Free.XS.ifNo X.here C.g_x rfl (hb C.g_by hd) rfl (Jvm.Free.XT.i0_ne_f hc) kk) (r2 hc)
  · exact own_st (fun T locs X eT t kk => Jvm.Free.XS.ifYes X.here C.g_x rfl (pc0 := pc) (pc' := pc1) rfl (hb C.g_by hd) rfl (Jvm.Free.XT.i0_ne_t hc) (by omega) (by omega) kk) (r1 hc)
theorem own_ll_ne (C : own_Ctx p s m meth c Z own nm bytes maxL ret) {o : Int} {x y : Int64} (hd : decode bytes pc = .ok (.ifCond .ne o, 3)) (ho : (pc : Int) + o = (pc1 : Int)) (hp : pc + 3 = pc2) (r1 : ¬ x = y → own_Run p l e R s m args below meth c n0 Kf h k q (mkF m pc1 Ls rest)) (r2 : x = y → own_Run p l e R s m args below meth c n0 Kf h k q (mkF m pc2 Ls rest)) : own_Run p l e R s m args below meth c n0 Kf h k q (mkF m pc Ls (.int (Jvm.Free.XT.cmpL x y) :: rest)) := by
  by_cases hc : x = y
  · subst hp; exact own_st (fun T locs X eT t kk => Jvm.Free.XS.ifNo X.here C.g_x rfl (hb C.g_by hd) rfl (Jvm.Free.XT.ll_ne_f hc) kk) (r2 hc)
  · exact own_st (fun T locs X eT t kk => Jvm.Free.XS.ifYes X.here C.g_x rfl (pc0 := pc) (pc' := pc1) rfl (hb C.g_by hd) rfl (Jvm.Free.XT.ll_ne_t hc) (by omega) (by omega) kk) (r1 hc)
theorem own_ii_lt (C : own_Ctx p s m meth c Z own nm bytes maxL ret) {o : Int} {x y : Int32} (hd : decode bytes pc = .ok (.if_icmp .lt o, 3)) (ho : (pc : Int) + o = (pc1 : Int)) (hp : pc + 3 = pc2) (r1 : x < y → own_Run p l e R s m args below meth c n0 Kf h k q (mkF m pc1 Ls rest)) (r2 : ¬ x < y → own_Run p l e R s m args below meth c n0 Kf h k q (mkF m pc2 Ls rest)) : own_Run p l e R s m args below meth c n0 Kf h k q (mkF m pc Ls (.int y :: .int x :: rest)) := by
  by_cases hc : x < y
  · exact own_st (fun T locs X eT t kk => Jvm.Free.XS.icmpYes X.here C.g_x rfl (pc0 := pc) (pc' := pc1) rfl (hb C.g_by hd) rfl (Jvm.Free.XT.ii_lt_t hc) (by omega) (by omega) kk) (r1 hc)
  · subst hp; exact own_st (fun T locs X eT t kk => Jvm.Free.XS.icmpNo X.here C.g_x rfl (hb C.g_by hd) rfl (Jvm.Free.XT.ii_lt_f hc) kk) (r2 hc)
theorem own_i0_lt (C : own_Ctx p s m meth c Z own nm bytes maxL ret) {o : Int} {x : Int32} (hd : decode bytes pc = .ok (.ifCond .lt o, 3)) (ho : (pc : Int) + o = (pc1 : Int)) (hp : pc + 3 = pc2) (r1 : x < 0 → own_Run p l e R s m args below meth c n0 Kf h k q (mkF m pc1 Ls rest)) (r2 : ¬ x < 0 → own_Run p l e R s m args below meth c n0 Kf h k q (mkF m pc2 Ls rest)) : own_Run p l e R s m args below meth c n0 Kf h k q (mkF m pc Ls (.int x :: rest)) := by
  by_cases hc : x < 0
  · exact own_st (fun T locs X eT t kk => Jvm.Free.XS.ifYes X.here C.g_x rfl (pc0 := pc) (pc' := pc1) rfl (hb C.g_by hd) rfl (Jvm.Free.XT.i0_lt_t hc) (by omega) (by omega) kk) (r1 hc)
  · subst hp; exact own_st (fun T locs X eT t kk => Jvm.Free.XS.ifNo X.here C.g_x rfl (hb C.g_by hd) rfl (Jvm.Free.XT.i0_lt_f hc) kk) (r2 hc)
theorem own_ll_lt (C : own_Ctx p s m meth c Z own nm bytes maxL ret) {o : Int} {x y : Int64} (hd : decode bytes pc = .ok (.ifCond .lt o, 3)) (ho : (pc : Int) + o = (pc1 : Int)) (hp : pc + 3 = pc2) (r1 : x < y → own_Run p l e R s m args below meth c n0 Kf h k q (mkF m pc1 Ls rest)) (r2 : ¬ x < y → own_Run p l e R s m args below meth c n0 Kf h k q (mkF m pc2 Ls rest)) : own_Run p l e R s m args below meth c n0 Kf h k q (mkF m pc Ls (.int (Jvm.Free.XT.cmpL x y) :: rest)) := by
  by_cases hc : x < y
  · exact own_st (fun T locs X eT t kk => Jvm.Free.XS.ifYes X.here C.g_x rfl (pc0 := pc) (pc' := pc1) rfl (hb C.g_by hd) rfl (Jvm.Free.XT.ll_lt_t hc) (by omega) (by omega) kk) (r1 hc)
  · subst hp; exact own_st (fun T locs X eT t kk => Jvm.Free.XS.ifNo X.here C.g_x rfl (hb C.g_by hd) rfl (Jvm.Free.XT.ll_lt_f hc) kk) (r2 hc)
theorem own_ii_ge (C : own_Ctx p s m meth c Z own nm bytes maxL ret) {o : Int} {x y : Int32} (hd : decode bytes pc = .ok (.if_icmp .ge o, 3)) (ho : (pc : Int) + o = (pc1 : Int)) (hp : pc + 3 = pc2) (r1 : ¬ x < y → own_Run p l e R s m args below meth c n0 Kf h k q (mkF m pc1 Ls rest)) (r2 : x < y → own_Run p l e R s m args below meth c n0 Kf h k q (mkF m pc2 Ls rest)) : own_Run p l e R s m args below meth c n0 Kf h k q (mkF m pc Ls (.int y :: .int x :: rest)) := by
  by_cases hc : x < y
  · subst hp; exact own_st (fun T locs X eT t kk => Jvm.Free.XS.icmpNo X.here C.g_x rfl (hb C.g_by hd) rfl (Jvm.Free.XT.ii_ge_f hc) kk) (r2 hc)
  · exact own_st (fun T locs X eT t kk => Jvm.Free.XS.icmpYes X.here C.g_x rfl (pc0 := pc) (pc' := pc1) rfl (hb C.g_by hd) rfl (Jvm.Free.XT.ii_ge_t hc) (by omega) (by omega) kk) (r1 hc)
theorem own_i0_ge (C : own_Ctx p s m meth c Z own nm bytes maxL ret) {o : Int} {x : Int32} (hd : decode bytes pc = .ok (.ifCond .ge o, 3)) (ho : (pc : Int) + o = (pc1 : Int)) (hp : pc + 3 = pc2) (r1 : ¬ x < 0 → own_Run p l e R s m args below meth c n0 Kf h k q (mkF m pc1 Ls rest)) (r2 : x < 0 → own_Run p l e R s m args below meth c n0 Kf h k q (mkF m pc2 Ls rest)) : own_Run p l e R s m args below meth c n0 Kf h k q (mkF m pc Ls (.int x :: rest)) := by
  by_cases hc : x < 0
  · subst hp; exact own_st (fun T locs X eT t kk => Jvm.Free.XS.ifNo X.here C.g_x rfl (hb C.g_by hd) rfl (Jvm.Free.XT.i0_ge_f hc) kk) (r2 hc)
  · exact own_st (fun T locs X eT t kk => Jvm.Free.XS.ifYes X.here C.g_x rfl (pc0 := pc) (pc' := pc1) rfl (hb C.g_by hd) rfl (Jvm.Free.XT.i0_ge_t hc) (by omega) (by omega) kk) (r1 hc)
theorem own_ll_ge (C : own_Ctx p s m meth c Z own nm bytes maxL ret) {o : Int} {x y : Int64} (hd : decode bytes pc = .ok (.ifCond .ge o, 3)) (ho : (pc : Int) + o = (pc1 : Int)) (hp : pc + 3 = pc2) (r1 : ¬ x < y → own_Run p l e R s m args below meth c n0 Kf h k q (mkF m pc1 Ls rest)) (r2 : x < y → own_Run p l e R s m args below meth c n0 Kf h k q (mkF m pc2 Ls rest)) : own_Run p l e R s m args below meth c n0 Kf h k q (mkF m pc Ls (.int (Jvm.Free.XT.cmpL x y) :: rest)) := by
  by_cases hc : x < y
  · subst hp; exact own_st (fun T locs X eT t kk => Jvm.Free.XS.ifNo X.here C.g_x rfl (hb C.g_by hd) rfl (Jvm.Free.XT.ll_ge_f hc) kk) (r2 hc)
  · exact own_st (fun T locs X eT t kk => Jvm.Free.XS.ifYes X.here C.g_x rfl (pc0 := pc) (pc' := pc1) rfl (hb C.g_by hd) rfl (Jvm.Free.XT.ll_ge_t hc) (by omega) (by omega) kk) (r1 hc)
theorem own_ii_gt (C : own_Ctx p s m meth c Z own nm bytes maxL ret) {o : Int} {x y : Int32} (hd : decode bytes pc = .ok (.if_icmp .gt o, 3)) (ho : (pc : Int) + o = (pc1 : Int)) (hp : pc + 3 = pc2) (r1 : y < x → own_Run p l e R s m args below meth c n0 Kf h k q (mkF m pc1 Ls rest)) (r2 : ¬ y < x → own_Run p l e R s m args below meth c n0 Kf h k q (mkF m pc2 Ls rest)) : own_Run p l e R s m args below meth c n0 Kf h k q (mkF m pc Ls (.int y :: .int x :: rest)) := by
  by_cases hc : y < x
  · exact own_st (fun T locs X eT t kk => Jvm.Free.XS.icmpYes X.here C.g_x rfl (pc0 := pc) (pc' := pc1) rfl (hb C.g_by hd) rfl (Jvm.Free.XT.ii_gt_t hc) (by omega) (by omega) kk) (r1 hc)
  · subst hp; exact own_st (fun T locs X eT t kk => Jvm.Free.XS.icmpNo X.here C.g_x rfl (hb C.g_by hd) rfl (Jvm.Free.XT.ii_gt_f hc) kk) (r2 hc)
theorem own_i0_gt (C : own_Ctx p s m meth c Z own nm bytes maxL ret) {o : Int} {x : Int32} (hd : decode bytes pc = .ok (.ifCond .gt o, 3)) (ho : (pc : Int) + o = (pc1 : Int)) (hp : pc + 3 = pc2) (r1 : 0 < x → own_Run p l e R s m args below meth c n0 Kf h k q (mkF m pc1 Ls rest)) (r2 : ¬ 0 < x → own_Run p l e R s m args below meth c n0 Kf h k q (mkF m pc2 Ls rest)) : own_Run p l e R s m args below meth c n0 Kf h k q (mkF m pc Ls (.int x :: rest)) := by
  by_cases hc : 0 < x
  · exact own_st (fun T locs X eT t kk => Jvm.Free.XS.ifYes X.here C.g_x rfl (pc0 := pc) (pc' := pc1) rfl (hb C.g_by hd) rfl (Jvm.Free.XT.i0_gt_t hc) (by omega) (by omega) kk) (r1 hc)
  · subst hp; exact own_st (fun T locs X eT t kk => Jvm.Free.XS.ifNo X.here C.g_x rfl (hb C.g_by hd) rfl (Jvm.Free.XT.i0_gt_f hc) kk) (r2 hc)
theorem own_ll_gt (C : own_Ctx p s m meth c Z own nm bytes maxL ret) {o : Int} {x y : Int64} (hd : decode bytes pc = .ok (.ifCond .gt o, 3)) (ho : (pc : Int) + o = (pc1 : Int)) (hp : pc + 3 = pc2) (r1 : y < x → own_Run p l e R s m args below meth c n0 Kf h k q (mkF m pc1 Ls rest)) (r2 : ¬ y < x → own_Run p l e R s m args below meth c n0 Kf h k q (mkF m pc2 Ls rest)) : own_Run p l e R s m args below meth c n0 Kf h k q (mkF m pc Ls (.int (Jvm.Free.XT.cmpL x y) :: rest)) := by
  by_cases hc : y < x
  · exact own_st (fun T locs X eT t kk => Jvm.Free.XS.ifYes X.here C.g_x rfl (pc0 := pc) (pc' := pc1) rfl (hb C.g_by hd) rfl (Jvm.Free.XT.ll_gt_t hc) (by omega) (by omega) kk) (r1 hc)
  · subst hp; exact own_st (fun T locs X eT t kk => Jvm.Free.XS.ifNo X.here C.g_x rfl (hb C.g_by hd) rfl (Jvm.Free.XT.ll_gt_f hc) kk) (r2 hc)
theorem own_ii_le (C : own_Ctx p s m meth c Z own nm bytes maxL ret) {o : Int} {x y : Int32} (hd : decode bytes pc = .ok (.if_icmp .le o, 3)) (ho : (pc : Int) + o = (pc1 : Int)) (hp : pc + 3 = pc2) (r1 : ¬ y < x → own_Run p l e R s m args below meth c n0 Kf h k q (mkF m pc1 Ls rest)) (r2 : y < x → own_Run p l e R s m args below meth c n0 Kf h k q (mkF m pc2 Ls rest)) : own_Run p l e R s m args below meth c n0 Kf h k q (mkF m pc Ls (.int y :: .int x :: rest)) := by
  by_cases hc : y < x
  · subst hp; exact own_st (fun T locs X eT t kk => Jvm.Free.XS.icmpNo X.here C.g_x rfl (hb C.g_by hd) rfl (Jvm.Free.XT.ii_le_f hc) kk) (r2 hc)
  · exact own_st (fun T locs X eT t kk => Jvm.Free.XS.icmpYes X.here C.g_x rfl (pc0 := pc) (pc' := pc1) rfl (hb C.g_by hd) rfl (Jvm.Free.XT.ii_le_t hc) (by omega) (by omega) kk) (r1 hc)
theorem own_i0_le (C : own_Ctx p s m meth c Z own nm bytes maxL ret) {o : Int} {x : Int32} (hd : decode bytes pc = .ok (.ifCond .le o, 3)) (ho : (pc : Int) + o = (pc1 : Int)) (hp : pc + 3 = pc2) (r1 : ¬ 0 < x → own_Run p l e R s m args below meth c n0 Kf h k q (mkF m pc1 Ls rest)) (r2 : 0 < x → own_Run p l e R s m args below meth c n0 Kf h k q (mkF m pc2 Ls rest)) : own_Run p l e R s m args below meth c n0 Kf h k q (mkF m pc Ls (.int x :: rest)) := by
  by_cases hc : 0 < x
  · subst hp; exact own_st (fun T locs X eT t kk => Jvm.Free.XS.ifNo X.here C.g_x rfl (hb C.g_by hd) rfl (Jvm.Free.XT.i0_le_f hc) kk) (r2 hc)
  · exact own_st (fun T locs X eT t kk => Jvm.Free.XS.ifYes X.here C.g_x rfl (pc0 := pc) (pc' := pc1) rfl (hb C.g_by hd) rfl (Jvm.Free.XT.i0_le_t hc) (by omega) (by omega) kk) (r1 hc)
theorem own_ll_le (C : own_Ctx p s m meth c Z own nm bytes maxL ret) {o : Int} {x y : Int64} (hd : decode bytes pc = .ok (.ifCond .le o, 3)) (ho : (pc : Int) + o = (pc1 : Int)) (hp : pc + 3 = pc2) (r1 : ¬ y < x → own_Run p l e R s m args below meth c n0 Kf h k q (mkF m pc1 Ls rest)) (r2 : y < x → own_Run p l e R s m args below meth c n0 Kf h k q (mkF m pc2 Ls rest)) : own_Run p l e R s m args below meth c n0 Kf h k q (mkF m pc Ls (.int (Jvm.Free.XT.cmpL x y) :: rest)) := by
  by_cases hc : y < x
  · subst hp; exact own_st (fun T locs X eT t kk => Jvm.Free.XS.ifNo X.here C.g_x rfl (hb C.g_by hd) rfl (Jvm.Free.XT.ll_le_f hc) kk) (r2 hc)
  · exact own_st (fun T locs X eT t kk => Jvm.Free.XS.ifYes X.here C.g_x rfl (pc0 := pc) (pc' := pc1) rfl (hb C.g_by hd) rfl (Jvm.Free.XT.ll_le_t hc) (by omega) (by omega) kk) (r1 hc)
theorem own_aa_eq (C : own_Ctx p s m meth c Z own nm bytes maxL ret) {o : Int} {x y : Value} (hx1 : x.isRef = true) (hy1 : y.isRef = true) (hd : decode bytes pc = .ok (.if_acmp .eq o, 3)) (ho : (pc : Int) + o = (pc1 : Int)) (hp : pc + 3 = pc2) (r1 : x = y → own_Run p l e R s m args below meth c n0 Kf h k q (mkF m pc1 Ls rest)) (r2 : ¬ x = y → own_Run p l e R s m args below meth c n0 Kf h k q (mkF m pc2 Ls rest)) : own_Run p l e R s m args below meth c n0 Kf h k q (mkF m pc Ls (y :: x :: rest)) := by
  by_cases hc : x = y
  · exact own_st (fun T locs X eT t kk => Jvm.Free.XT.acmpYes X.here C.g_x rfl (pc0 := pc) (pc' := pc1) rfl (hb C.g_by hd) rfl hx1 hy1 (Jvm.Free.XT.aa_eq_t hc) (by omega) (by omega) kk) (r1 hc)
  · subst hp; exact own_st (fun T locs X eT t kk => Jvm.Free.XT.acmpNo X.here C.g_x rfl (hb C.g_by hd) rfl hx1 hy1 (Jvm.Free.XT.aa_eq_f hc) kk) (r2 hc)
theorem own_aa_ne (C : own_Ctx p s m meth c Z own nm bytes maxL ret) {o : Int} {x y : Value} (hx1 : x.isRef = true) (hy1 : y.isRef = true) (hd : decode bytes pc = .ok (.if_acmp .ne o, 3)) (ho : (pc : Int) + o = (pc1 : Int)) (hp : pc + 3 = pc2) (r1 : ¬ x = y → own_Run p l e R s m args below meth c n0 Kf h k q (mkF m pc1 Ls rest)) (r2 : x = y → own_Run p l e R s m args below meth c n0 Kf h k q (mkF m pc2 Ls rest)) : own_Run p l e R s m args below meth c n0 Kf h k q (mkF m pc Ls (y :: x :: rest)) := by
  by_cases hc : x = y
  · subst hp; exact own_st (fun T locs X eT t kk => Jvm.Free.XT.acmpNo X.here C.g_x rfl (hb C.g_by hd) rfl hx1 hy1 (Jvm.Free.XT.aa_ne_f hc) kk) (r2 hc)
  · exact own_st (fun T locs X eT t kk => Jvm.Free.XT.acmpYes X.here C.g_x rfl (pc0 := pc) (pc' := pc1) rfl (hb C.g_by hd) rfl hx1 hy1 (Jvm.Free.XT.aa_ne_t hc) (by omega) (by omega) kk) (r1 hc)
theorem own_nullNo (C : own_Ctx p s m meth c Z own nm bytes maxL ret) {o : Int} {a : Addr} (hd : decode bytes pc = .ok (.ifnull o, 3)) (hp : pc + 3 = pc') (r : own_Run p l e R s m args below meth c n0 Kf h k q (mkF m pc' Ls rest)) : own_Run p l e R s m args below meth c n0 Kf h k q (mkF m pc Ls (.ref a :: rest)) :=
  own_st (fun T locs X eT t kk => by subst hp; exact Jvm.Free.XS.ifnullNo X.here C.g_x rfl (hb C.g_by hd) rfl kk) r
theorem own_getF (C : own_Ctx p s m meth c Z own nm bytes maxL ret) {i : Nat} {O n d : String} {a : Addr} {v : Value} (w : (Jvm.Cond.fieldLink own i O n d).before a0 Z = true) (F : Fld Z h a O n d v) (hd : decode bytes pc = .ok (.getfield i, 3)) (hp : pc + 3 = pc') (r : own_Run p l e R s m args below meth c n0 Kf h k q (mkF m pc' Ls (v :: rest))) : own_Run p l e R s m args below meth c n0 Kf h k q (mkF m pc Ls (.ref a :: rest)) := fun T locs X eT N => by
  subst hp
  obtain ⟨T1, X1, e1, st1⟩ := getF X C.g_x C.g_z C.g_own (host := "") (Or.inl w) Via.refl eT F (g := mkF m pc Ls (.ref a :: rest)) rfl rfl (hb C.g_by hd)
  obtain ⟨t, o, h1, h2⟩ := r T1 locs X1 e1 N
  exact ⟨t, o, st1 _ h1, h2⟩
theorem own_putF (C : own_Ctx p s m meth c Z own nm bytes maxL ret) {i kk : Nat} {O n d K : String} {a : Addr} {v old : Value} {ty : FieldType} (w : (Jvm.Cond.fieldLink own i O n d).before a0 Z = true) (F : Fld Z h a O n d old) (E : Exa Z h a K) (L : (Jvm.Cond.lays K O n d).before a0 Z = true ∨ ((Jvm.Cond.laysFinal K O n d).before a0 Z = true ∧ own = O ∧ nm = "<init>")) (wi : (Jvm.Cond.instantiable K kk).before a0 Z = true) (hty : parseFieldDescriptor d = some ty) (hn : narrow ty v = v) (hf : fits ty v = true) (ga : n0 ≤ a) (hd : decode bytes pc = .ok (.putfield i, 3)) (hp : pc + 3 = pc')
    (r : ∀ h', Wr h h' a (Jvm.RoadKit.slotOf Z O n d) v → own_Run p l e R s m args below meth c n0 Kf h' k q (mkF m pc' Ls rest)) : own_Run p l e R s m args below meth c n0 Kf h k q (mkF m pc Ls (v :: .ref a :: rest)) := fun T locs X eT N => by
  subst hp
  obtain ⟨T1, h1, X1, e1, W1, st1⟩ := putF X C.g_x C.g_z C.g_own (host := "") (Or.inl w) Via.refl eT F E (L.imp id fun x => ⟨x.1, x.2.1, C.g_nm.trans x.2.2⟩) wi hty hn hf (g := mkF m pc Ls (v :: .ref a :: rest)) rfl rfl (hb C.g_by hd)
  obtain ⟨t, o, h2, h3⟩ := r h1 W1 T1 _ X1 e1 (Fr.snoc X1 N ga)
  exact ⟨t, o, st1 _ h2, h3⟩
theorem own_getS (C : own_Ctx p s m meth c Z own nm bytes maxL ret) {i : Nat} {O n d : String} {v : Value} (w : (Jvm.Cond.fieldLink own i O n d).before a0 Z = true) (F : Sta Z h O n d v) (hd : decode bytes pc = .ok (.getstatic i, 3)) (hp : pc + 3 = pc') (r : own_Run p l e R s m args below meth c n0 Kf h k q (mkF m pc' Ls (v :: rest))) : own_Run p l e R s m args below meth c n0 Kf h k q (mkF m pc Ls rest) := fun T locs X eT N => by
  subst hp
  obtain ⟨T1, X1, e1, st1⟩ := getS (host := "") X C.g_x C.g_z C.g_own w Via.refl eT F (g := mkF m pc Ls rest) rfl (hb C.g_by hd)
  obtain ⟨t, o, h1, h2⟩ := r T1 locs X1 e1 N
  exact ⟨t, o, st1 _ h1, h2⟩
theorem own_new (C : own_Ctx p s m meth c Z own nm bytes maxL ret) {i n : Nat} {K : String} (w : (Jvm.Cond.classLink own i K).before a0 Z = true) (wi : (Jvm.Cond.instantiable K n).before a0 Z = true) (wz : (Jvm.Cond.initialized K).before a0 Z = true) (Z0 : n0 ≤ h.size) (hd : decode bytes pc = .ok (.new i, 3)) (hp : pc + 3 = pc') (hc : k + 1 ≤ R.cells) (hs : q + n ≤ R.slots)
    (r : ∀ h' a, a = h.size → n0 ≤ a → n0 ≤ h'.size → Ext h h' → Exa Z h' a K → (∀ {O nm d : String} {ty : FieldType}, Laid Z a0 K O nm d → parseFieldDescriptor d = some ty → Fld Z h' a O nm d (defaultValue ty)) → own_Run p l e R s m args below meth c n0 Kf h' (k + 1) (q + n) (mkF m pc' Ls (.ref a :: rest))) : own_Run p l e R s m args below meth c n0 Kf h k q (mkF m pc Ls rest) := fun T locs X eT N => by
  subst hp
  obtain ⟨T1, h1, X1, e1, E1, A1, D1, -, st1⟩ := newO X C.g_x C.g_z C.g_own w wi wz eT (g := mkF m pc Ls rest) rfl (hb C.g_by hd) hc hs
  obtain ⟨t, o, h2, h3⟩ := r h1 h.size rfl Z0 (Nat.le_trans Z0 E1.1) E1 A1 (fun L ht => D1 L ht) T1 _ X1 e1 N
  exact ⟨t, o, st1 _ h2, h3⟩
theorem own_initO (C : own_Ctx p s m meth c Z own nm bytes maxL ret) {i : Nat} {a : Addr} {W : Nat} (w1 : (Jvm.Cond.methodLink own i Lib.objectInit).before a0 Z = true) (w2 : (Jvm.Cond.instanceMethod Lib.objectInit).before a0 Z = true) (w3 : (Jvm.Cond.code Lib.objectInit ⟨#[0xb1]⟩ 1 none).before a0 Z = true) (hd : decode bytes pc = .ok (.invokespecial i, 3)) (hp : pc + 3 = pc') (hsz : Ls.size = maxL) (hf : 1 ≤ R.frames) (hW : 0 + (rest.map fun v => v.category).sum ≤ W) (hl : W + 12 ≤ R.locals)
    (r : own_Run p l e R s m args below meth c n0 Kf h k q (mkF m pc' Ls rest)) : own_Run p l e R s m args below meth c n0 Kf h k q (mkF m pc Ls (.ref a :: rest)) := fun T locs X eT N => by
  subst hp
  obtain ⟨T1, X1, e1, st1⟩ := initO X C.g_x C.g_z C.g_own w1 w2 w3 eT (g := mkF m pc Ls (.ref a :: rest)) rfl (by rw [C.g_ml]; exact hsz) rfl (hb C.g_by hd) hf (W := W) (by show 2 * 0 + _ ≤ _; exact hW) hl
  obtain ⟨t, o, h1, h2⟩ := r T1 locs X1 e1 N
  exact ⟨t, o, st1 _ h1, h2⟩
theorem own_callN (C : own_Ctx p s m meth c Z own nm bytes maxL ret) {i : Nat} {y : MethodName} {cb : ByteArray} {cm : Nat} {rm : Room} {a : Addr} {argsL : List Value} {Q' : Option Value → Heap → Prop} (W : Nat) (hy1 : y.name = "<init>") (w1 : (Jvm.Cond.methodLink own i y).before a0 Z = true) (w2 : (Jvm.Cond.instanceMethod y).before a0 Z = true) (w3 : (Jvm.Cond.code y cb cm none).before a0 Z = true) (w4 : (Jvm.Cond.initialized y.cls).before a0 Z = true) (hy : y.cls ≠ "java/lang/invoke/MethodHandle" ∧ y.cls ≠ "java/lang/invoke/VarHandle")
    (hM : own_Met l Z n0 y cb cm none rm [] (.ref a :: argsL).toArray h Q') (hf : rm.frames + 1 ≤ R.frames) (hl : W + (cm + 11) + rm.locals ≤ R.locals) (hlen : ∀ sig, parseMethodDescriptor y.desc = some sig → argsL.length = sig.parameters.length) {st : List Value} (hst : st = argsL.reverse ++ .ref a :: rest) (hW : 0 + (rest.map fun v => v.category).sum ≤ W) (hd : decode bytes pc = .ok (.invokespecial i, 3)) (hp : pc + 3 = pc') (hsz : Ls.size = maxL) (hc : k + rm.cells ≤ R.cells) (hs : q + rm.slots ≤ R.slots)
    (r : ∀ v h', Q' v h' → own_Run p l e R s m args below meth c n0 Kf h' (k + rm.cells) (q + rm.slots) (mkF m pc' Ls (v.toList ++ rest))) : own_Run p l e R s m args below meth c n0 Kf h k q (mkF m pc Ls st) := fun T locs X eT N => by
  subst hp
  obtain ⟨v, _, ⟨T1, L1, k1, n1⟩, -, X1, ⟨Lc1, hQ1, l1, y1, z1⟩, st1⟩ := X.specialBack C.g_x (y := y) hy1 C.g_own (mvT C.g_z w1) (mvT C.g_z w2) (mvT C.g_z w3) hy (backOf (W := W) (Q := fun v h L => Fr n0 L ∧ Q' v h) hM C.g_z w3 w4 hf hl) (g := mkF m pc Ls st) rfl (by rw [C.g_ml]; exact hsz) (Steps.refl _) (a := a) (argsL := argsL) (rest := rest) hlen hst (by show 2 * 0 + _ ≤ _; exact hW) (hb C.g_by hd) (fun _ _ => ⟨rfl, eT, hc, hs⟩)
  dsimp only [Pt.U, Pt.locs, Pt.cells, Pt.slots] at X1 l1 y1 z1 st1 hQ1
  subst l1 y1 z1
  obtain ⟨t, o, h2, h3⟩ := r v T1.heap hQ1.2 T1 _ X1 rfl (Fr.app N hQ1.1)
  exact ⟨t, o, st1.trans h2, h3⟩
theorem own_callV (C : own_Ctx p s m meth c Z own nm bytes maxL ret) {i : Nat} {y : MethodName} {cb : ByteArray} {cm : Nat} {cret : Option FieldType} {rm : Room} {a : Addr} {argsL : List Value} {Q' : Option Value → Heap → Prop} (W : Nat) (E : Exa Z h a y.cls) (w1 : (Jvm.Cond.methodLink own i y).before a0 Z = true) (w2 : (Jvm.Cond.declares y).before a0 Z = true) (w3 : (Jvm.Cond.selects y.cls y y).before a0 Z = true) (w4 : (Jvm.Cond.instanceMethod y).before a0 Z = true) (w5 : (Jvm.Cond.code y cb cm cret).before a0 Z = true) (w6 : (Jvm.Cond.initialized y.cls).before a0 Z = true) (hy : y.cls ≠ "java/lang/invoke/MethodHandle" ∧ y.cls ≠ "java/lang/invoke/VarHandle")
    (hM : own_Met l Z n0 y cb cm cret rm [] (.ref a :: argsL).toArray h Q') (hf : rm.frames + 1 ≤ R.frames) (hl : W + (cm + 11) + rm.locals ≤ R.locals) (hlen : ∀ sig, parseMethodDescriptor y.desc = some sig → argsL.length = sig.parameters.length) {st : List Value} (hst : st = argsL.reverse ++ .ref a :: rest) (hW : 0 + (rest.map fun v => v.category).sum ≤ W) (hd : decode bytes pc = .ok (.invokevirtual i, 3)) (hp : pc + 3 = pc') (hsz : Ls.size = maxL) (hc : k + rm.cells ≤ R.cells) (hs : q + rm.slots ≤ R.slots)
    (r : ∀ v h', Q' v h' → own_Run p l e R s m args below meth c n0 Kf h' (k + rm.cells) (q + rm.slots) (mkF m pc' Ls (v.toList ++ rest))) : own_Run p l e R s m args below meth c n0 Kf h k q (mkF m pc Ls st) := fun T locs X eT N => by
  subst hp
  obtain ⟨cq, kq, qa, qb, qc⟩ := isOf C.g_z eT E
  obtain ⟨v, _, ⟨T1, L1, k1, n1⟩, -, X1, ⟨Lc1, hQ1, l1, y1, z1⟩, st1⟩ := X.virtualBack C.g_x (y := y) (z := y) C.g_own (mvT C.g_z w1) (mvT C.g_z w2) (notFace_of_selects (args := #[]) (mvT C.g_z w3)) (mvT C.g_z w3) (mvT C.g_z w4) hy (backOf (W := W) (Q := fun v h L => Fr n0 L ∧ Q' v h) hM C.g_z w5 w6 hf hl) qa qc (g := mkF m pc Ls st) rfl (by rw [C.g_ml]; exact hsz) (Steps.refl _) (argsL := argsL) (rest := rest) hlen hst (by show 2 * 0 + _ ≤ _; exact hW) (hb C.g_by hd) (fun _ _ => ⟨rfl, eT, hc, hs⟩)
  dsimp only [Pt.U, Pt.locs, Pt.cells, Pt.slots] at X1 l1 y1 z1 st1 hQ1
  subst l1 y1 z1
  obtain ⟨t, o, h2, h3⟩ := r v T1.heap hQ1.2 T1 _ X1 rfl (Fr.app N hQ1.1)
  exact ⟨t, o, st1.trans h2, h3⟩
theorem own_callS (C : own_Ctx p s m meth c Z own nm bytes maxL ret) {i : Nat} {y : MethodName} {cb : ByteArray} {cm : Nat} {cret : Option FieldType} {rm : Room} {argsL : List Value} {Q' : Option Value → Heap → Prop} (W : Nat) (w1 : (Jvm.Cond.methodLink own i y).before a0 Z = true) (w2 : (Jvm.Cond.static y).before a0 Z = true) (w3 : (Jvm.Cond.initialized y.cls).before a0 Z = true) (w4 : (Jvm.Cond.code y cb cm cret).before a0 Z = true) (hy : y.cls ≠ "java/lang/invoke/MethodHandle" ∧ y.cls ≠ "java/lang/invoke/VarHandle")
    (hM : own_Met l Z n0 y cb cm cret rm [] argsL.toArray h Q') (hf : rm.frames + 1 ≤ R.frames) (hl : W + (cm + 11) + rm.locals ≤ R.locals) (hlen : ∀ sig, parseMethodDescriptor y.desc = some sig → argsL.length = sig.parameters.length) {st : List Value} (hst : st = argsL.reverse ++ rest) (hW : 0 + (rest.map fun v => v.category).sum ≤ W) (hd : decode bytes pc = .ok (.invokestatic i, 3)) (hp : pc + 3 = pc') (hsz : Ls.size = maxL) (hc : k + rm.cells ≤ R.cells) (hs : q + rm.slots ≤ R.slots)
    (r : ∀ v h', Q' v h' → own_Run p l e R s m args below meth c n0 Kf h' (k + rm.cells) (q + rm.slots) (mkF m pc' Ls (v.toList ++ rest))) : own_Run p l e R s m args below meth c n0 Kf h k q (mkF m pc Ls st) := fun T locs X eT N => by
  subst hp
  obtain ⟨v, _, ⟨T1, L1, k1, n1⟩, -, X1, ⟨Lc1, hQ1, l1, y1, z1⟩, st1⟩ := Jvm.LawKit.callS X C.g_x (y := y) C.g_own (mvT C.g_z w1) (mvT C.g_z w2) (mvT C.g_z w3) (mvT C.g_z w4) hy (backOf (W := W) (Q := fun v h L => Fr n0 L ∧ Q' v h) hM C.g_z w4 w3 hf hl) (g := mkF m pc Ls st) rfl (by rw [C.g_ml]; exact hsz) (argsL := argsL) (rest := rest) hlen hst (by show 2 * 0 + _ ≤ _; exact hW) (hb C.g_by hd) (fun _ _ => ⟨rfl, eT, hc, hs⟩)
  dsimp only [Pt.U, Pt.locs, Pt.cells, Pt.slots] at X1 l1 y1 z1 st1 hQ1
  subst l1 y1 z1
  obtain ⟨t, o, h2, h3⟩ := r v T1.heap hQ1.2 T1 _ X1 rfl (Fr.app N hQ1.1)
  exact ⟨t, o, st1 _ h2, h3⟩
theorem own_callP (C : own_Ctx p s m meth c Z own nm bytes maxL ret) {i nf : Nat} {y : MethodName} {cb : ByteArray} {cm : Nat} {cret : Option FieldType} {rm : Room} {a : Addr} {argsL : List Value} {K : String} {Q' : Option Value → Heap → Prop} (W : Nat) (E : Exa Z h a K) (w1 : (Jvm.Cond.methodLink own i y).before a0 Z = true) (w2 : (Jvm.Cond.instanceMethod y).before a0 Z = true) (w3 : (Jvm.Cond.privateMethod y).before a0 Z = true) (w4 : (Jvm.Cond.instantiable y.cls nf).before a0 Z = true) (w5 : (Jvm.Cond.code y cb cm cret).before a0 Z = true) (w6 : (Jvm.Cond.initialized y.cls).before a0 Z = true) (hy : y.cls ≠ "java/lang/invoke/MethodHandle" ∧ y.cls ≠ "java/lang/invoke/VarHandle")
    (hM : own_Met l Z n0 y cb cm cret rm [] (.ref a :: argsL).toArray h Q') (hf : rm.frames + 1 ≤ R.frames) (hl : W + (cm + 11) + rm.locals ≤ R.locals) (hlen : ∀ sig, parseMethodDescriptor y.desc = some sig → argsL.length = sig.parameters.length) {st : List Value} (hst : st = argsL.reverse ++ .ref a :: rest) (hW : 0 + (rest.map fun v => v.category).sum ≤ W) (hd : decode bytes pc = .ok (.invokevirtual i, 3)) (hp : pc + 3 = pc') (hsz : Ls.size = maxL) (hc : k + rm.cells ≤ R.cells) (hs : q + rm.slots ≤ R.slots)
    (r : ∀ v h', Q' v h' → own_Run p l e R s m args below meth c n0 Kf h' (k + rm.cells) (q + rm.slots) (mkF m pc' Ls (v.toList ++ rest))) : own_Run p l e R s m args below meth c n0 Kf h k q (mkF m pc Ls st) := fun T locs X eT N => by
  subst hp
  have hK := backOf (l := l) (R := R) (p := p) (e := e) (s := s) (below := below) (args := args) (len := 3) (W := W) (Q := fun v h L => Fr n0 L ∧ Q' v h) hM C.g_z w5 w6 hf hl
  obtain ⟨mk, mM, hnamed, hmM, hsta, hab⟩ := Cond.instanceMethod_spec (mvT (args := args) C.g_z w2)
  obtain ⟨mM', cM, hmM', -, -, -, -, -, -, hsig⟩ := Cond.code_spec hnamed (mvT (args := args) C.g_z w5)
  cases hmM.symm.trans hmM'
  obtain ⟨cI, kI, i1, i2, -, i4, -⟩ := Cond.instantiable_spec (mvT (args := args) C.g_z w4)
  cases i1.symm.trans (findClass_of_methodNamed hnamed)
  have hni : kI.isInterface = false := (Bool.or_eq_false_iff.mp i4).1
  obtain ⟨cell, hc1, hc2⟩ := E.cell
  have hsel := selectMethod_private (p := e.platform) (c := cell.cls) hmM (Cond.privateMethod_at (mvP C.g_z w3 (args := #[])) mk mM hnamed hmM)
  obtain ⟨vm1, X1, st1⟩ := X.invokevirtual C.g_x C.g_own (mvT C.g_z w1) hnamed hmM hsta i2 hni hy (a := a) (cell := cell) (by rw [eT]; exact hc1) hc2 hsel hmM hab i2 hni (g := mkF m pc Ls st) rfl (argsL := argsL) (rest := rest) (hlen _ hsig) hst (hb C.g_by hd)
  obtain ⟨v, ⟨T1, L1, k1, n1⟩, X2, ⟨Lc1, hQ1, l1, y1, z1⟩, st2⟩ := hK m meth c ⟨T.setVm vm1, locs, k, q⟩ (mkF m pc Ls rest) (.invokevirtual i) mk (.ref a :: argsL).toArray X1 rfl (by rw [C.g_ml]; exact hsz) (hb C.g_by hd) (by show 2 * 0 + _ ≤ _; exact hW) (X1.named hnamed) ⟨rfl, eT, hc, hs⟩
  dsimp only [Pt.U, Pt.locs, Pt.cells, Pt.slots] at X2 l1 y1 z1 st2 hQ1
  subst l1 y1 z1
  obtain ⟨t, o, h2, h3⟩ := r v T1.heap hQ1.2 T1 _ X2 rfl (Fr.app N hQ1.1)
  exact ⟨t, o, st1 _ fun acts => by rw [doInvoke_state]; exact st2.trans h2, h3⟩
theorem own_ret (C : own_Ctx p s m meth c Z own nm bytes maxL ret) {v : Value} {t : FieldType} {i : Instr} (hret : ret = some t) (hn : narrow t v = v)
    (hi : (i = .ireturn ∧ (t = .int ∨ t = .boolean ∨ t = .byte ∨ t = .char ∨ t = .short) ∧ ∃ z, v = .int z) ∨ (i = .lreturn ∧ t = .long ∧ ∃ z, v = .long z) ∨ (i = .dreturn ∧ t = .double ∧ ∃ z, v = .double z) ∨ (i = .freturn ∧ t = .float ∧ ∃ z, v = .float z) ∨ (i = .areturn ∧ t.isReference = true ∧ v.isRef = true))
    (hd : decode bytes pc = .ok (i, 1)) (hc : k ≤ R.cells) (hs : q ≤ R.slots) (hQ : Q (some v) h) : own_Run p l e R s m args below meth c n0 (own_K below R s n0 Q) h k q (mkF m pc Ls (v :: rest)) := fun T locs X eT N => by
  have hlocks := C.g_lk
  obtain ⟨fs, hr, hrun, hended, hW, hsame⟩ := X.leave (v := some v) (fun hh => by rw [C.g_rt, hret] at hh; cases hh) hlocks
  refine ⟨_, _, retOut X C.g_x (C.g_rt.trans hret) hn hi (hb C.g_by hd) hr, hrun, hended, _, _, rfl, ⟨N, ?_⟩, ⟨_, rfl⟩, hW, hsame.mono hc hs⟩
  show Q (some v) T.heap
  rw [eT]; exact hQ
theorem own_retV (C : own_Ctx p s m meth c Z own nm bytes maxL ret) (hret : ret = none) (hd : decode bytes pc = .ok (.return_, 1)) (hc : k ≤ R.cells) (hs : q ≤ R.slots) (hQ : Q none h) : own_Run p l e R s m args below meth c n0 (own_K below R s n0 Q) h k q (mkF m pc Ls []) := fun T locs X eT N => by
  have hlocks := C.g_lk
  obtain ⟨fs, hr, hrun, hended, hW, hsame⟩ := X.leave (v := none) (fun _ => rfl) hlocks
  refine ⟨_, _, X.returnOut C.g_x (C.g_rt.trans hret) (hb C.g_by hd) hr, hrun, hended, _, _, rfl, ⟨N, ?_⟩, ⟨_, rfl⟩, hW, hsame.mono hc hs⟩
  show Q none T.heap
  rw [eT]; exact hQ
theorem own_refne {a b : Addr} (hn : a ≠ b) : ¬ (Value.ref a = Value.ref b) := fun e => hn (Value.ref.inj e)
theorem own_nb {v : Int32} (hv : v = 0 ∨ v = 1) : narrow .boolean (.int v) = .int v := by rcases hv with rfl | rfl <;> rfl
theorem own_fb {v : Int32} (hv : v = 0 ∨ v = 1) : fits .boolean (.int v) = true := by rcases hv with rfl | rfl <;> rfl
theorem own_join {α : Type} {g : JFrame} (P : α → Prop) (F : α → JFrame) (j : ∀ v, P v → own_Run p l e R s m args below meth c n0 Kf h k q (F v)) (r : (∀ v, P v → own_Run p l e R s m args below meth c n0 Kf h k q (F v)) → own_Run p l e R s m args below meth c n0 Kf h k q g) : own_Run p l e R s m args below meth c n0 Kf h k q g := r j
theorem own_join2 {α β : Type} {g : JFrame} (P : α → β → Prop) (F : α → β → JFrame) (j : ∀ v w, P v w → own_Run p l e R s m args below meth c n0 Kf h k q (F v w)) (r : (∀ v w, P v w → own_Run p l e R s m args below meth c n0 Kf h k q (F v w)) → own_Run p l e R s m args below meth c n0 Kf h k q g) : own_Run p l e R s m args below meth c n0 Kf h k q g := r j
theorem own_join3 {α β γ : Type} {g : JFrame} (P : α → β → γ → Prop) (F : α → β → γ → JFrame) (j : ∀ v w x, P v w x → own_Run p l e R s m args below meth c n0 Kf h k q (F v w x)) (r : (∀ v w x, P v w x → own_Run p l e R s m args below meth c n0 Kf h k q (F v w x)) → own_Run p l e R s m args below meth c n0 Kf h k q g) : own_Run p l e R s m args below meth c n0 Kf h k q g := r j
def own_upd {α : Type} (f : Nat → α) (i : Nat) (x : α) : Nat → α := fun j => if j = i then x else f j
theorem own_upd_eq {α : Type} (f : Nat → α) (i : Nat) (x : α) : own_upd f i x i = x := if_pos rfl
theorem own_upd_ne {α : Type} (f : Nat → α) {i j : Nat} (x : α) (hne : j ≠ i) : own_upd f i x j = f j := if_neg hne
/-- an array: her length, and what each place holds -/
def own_A (Z : State) (h : Heap) (a : Addr) (ty : FieldType) (n : Nat) (f : Nat → Value) : Prop := n < 2 ^ 31 ∧ ∃ cl : Cell, Arr Z h a cl ty ∧ cl.slots.size = n ∧ ∀ j, j < n → cl.slots[j]? = some (f j)
abbrev own_AI (Z : State) (h : Heap) (a : Addr) (n : Nat) (f : Nat → Int32) : Prop := own_A Z h a .int n (fun j => .int (f j))
abbrev own_AB (Z : State) (h : Heap) (a : Addr) (n : Nat) (f : Nat → Int32) : Prop := own_A Z h a .byte n (fun j => .int (f j))
abbrev own_AZ (Z : State) (h : Heap) (a : Addr) (n : Nat) (f : Nat → Int32) : Prop := own_A Z h a .boolean n (fun j => .int (f j))
abbrev own_AJ (Z : State) (h : Heap) (a : Addr) (n : Nat) (f : Nat → Int64) : Prop := own_A Z h a .long n (fun j => .long (f j))
theorem own_A.lt {h : Heap} {a : Addr} {ty : FieldType} {n : Nat} {f : Nat → Value} (V : own_A Z h a ty n f) : a < h.size := by obtain ⟨_, cl, A, _⟩ := V; exact A.lt
theorem own_A.ext {h h' : Heap} {a : Addr} {ty : FieldType} {n : Nat} {f : Nat → Value} (V : own_A Z h a ty n f) (E : Ext h h') : own_A Z h' a ty n f := by obtain ⟨hn, cl, A, r⟩ := V; exact ⟨hn, cl, A.ext E, r⟩
theorem own_A.other {h h' : Heap} {a b : Addr} {sl : Nat} {w : Value} {ty : FieldType} {n : Nat} {f : Nat → Value} (V : own_A Z h b ty n f) (W : Wr h h' a sl w) (hne : b ≠ a) : own_A Z h' b ty n f := by obtain ⟨hn, cl, A, r⟩ := V; exact ⟨hn, cl, A.other W hne, r⟩
theorem own_A.keep {h h' : Heap} {a : Addr} {ws : List Addr} {ty : FieldType} {n : Nat} {f : Nat → Value} (V : own_A Z h a ty n f) (K : Keep h h' ws) (hne : a ∉ ws) : own_A Z h' a ty n f := by obtain ⟨hn, cl, A, r⟩ := V; exact ⟨hn, cl, ⟨K.2.1 a cl A.1 hne, A.2⟩, r⟩
theorem own_A.congr {h : Heap} {a : Addr} {ty : FieldType} {n : Nat} {f g : Nat → Value} (V : own_A Z h a ty n f) (e : ∀ j, j < n → f j = g j) : own_A Z h a ty n g := by obtain ⟨hn, cl, A, S, H⟩ := V; exact ⟨hn, cl, A, S, fun j hj => by rw [← e j hj]; exact H j hj⟩
theorem own_A.set {h h' : Heap} {a : Addr} {i : Nat} {w : Value} {ty : FieldType} {n : Nat} {f : Nat → Value} (V : own_A Z h a ty n f) (W : Wr h h' a i w) (hi : i < n) : own_A Z h' a ty n (own_upd f i w) := by
  obtain ⟨hn, cl, A, S, H⟩ := V
  refine ⟨hn, _, A.same W, by rw [sz_set]; exact S, fun j hj => ?_⟩
  by_cases e : j = i
  · subst e
    rw [own_upd_eq]; simp [Cell.setSlot, S, hj]
  · rw [own_upd_ne _ _ e]
    show (cl.slots.setIfInBounds i w)[j]? = _
    rw [Array.getElem?_setIfInBounds_ne (Ne.symm e)]; exact H j hj
theorem own_nat {j : Int32} {i : Nat} (hj : j.toInt = (i : Int)) : ¬ j < 0 ∧ j.toNatClampNeg = i := by
  have z : (0 : Int32).toInt = 0 := rfl
  refine ⟨?_, ?_⟩
  · rw [Int32.lt_iff_toInt_lt]; omega
  · simp only [Int32.toNatClampNeg]; omega
theorem own_inb {j : Int32} {i : Nat} {cl : Cell} {n : Nat} (hj : j.toInt = (i : Int)) (S : cl.slots.size = n) (hi : i < n) : ¬ (j < 0 ∨ cl.slots.size ≤ j.toNatClampNeg) := by
  obtain ⟨h1, h2⟩ := own_nat hj
  rw [S, h2]; exact fun hh => hh.elim h1 (Nat.not_le.mpr hi)
theorem own_newA (C : own_Ctx p s m meth c Z own nm bytes maxL ret) {aty : ArrayType} (w : (Jvm.Cond.arrayClass (newarray.typeOf aty)).before a0 Z = true) (Z0 : n0 ≤ h.size) (hd : decode bytes pc = .ok (.newarray aty, 2)) (hp : pc + 2 = pc') {n : Int32} {nn cap : Nat} (hn : n.toInt = (nn : Int)) (hcap : nn ≤ cap) (hbig : cap * 8 ≤ 536870912) (hc : k + 1 ≤ R.cells) (hl : q + cap ≤ R.slots)
    (r : ∀ h' a, a = h.size → n0 ≤ a → n0 ≤ h'.size → Ext h h' → own_A Z h' a (newarray.typeOf aty) nn (fun _ => defaultValue (newarray.typeOf aty)) → own_Run p l e R s m args below meth c n0 Kf h' (k + 1) (q + cap) (mkF m pc' Ls (.ref a :: rest))) : own_Run p l e R s m args below meth c n0 Kf h k q (mkF m pc Ls (.int n :: rest)) := fun T locs X eT N => by
  subst hp
  obtain ⟨p1, p2⟩ := own_nat hn
  obtain ⟨T1, h1, cA, X1, e1, E1, A1, st1⟩ := newP X C.g_x C.g_z w eT (g := mkF m pc Ls (.int n :: rest)) rfl (hb C.g_by hd) rfl p1 (cap := cap) (by rw [p2]; exact hcap) hbig hc hl
  have V : own_A Z h1 h.size (newarray.typeOf aty) nn (fun _ => defaultValue (newarray.typeOf aty)) := by
    refine ⟨by have := Int32.toInt_lt n; omega, _, A1, by rw [sz_new, p2], fun j hj => ?_⟩
    simp [newA, p2, hj]
  obtain ⟨t, o, h2, h3⟩ := r h1 h.size rfl Z0 (Nat.le_trans Z0 E1.1) E1 V T1 _ X1 e1 N
  exact ⟨t, o, st1 _ h2, h3⟩
theorem own_newAI (C : own_Ctx p s m meth c Z own nm bytes maxL ret) (w : (Jvm.Cond.arrayClass .int).before a0 Z = true) (Z0 : n0 ≤ h.size) (hd : decode bytes pc = .ok (.newarray .int, 2)) (hp : pc + 2 = pc') {n : Int32} {nn cap : Nat} (hn : n.toInt = (nn : Int)) (hcap : nn ≤ cap) (hbig : cap * 8 ≤ 536870912) (hc : k + 1 ≤ R.cells) (hl : q + cap ≤ R.slots)
    (r : ∀ h' a, a = h.size → n0 ≤ a → n0 ≤ h'.size → Ext h h' → own_AI Z h' a nn (fun _ => (0 : Int32)) → own_Run p l e R s m args below meth c n0 Kf h' (k + 1) (q + cap) (mkF m pc' Ls (.ref a :: rest))) : own_Run p l e R s m args below meth c n0 Kf h k q (mkF m pc Ls (.int n :: rest)) := own_newA C (aty := .int) w Z0 hd hp hn hcap hbig hc hl r
theorem own_stI (C : own_Ctx p s m meth c Z own nm bytes maxL ret) {a : Addr} {n : Nat} {f : Nat → Int32} (V : own_AI Z h a n f) {j : Int32} {i : Nat} {x : Int32} (hj : j.toInt = (i : Int)) (hi : i < n) (ga : n0 ≤ a) (hd : decode bytes pc = .ok (.iastore, 1)) (hp : pc + 1 = pc')
    (r : ∀ h', Wr h h' a i (.int x) → own_AI Z h' a n (own_upd f i x) → own_Run p l e R s m args below meth c n0 Kf h' k q (mkF m pc' Ls rest)) : own_Run p l e R s m args below meth c n0 Kf h k q (mkF m pc Ls (.int x :: .int j :: .ref a :: rest)) := fun T locs X eT N => by
  subst hp
  obtain ⟨p1, p2⟩ := own_nat hj
  obtain ⟨hn, cl, A, S, H⟩ := id V
  obtain ⟨T1, h1, X1, e1, W1, st1⟩ := stI X C.g_x C.g_z eT A (own_inb hj S hi) (g := mkF m pc Ls (.int x :: .int j :: .ref a :: rest)) rfl rfl (hb C.g_by hd)
  have W2 : Wr h h1 a i (.int x) := by rw [← p2]; exact W1
  obtain ⟨t, o, h2, h3⟩ := r h1 W2 ((own_A.set V W2 hi).congr fun j hj => by by_cases e : j = i <;> simp [own_upd, e]) T1 _ X1 e1 (Fr.snoc X1 N ga)
  exact ⟨t, o, st1 _ h2, h3⟩
theorem own_lenI (C : own_Ctx p s m meth c Z own nm bytes maxL ret) {a : Addr} {n : Nat} {f : Nat → Int32} (V : own_AI Z h a n f) (hd : decode bytes pc = .ok (.arraylength, 1)) (hp : pc + 1 = pc') (r : own_Run p l e R s m args below meth c n0 Kf h k q (mkF m pc' Ls (.int (Nat.toInt32 n) :: rest))) : own_Run p l e R s m args below meth c n0 Kf h k q (mkF m pc Ls (.ref a :: rest)) := by
  obtain ⟨hn, cl, A, S, H⟩ := V
  subst hp
  rw [← S] at r
  exact own_st (fun T locs X eT t kk => X.arraylength C.g_x (by rw [eT]; exact A.1) (State.isArrayOf_alike C.g_z.alike A.2.1) (g := mkF m pc Ls (.ref a :: rest)) rfl rfl (hb C.g_by hd) t kk) r
theorem own_ldI (C : own_Ctx p s m meth c Z own nm bytes maxL ret) {a : Addr} {n : Nat} {f : Nat → Int32} (V : own_AI Z h a n f) {j : Int32} {i : Nat} (hj : j.toInt = (i : Int)) (hi : i < n) (hd : decode bytes pc = .ok (.iaload, 1)) (hp : pc + 1 = pc') (r : own_Run p l e R s m args below meth c n0 Kf h k q (mkF m pc' Ls (.int (f i) :: rest))) : own_Run p l e R s m args below meth c n0 Kf h k q (mkF m pc Ls (.int j :: .ref a :: rest)) := by
  obtain ⟨p1, p2⟩ := own_nat hj
  obtain ⟨hn, cl, A, S, H⟩ := V
  subst hp
  exact own_st (fun T locs X eT t kk => X.iaload C.g_x (by rw [eT]; exact A.1) (State.isArrayOf_alike C.g_z.alike A.2.1) A.2.2 (own_inb hj S hi) (by rw [p2]; exact H i hi) (g := mkF m pc Ls (.int j :: .ref a :: rest)) rfl rfl (hb C.g_by hd) t kk) r
theorem own_ldIV (C : own_Ctx p s m meth c Z own nm bytes maxL ret) {a : Addr} {n : Nat} {f : Nat → Int32} (V : own_AI Z h a n f) {j : Int32} {i : Nat} {v : Int32} (hj : j.toInt = (i : Int)) (hi : i < n) (hv : f i = v) (hd : decode bytes pc = .ok (.iaload, 1)) (hp : pc + 1 = pc') (r : own_Run p l e R s m args below meth c n0 Kf h k q (mkF m pc' Ls (.int v :: rest))) : own_Run p l e R s m args below meth c n0 Kf h k q (mkF m pc Ls (.int j :: .ref a :: rest)) := by
  subst hv; exact own_ldI C V hj hi hd hp r
theorem own_newAB (C : own_Ctx p s m meth c Z own nm bytes maxL ret) (w : (Jvm.Cond.arrayClass .byte).before a0 Z = true) (Z0 : n0 ≤ h.size) (hd : decode bytes pc = .ok (.newarray .byte, 2)) (hp : pc + 2 = pc') {n : Int32} {nn cap : Nat} (hn : n.toInt = (nn : Int)) (hcap : nn ≤ cap) (hbig : cap * 8 ≤ 536870912) (hc : k + 1 ≤ R.cells) (hl : q + cap ≤ R.slots)
    (r : ∀ h' a, a = h.size → n0 ≤ a → n0 ≤ h'.size → Ext h h' → own_AB Z h' a nn (fun _ => (0 : Int32)) → own_Run p l e R s m args below meth c n0 Kf h' (k + 1) (q + cap) (mkF m pc' Ls (.ref a :: rest))) : own_Run p l e R s m args below meth c n0 Kf h k q (mkF m pc Ls (.int n :: rest)) := own_newA C (aty := .byte) w Z0 hd hp hn hcap hbig hc hl r
theorem own_stB (C : own_Ctx p s m meth c Z own nm bytes maxL ret) {a : Addr} {n : Nat} {f : Nat → Int32} (V : own_AB Z h a n f) {j : Int32} {i : Nat} {x : Int32} (hj : j.toInt = (i : Int)) (hi : i < n) (ga : n0 ≤ a) (hd : decode bytes pc = .ok (.bastore, 1)) (hp : pc + 1 = pc')
    (r : ∀ h', Wr h h' a i (.int (x.toInt8.toInt32)) → own_AB Z h' a n (own_upd f i (x.toInt8.toInt32)) → own_Run p l e R s m args below meth c n0 Kf h' k q (mkF m pc' Ls rest)) : own_Run p l e R s m args below meth c n0 Kf h k q (mkF m pc Ls (.int x :: .int j :: .ref a :: rest)) := fun T locs X eT N => by
  subst hp
  obtain ⟨p1, p2⟩ := own_nat hj
  obtain ⟨hn, cl, A, S, H⟩ := id V
  obtain ⟨T1, h1, X1, e1, W1, st1⟩ := stB X C.g_x C.g_z eT A (own_inb hj S hi) (g := mkF m pc Ls (.int x :: .int j :: .ref a :: rest)) rfl rfl (hb C.g_by hd)
  have W2 : Wr h h1 a i (.int (x.toInt8.toInt32)) := by rw [← p2]; exact W1
  obtain ⟨t, o, h2, h3⟩ := r h1 W2 ((own_A.set V W2 hi).congr fun j hj => by by_cases e : j = i <;> simp [own_upd, e]) T1 _ X1 e1 (Fr.snoc X1 N ga)
  exact ⟨t, o, st1 _ h2, h3⟩
theorem own_lenB (C : own_Ctx p s m meth c Z own nm bytes maxL ret) {a : Addr} {n : Nat} {f : Nat → Int32} (V : own_AB Z h a n f) (hd : decode bytes pc = .ok (.arraylength, 1)) (hp : pc + 1 = pc') (r : own_Run p l e R s m args below meth c n0 Kf h k q (mkF m pc' Ls (.int (Nat.toInt32 n) :: rest))) : own_Run p l e R s m args below meth c n0 Kf h k q (mkF m pc Ls (.ref a :: rest)) := by
  obtain ⟨hn, cl, A, S, H⟩ := V
  subst hp
  rw [← S] at r
  exact own_st (fun T locs X eT t kk => X.arraylength C.g_x (by rw [eT]; exact A.1) (State.isArrayOf_alike C.g_z.alike A.2.1) (g := mkF m pc Ls (.ref a :: rest)) rfl rfl (hb C.g_by hd) t kk) r
theorem own_ldB (C : own_Ctx p s m meth c Z own nm bytes maxL ret) {a : Addr} {n : Nat} {f : Nat → Int32} (V : own_AB Z h a n f) {j : Int32} {i : Nat} (hj : j.toInt = (i : Int)) (hi : i < n) (hd : decode bytes pc = .ok (.baload, 1)) (hp : pc + 1 = pc') (r : own_Run p l e R s m args below meth c n0 Kf h k q (mkF m pc' Ls (.int (f i) :: rest))) : own_Run p l e R s m args below meth c n0 Kf h k q (mkF m pc Ls (.int j :: .ref a :: rest)) := by
  obtain ⟨p1, p2⟩ := own_nat hj
  obtain ⟨hn, cl, A, S, H⟩ := V
  subst hp
  exact own_st (fun T locs X eT t kk => X.baloadBytes C.g_x (by rw [eT]; exact A.1) (State.isArrayOf_alike C.g_z.alike A.2.1) A.2.2 (own_inb hj S hi) (by rw [p2]; exact H i hi) (g := mkF m pc Ls (.int j :: .ref a :: rest)) rfl rfl (hb C.g_by hd) t kk) r
theorem own_ldBV (C : own_Ctx p s m meth c Z own nm bytes maxL ret) {a : Addr} {n : Nat} {f : Nat → Int32} (V : own_AB Z h a n f) {j : Int32} {i : Nat} {v : Int32} (hj : j.toInt = (i : Int)) (hi : i < n) (hv : f i = v) (hd : decode bytes pc = .ok (.baload, 1)) (hp : pc + 1 = pc') (r : own_Run p l e R s m args below meth c n0 Kf h k q (mkF m pc' Ls (.int v :: rest))) : own_Run p l e R s m args below meth c n0 Kf h k q (mkF m pc Ls (.int j :: .ref a :: rest)) := by
  subst hv; exact own_ldB C V hj hi hd hp r
theorem own_newAZ (C : own_Ctx p s m meth c Z own nm bytes maxL ret) (w : (Jvm.Cond.arrayClass .boolean).before a0 Z = true) (Z0 : n0 ≤ h.size) (hd : decode bytes pc = .ok (.newarray .boolean, 2)) (hp : pc + 2 = pc') {n : Int32} {nn cap : Nat} (hn : n.toInt = (nn : Int)) (hcap : nn ≤ cap) (hbig : cap * 8 ≤ 536870912) (hc : k + 1 ≤ R.cells) (hl : q + cap ≤ R.slots)
    (r : ∀ h' a, a = h.size → n0 ≤ a → n0 ≤ h'.size → Ext h h' → own_AZ Z h' a nn (fun _ => (0 : Int32)) → own_Run p l e R s m args below meth c n0 Kf h' (k + 1) (q + cap) (mkF m pc' Ls (.ref a :: rest))) : own_Run p l e R s m args below meth c n0 Kf h k q (mkF m pc Ls (.int n :: rest)) := own_newA C (aty := .boolean) w Z0 hd hp hn hcap hbig hc hl r
theorem own_stZ (C : own_Ctx p s m meth c Z own nm bytes maxL ret) {a : Addr} {n : Nat} {f : Nat → Int32} (V : own_AZ Z h a n f) {j : Int32} {i : Nat} {x : Int32} (hj : j.toInt = (i : Int)) (hi : i < n) (ga : n0 ≤ a) (hd : decode bytes pc = .ok (.bastore, 1)) (hp : pc + 1 = pc')
    (r : ∀ h', Wr h h' a i (.int (x &&& 1)) → own_AZ Z h' a n (own_upd f i (x &&& 1)) → own_Run p l e R s m args below meth c n0 Kf h' k q (mkF m pc' Ls rest)) : own_Run p l e R s m args below meth c n0 Kf h k q (mkF m pc Ls (.int x :: .int j :: .ref a :: rest)) := fun T locs X eT N => by
  subst hp
  obtain ⟨p1, p2⟩ := own_nat hj
  obtain ⟨hn, cl, A, S, H⟩ := id V
  obtain ⟨T1, h1, X1, e1, W1, st1⟩ := stZ X C.g_x C.g_z eT A (own_inb hj S hi) (g := mkF m pc Ls (.int x :: .int j :: .ref a :: rest)) rfl rfl (hb C.g_by hd)
  have W2 : Wr h h1 a i (.int (x &&& 1)) := by rw [← p2]; exact W1
  obtain ⟨t, o, h2, h3⟩ := r h1 W2 ((own_A.set V W2 hi).congr fun j hj => by by_cases e : j = i <;> simp [own_upd, e]) T1 _ X1 e1 (Fr.snoc X1 N ga)
  exact ⟨t, o, st1 _ h2, h3⟩
theorem own_lenZ (C : own_Ctx p s m meth c Z own nm bytes maxL ret) {a : Addr} {n : Nat} {f : Nat → Int32} (V : own_AZ Z h a n f) (hd : decode bytes pc = .ok (.arraylength, 1)) (hp : pc + 1 = pc') (r : own_Run p l e R s m args below meth c n0 Kf h k q (mkF m pc' Ls (.int (Nat.toInt32 n) :: rest))) : own_Run p l e R s m args below meth c n0 Kf h k q (mkF m pc Ls (.ref a :: rest)) := by
  obtain ⟨hn, cl, A, S, H⟩ := V
  subst hp
  rw [← S] at r
  exact own_st (fun T locs X eT t kk => X.arraylength C.g_x (by rw [eT]; exact A.1) (State.isArrayOf_alike C.g_z.alike A.2.1) (g := mkF m pc Ls (.ref a :: rest)) rfl rfl (hb C.g_by hd) t kk) r
theorem own_newAJ (C : own_Ctx p s m meth c Z own nm bytes maxL ret) (w : (Jvm.Cond.arrayClass .long).before a0 Z = true) (Z0 : n0 ≤ h.size) (hd : decode bytes pc = .ok (.newarray .long, 2)) (hp : pc + 2 = pc') {n : Int32} {nn cap : Nat} (hn : n.toInt = (nn : Int)) (hcap : nn ≤ cap) (hbig : cap * 8 ≤ 536870912) (hc : k + 1 ≤ R.cells) (hl : q + cap ≤ R.slots)
    (r : ∀ h' a, a = h.size → n0 ≤ a → n0 ≤ h'.size → Ext h h' → own_AJ Z h' a nn (fun _ => (0 : Int64)) → own_Run p l e R s m args below meth c n0 Kf h' (k + 1) (q + cap) (mkF m pc' Ls (.ref a :: rest))) : own_Run p l e R s m args below meth c n0 Kf h k q (mkF m pc Ls (.int n :: rest)) := own_newA C (aty := .long) w Z0 hd hp hn hcap hbig hc hl r
theorem own_stJ (C : own_Ctx p s m meth c Z own nm bytes maxL ret) {a : Addr} {n : Nat} {f : Nat → Int64} (V : own_AJ Z h a n f) {j : Int32} {i : Nat} {x : Int64} (hj : j.toInt = (i : Int)) (hi : i < n) (ga : n0 ≤ a) (hd : decode bytes pc = .ok (.lastore, 1)) (hp : pc + 1 = pc')
    (r : ∀ h', Wr h h' a i (.long x) → own_AJ Z h' a n (own_upd f i x) → own_Run p l e R s m args below meth c n0 Kf h' k q (mkF m pc' Ls rest)) : own_Run p l e R s m args below meth c n0 Kf h k q (mkF m pc Ls (.long x :: .int j :: .ref a :: rest)) := fun T locs X eT N => by
  subst hp
  obtain ⟨p1, p2⟩ := own_nat hj
  obtain ⟨hn, cl, A, S, H⟩ := id V
  obtain ⟨T1, h1, X1, e1, W1, st1⟩ := stJ X C.g_x C.g_z eT A (own_inb hj S hi) (g := mkF m pc Ls (.long x :: .int j :: .ref a :: rest)) rfl rfl (hb C.g_by hd)
  have W2 : Wr h h1 a i (.long x) := by rw [← p2]; exact W1
  obtain ⟨t, o, h2, h3⟩ := r h1 W2 ((own_A.set V W2 hi).congr fun j hj => by by_cases e : j = i <;> simp [own_upd, e]) T1 _ X1 e1 (Fr.snoc X1 N ga)
  exact ⟨t, o, st1 _ h2, h3⟩
theorem own_lenJ (C : own_Ctx p s m meth c Z own nm bytes maxL ret) {a : Addr} {n : Nat} {f : Nat → Int64} (V : own_AJ Z h a n f) (hd : decode bytes pc = .ok (.arraylength, 1)) (hp : pc + 1 = pc') (r : own_Run p l e R s m args below meth c n0 Kf h k q (mkF m pc' Ls (.int (Nat.toInt32 n) :: rest))) : own_Run p l e R s m args below meth c n0 Kf h k q (mkF m pc Ls (.ref a :: rest)) := by
  obtain ⟨hn, cl, A, S, H⟩ := V
  subst hp
  rw [← S] at r
  exact own_st (fun T locs X eT t kk => X.arraylength C.g_x (by rw [eT]; exact A.1) (State.isArrayOf_alike C.g_z.alike A.2.1) (g := mkF m pc Ls (.ref a :: rest)) rfl rfl (hb C.g_by hd) t kk) r
end Own

theorem own_succ (i : Nat) : Nat.toInt32 i + (1 : Int32) = Nat.toInt32 (i + 1) := by
  show Int32.ofNat i + Int32.ofNat 1 = Int32.ofNat (i + 1)
  rw [Int32.ofNat_add]
theorem own_ti {i : Nat} (hi : i < 2 ^ 31) : (Nat.toInt32 i).toInt = (i : Int) := len_toInt hi
theorem own_tlt {i n : Nat} (hi : i < 2 ^ 31) (hn : n < 2 ^ 31) : Nat.toInt32 i < Nat.toInt32 n ↔ i < n := by
  rw [Int32.lt_iff_toInt_lt, own_ti hi, own_ti hn]; omega
theorem own_nz {n : Int32} {N : Nat} (hn : n.toInt = (N : Int)) (h0 : 0 < N) : n ≠ 0 := by
  intro e; subst e
  have z : (0 : Int32).toInt = 0 := rfl
  omega
theorem own_pos (p : Int32) : ∃ P : Nat, (p &&& (2147483647 : Int32)).toInt = (P : Int) ∧ P < 2147483648 := by
  have h1 := (Jvm.RoadKit.c_andS p (2147483647 : Int32)).2.2 (by decide)
  have h2 := Int32.toInt_lt (p &&& (2147483647 : Int32))
  exact ⟨(p &&& (2147483647 : Int32)).toInt.toNat, by omega, by omega⟩
theorem own_mod {x n : Int32} {X N : Nat} (hx : x.toInt = (X : Int)) (hn : n.toInt = (N : Int)) (h0 : 0 < N) : (x % n).toInt = ((X % N : Nat) : Int) := by
  have h := Int32.toInt_lt n
  rw [Int32.toInt_mod, hx, hn, Int.tmod_eq_emod_of_nonneg (by omega)]
  rfl
theorem own_rem (p : Int32) {n : Int32} {N : Nat} (hn : n.toInt = (N : Int)) (h0 : 0 < N) : ∃ A : Nat, A < N ∧ ((p &&& (2147483647 : Int32)) % n).toInt = (A : Int) := by
  obtain ⟨P, hP, _⟩ := own_pos p
  exact ⟨P % N, Nat.mod_lt _ h0, own_mod hP hn h0⟩
theorem own_add {x y : Int32} {X Y : Nat} (hx : x.toInt = (X : Int)) (hy : y.toInt = (Y : Int)) (hb : X + Y < 2147483648) : (x + y).toInt = ((X + Y : Nat) : Int) := by
  rw [Jvm.Free.XT.add32 ⟨by rw [hx, hy]; omega, by rw [hx, hy]; omega⟩, hx, hy]; omega
theorem own_sub1 {x : Int32} {X : Nat} (hx : x.toInt = (X : Int)) (h0 : 0 < X) : (x - (1 : Int32)).toInt = ((X - 1 : Nat) : Int) := by
  have h := Int32.toInt_lt x
  have o : (1 : Int32).toInt = 1 := rfl
  rw [Jvm.Free.XT.sub32 ⟨by rw [hx, o]; omega, by rw [hx, o]; omega⟩, hx, o]; omega
theorem own_inj {x y : Int32} {X Y : Nat} (hx : x.toInt = (X : Int)) (hy : y.toInt = (Y : Int)) : x = y ↔ X = Y := by
  rw [← Int32.toInt_inj, hx, hy]; omega
theorem own_n9 (p : Int32) : ∃ N : Nat, 0 < N ∧ 2 ≤ N ∧ N ≤ 9 ∧ ((2 : Int32) + (p &&& (7 : Int32))).toInt = (N : Int) := by
  have h1 := (Jvm.RoadKit.c_andS p (7 : Int32)).2.2 (by decide)
  have h2 : (p &&& (7 : Int32)).toInt ≤ 7 := by
    have e : (p &&& (7 : Int32)).toBitVec = p.toBitVec &&& 7#32 := rfl
    have l : (p &&& (7 : Int32)).toBitVec.toNat ≤ 7 := by rw [e, BitVec.toNat_and]; exact Nat.and_le_right
    show (p &&& (7 : Int32)).toBitVec.toInt ≤ 7
    rw [BitVec.toInt_eq_toNat_cond]; split <;> omega
  have o : (2 : Int32).toInt = 2 := rfl
  refine ⟨2 + (p &&& (7 : Int32)).toInt.toNat, by omega, by omega, by omega, ?_⟩
  rw [Jvm.Free.XT.add32 ⟨by rw [o]; omega, by rw [o]; omega⟩, o]; omega
theorem own_b (p : Int32) {a n : Int32} {A N : Nat} (ha : a.toInt = (A : Int)) (hn : n.toInt = (N : Int)) (h1 : A < N) (h2 : 2 ≤ N) (h3 : N ≤ 9) : ∃ B : Nat, B < N ∧ B ≠ A ∧ (((a + (1 : Int32)) + ((p &&& (2147483647 : Int32)) % (n - (1 : Int32)))) % n).toInt = (B : Int) := by
  have e1 := own_sub1 hn (by omega)
  obtain ⟨D, hD, e2⟩ := own_rem p e1 (by omega)
  have e3 : (a + (1 : Int32)).toInt = ((A + 1 : Nat) : Int) := own_add ha (rfl : (1 : Int32).toInt = ((1 : Nat) : Int)) (by omega)
  have e4 := own_add e3 e2 (by omega)
  refine ⟨(A + 1 + D) % N, Nat.mod_lt _ (by omega), ?_, own_mod e4 hn (by omega)⟩
  by_cases c : A + 1 + D < N
  · rw [Nat.mod_eq_of_lt c]; omega
  · rw [Nat.mod_eq_sub_mod (by omega), Nat.mod_eq_of_lt (by omega)]; omega

theorem own_d1_0 : decode prog_28_method_1_code 0 = .ok (.aload_n 0, 1) := by decide +kernel
theorem own_d1_1 : decode prog_28_method_1_code 1 = .ok (.invokespecial 1, 3) := by decide +kernel
theorem own_d1_4 : decode prog_28_method_1_code 4 = .ok (.aload_n 0, 1) := by decide +kernel
theorem own_d1_5 : decode prog_28_method_1_code 5 = .ok (.iload_n 1, 1) := by decide +kernel
theorem own_d1_6 : decode prog_28_method_1_code 6 = .ok (.newarray .int, 2) := by decide +kernel
theorem own_d1_8 : decode prog_28_method_1_code 8 = .ok (.putfield 7, 3) := by decide +kernel
theorem own_d1_11 : decode prog_28_method_1_code 11 = .ok (.aload_n 0, 1) := by decide +kernel
theorem own_d1_12 : decode prog_28_method_1_code 12 = .ok (.iload_n 1, 1) := by decide +kernel
theorem own_d1_13 : decode prog_28_method_1_code 13 = .ok (.newarray .int, 2) := by decide +kernel
theorem own_d1_15 : decode prog_28_method_1_code 15 = .ok (.putfield 13, 3) := by decide +kernel
theorem own_d1_18 : decode prog_28_method_1_code 18 = .ok (.aload_n 0, 1) := by decide +kernel
theorem own_d1_19 : decode prog_28_method_1_code 19 = .ok (.getfield 13, 3) := by decide +kernel
theorem own_d1_22 : decode prog_28_method_1_code 22 = .ok (.iconst (-1), 1) := by decide +kernel
theorem own_d1_23 : decode prog_28_method_1_code 23 = .ok (.invokestatic 16, 3) := by decide +kernel
theorem own_d1_26 : decode prog_28_method_1_code 26 = .ok (.return_, 1) := by decide +kernel
theorem own_d3_0 : decode jdk_65_method_103_code 0 = .ok (.iconst 0, 1) := by decide +kernel
theorem own_d3_1 : decode jdk_65_method_103_code 1 = .ok (.istore_n 2, 1) := by decide +kernel
theorem own_d3_2 : decode jdk_65_method_103_code 2 = .ok (.aload_n 0, 1) := by decide +kernel
theorem own_d3_3 : decode jdk_65_method_103_code 3 = .ok (.arraylength, 1) := by decide +kernel
theorem own_d3_4 : decode jdk_65_method_103_code 4 = .ok (.istore_n 3, 1) := by decide +kernel
theorem own_d3_5 : decode jdk_65_method_103_code 5 = .ok (.iload_n 2, 1) := by decide +kernel
theorem own_d3_6 : decode jdk_65_method_103_code 6 = .ok (.iload_n 3, 1) := by decide +kernel
theorem own_d3_7 : decode jdk_65_method_103_code 7 = .ok (.if_icmp .ge 13, 3) := by decide +kernel
theorem own_d3_10 : decode jdk_65_method_103_code 10 = .ok (.aload_n 0, 1) := by decide +kernel
theorem own_d3_11 : decode jdk_65_method_103_code 11 = .ok (.iload_n 2, 1) := by decide +kernel
theorem own_d3_12 : decode jdk_65_method_103_code 12 = .ok (.iload_n 1, 1) := by decide +kernel
theorem own_d3_13 : decode jdk_65_method_103_code 13 = .ok (.iastore, 1) := by decide +kernel
theorem own_d3_14 : decode jdk_65_method_103_code 14 = .ok (.iinc 2 1, 3) := by decide +kernel
theorem own_d3_17 : decode jdk_65_method_103_code 17 = .ok (.goto (-12), 3) := by decide +kernel
theorem own_d3_20 : decode jdk_65_method_103_code 20 = .ok (.return_, 1) := by decide +kernel
theorem own_d4_0 : decode prog_28_method_5_code 0 = .ok (.aload_n 0, 1) := by decide +kernel
theorem own_d4_1 : decode prog_28_method_5_code 1 = .ok (.getfield 13, 3) := by decide +kernel
theorem own_d4_4 : decode prog_28_method_5_code 4 = .ok (.iload_n 1, 1) := by decide +kernel
theorem own_d4_5 : decode prog_28_method_5_code 5 = .ok (.aload_n 0, 1) := by decide +kernel
theorem own_d4_6 : decode prog_28_method_5_code 6 = .ok (.getfield 22, 3) := by decide +kernel
theorem own_d4_9 : decode prog_28_method_5_code 9 = .ok (.iastore, 1) := by decide +kernel
theorem own_d4_10 : decode prog_28_method_5_code 10 = .ok (.aload_n 0, 1) := by decide +kernel
theorem own_d4_11 : decode prog_28_method_5_code 11 = .ok (.getfield 7, 3) := by decide +kernel
theorem own_d4_14 : decode prog_28_method_5_code 14 = .ok (.aload_n 0, 1) := by decide +kernel
theorem own_d4_15 : decode prog_28_method_5_code 15 = .ok (.dup, 1) := by decide +kernel
theorem own_d4_16 : decode prog_28_method_5_code 16 = .ok (.getfield 22, 3) := by decide +kernel
theorem own_d4_19 : decode prog_28_method_5_code 19 = .ok (.dup_x1, 1) := by decide +kernel
theorem own_d4_20 : decode prog_28_method_5_code 20 = .ok (.iconst 1, 1) := by decide +kernel
theorem own_d4_21 : decode prog_28_method_5_code 21 = .ok (.iadd, 1) := by decide +kernel
theorem own_d4_22 : decode prog_28_method_5_code 22 = .ok (.putfield 22, 3) := by decide +kernel
theorem own_d4_25 : decode prog_28_method_5_code 25 = .ok (.iload_n 1, 1) := by decide +kernel
theorem own_d4_26 : decode prog_28_method_5_code 26 = .ok (.iastore, 1) := by decide +kernel
theorem own_d4_27 : decode prog_28_method_5_code 27 = .ok (.return_, 1) := by decide +kernel
theorem own_d5_0 : decode prog_28_method_2_code 0 = .ok (.aload_n 0, 1) := by decide +kernel
theorem own_d5_1 : decode prog_28_method_2_code 1 = .ok (.getfield 22, 3) := by decide +kernel
theorem own_d5_4 : decode prog_28_method_2_code 4 = .ok (.ireturn, 1) := by decide +kernel
theorem own_d6_0 : decode prog_28_method_4_code 0 = .ok (.aload_n 0, 1) := by decide +kernel
theorem own_d6_1 : decode prog_28_method_4_code 1 = .ok (.getfield 7, 3) := by decide +kernel
theorem own_d6_4 : decode prog_28_method_4_code 4 = .ok (.iload_n 1, 1) := by decide +kernel
theorem own_d6_5 : decode prog_28_method_4_code 5 = .ok (.iaload, 1) := by decide +kernel
theorem own_d6_6 : decode prog_28_method_4_code 6 = .ok (.ireturn, 1) := by decide +kernel
theorem own_d7_0 : decode prog_28_method_3_code 0 = .ok (.aload_n 0, 1) := by decide +kernel
theorem own_d7_1 : decode prog_28_method_3_code 1 = .ok (.getfield 13, 3) := by decide +kernel
theorem own_d7_4 : decode prog_28_method_3_code 4 = .ok (.iload_n 1, 1) := by decide +kernel
theorem own_d7_5 : decode prog_28_method_3_code 5 = .ok (.iaload, 1) := by decide +kernel
theorem own_d7_6 : decode prog_28_method_3_code 6 = .ok (.ifCond .lt 7, 3) := by decide +kernel
theorem own_d7_9 : decode prog_28_method_3_code 9 = .ok (.iconst 1, 1) := by decide +kernel
theorem own_d7_10 : decode prog_28_method_3_code 10 = .ok (.goto 4, 3) := by decide +kernel
theorem own_d7_13 : decode prog_28_method_3_code 13 = .ok (.iconst 0, 1) := by decide +kernel
theorem own_d7_14 : decode prog_28_method_3_code 14 = .ok (.ireturn, 1) := by decide +kernel
theorem own_d8_0 : decode prog_28_method_6_code 0 = .ok (.aload_n 0, 1) := by decide +kernel
theorem own_d8_1 : decode prog_28_method_6_code 1 = .ok (.getfield 13, 3) := by decide +kernel
theorem own_d8_4 : decode prog_28_method_6_code 4 = .ok (.iload_n 1, 1) := by decide +kernel
theorem own_d8_5 : decode prog_28_method_6_code 5 = .ok (.iaload, 1) := by decide +kernel
theorem own_d8_6 : decode prog_28_method_6_code 6 = .ok (.istore_n 2, 1) := by decide +kernel
theorem own_d8_7 : decode prog_28_method_6_code 7 = .ok (.aload_n 0, 1) := by decide +kernel
theorem own_d8_8 : decode prog_28_method_6_code 8 = .ok (.getfield 7, 3) := by decide +kernel
theorem own_d8_11 : decode prog_28_method_6_code 11 = .ok (.aload_n 0, 1) := by decide +kernel
theorem own_d8_12 : decode prog_28_method_6_code 12 = .ok (.dup, 1) := by decide +kernel
theorem own_d8_13 : decode prog_28_method_6_code 13 = .ok (.getfield 22, 3) := by decide +kernel
theorem own_d8_16 : decode prog_28_method_6_code 16 = .ok (.iconst 1, 1) := by decide +kernel
theorem own_d8_17 : decode prog_28_method_6_code 17 = .ok (.isub, 1) := by decide +kernel
theorem own_d8_18 : decode prog_28_method_6_code 18 = .ok (.dup_x1, 1) := by decide +kernel
theorem own_d8_19 : decode prog_28_method_6_code 19 = .ok (.putfield 22, 3) := by decide +kernel
theorem own_d8_22 : decode prog_28_method_6_code 22 = .ok (.iaload, 1) := by decide +kernel
theorem own_d8_23 : decode prog_28_method_6_code 23 = .ok (.istore_n 3, 1) := by decide +kernel
theorem own_d8_24 : decode prog_28_method_6_code 24 = .ok (.aload_n 0, 1) := by decide +kernel
theorem own_d8_25 : decode prog_28_method_6_code 25 = .ok (.getfield 7, 3) := by decide +kernel
theorem own_d8_28 : decode prog_28_method_6_code 28 = .ok (.iload_n 2, 1) := by decide +kernel
theorem own_d8_29 : decode prog_28_method_6_code 29 = .ok (.iload_n 3, 1) := by decide +kernel
theorem own_d8_30 : decode prog_28_method_6_code 30 = .ok (.iastore, 1) := by decide +kernel
theorem own_d8_31 : decode prog_28_method_6_code 31 = .ok (.aload_n 0, 1) := by decide +kernel
theorem own_d8_32 : decode prog_28_method_6_code 32 = .ok (.getfield 13, 3) := by decide +kernel
theorem own_d8_35 : decode prog_28_method_6_code 35 = .ok (.iload_n 3, 1) := by decide +kernel
theorem own_d8_36 : decode prog_28_method_6_code 36 = .ok (.iload_n 2, 1) := by decide +kernel
theorem own_d8_37 : decode prog_28_method_6_code 37 = .ok (.iastore, 1) := by decide +kernel
theorem own_d8_38 : decode prog_28_method_6_code 38 = .ok (.aload_n 0, 1) := by decide +kernel
theorem own_d8_39 : decode prog_28_method_6_code 39 = .ok (.getfield 13, 3) := by decide +kernel
theorem own_d8_42 : decode prog_28_method_6_code 42 = .ok (.iload_n 1, 1) := by decide +kernel
theorem own_d8_43 : decode prog_28_method_6_code 43 = .ok (.iconst (-1), 1) := by decide +kernel
theorem own_d8_44 : decode prog_28_method_6_code 44 = .ok (.iastore, 1) := by decide +kernel
theorem own_d8_45 : decode prog_28_method_6_code 45 = .ok (.return_, 1) := by decide +kernel
theorem own_pn0 : plainName "java/util/Arrays" = true := by first | (simp [plainName, overriddenIn]; done) | decide +kernel
theorem own_pn1 : plainName "com/example/murmuration/murmuration/search/IndexedSet" = true := by first | (simp [plainName, overriddenIn]; done) | decide +kernel
theorem own_pn2 : plainName "com/example/murmuration/murmuration/search/IndexedSetAddPinLaw" = true := by first | (simp [plainName, overriddenIn]; done) | decide +kernel
theorem own_pd0 : parseMethodDescriptor "([II)V" = some ⟨[(.array .int), .int], none⟩ := by decide +kernel
theorem own_pd1 : parseMethodDescriptor "(I)V" = some ⟨[.int], none⟩ := by decide +kernel
theorem own_pd2 : parseMethodDescriptor "()I" = some ⟨[], some .int⟩ := by decide +kernel
theorem own_pd3 : parseMethodDescriptor "(I)I" = some ⟨[.int], some .int⟩ := by decide +kernel
theorem own_pd4 : parseMethodDescriptor "(I)Z" = some ⟨[.int], some .boolean⟩ := by decide +kernel
set_option maxRecDepth 65536 in
set_option maxHeartbeats 40000000 in
theorem own_m3 {l : Launch} {Z : State} {a0 : Array Value} (hw : ∀ d ∈ tables_1, d.before a0 Z = true) {n0 : Nat} {ws : List Jvm.Cond} {h : Heap} (a : Addr) (x : Int32) (n : Nat) (f : Nat → Int32) (Z0 : n0 ≤ h.size) (f0 : n0 ≤ a) (f1 : own_AI Z h a n f) :
    own_Met l Z n0 (⟨"java/util/Arrays", "fill", "([II)V"⟩ : MethodName) jdk_65_method_103_code 4 none ({ frames := 0, cells := 0, slots := 0, locals := 0 } : Room) ws #[(.ref a), (.int x)] h (fun v h' => (v = none) ∧ (Keep h h' [a]) ∧ (own_AI Z h' a n (fun _ => x))) := by
  refine own_met own_pn0 #[.val (.ref a), .val (.int x), .unset, .unset] (fun m => by first | (simp [entryFrame, mkF, argsToLocals, Value.category]; done) | rfl) ?_
  intro p_ e_ s_ m_ b_ mt_ c_ C
  replace C : own_Ctx p_ s_ m_ mt_ c_ Z "java/util/Arrays" "fill" jdk_65_method_103_code 4 none := C
  have K0 : Keep h h [a] := Keep.refl _ _
  refine own_iconst C (pc' := 1) (v := (0 : Int32)) own_d3_0 rfl (by decide) ?_
  refine own_istoreN C (pc' := 2) (Ls' := #[.val (.ref a), .val (.int x), .val (.int (0 : Int32)), .unset]) own_d3_1 rfl rfl ?_
  refine own_aloadN C (pc' := 3) own_d3_2 rfl rfl rfl ?_
  refine own_lenI C (pc' := 4) f1 own_d3_3 rfl ?_
  refine own_istoreN C (pc' := 5) (Ls' := #[.val (.ref a), .val (.int x), .val (.int (0 : Int32)), .val (.int (Nat.toInt32 n))]) own_d3_4 rfl rfl ?_
  have hn : n < 2 ^ 31 := f1.1
  have loop : ∀ (t i : Nat) (hh : Heap) (g : Nat → Int32), t + i = n → own_AI Z hh a n g → (∀ j, j < i → g j = x) → Keep h hh [a] → n0 ≤ hh.size → own_Run p_ l e_ ({ frames := 0, cells := 0, slots := 0, locals := 0 } : Room) s_ m_ #[(.ref a), (.int x)] b_ mt_ c_ n0 (own_K b_ ({ frames := 0, cells := 0, slots := 0, locals := 0 } : Room) s_ n0 (fun v h' => (v = none) ∧ (Keep h h' [a]) ∧ (own_AI Z h' a n (fun _ => x)))) hh 0 0 (mkF m_ 5 #[.val (.ref a), .val (.int x), .val (.int (Nat.toInt32 i)), .val (.int (Nat.toInt32 n))] []) := by
    intro t; induction t with
    | zero =>
      intro i hh g ht V hg K Z1
      refine own_iloadN C (pc' := 6) own_d3_5 rfl rfl ?_
      refine own_iloadN C (pc' := 7) own_d3_6 rfl rfl ?_
      refine own_ii_ge C (pc1 := 20) (pc2 := 10) own_d3_7 rfl rfl (fun c1 => ?_) (fun c1 => absurd c1 (by rw [own_tlt (by omega) hn]; omega))
      exact own_retV C rfl own_d3_20 (by decide) (by decide) (⟨rfl, K, (own_A.congr V fun j hj => congrArg _ (hg j (by omega)))⟩)
    | succ t ih =>
      intro i hh g ht V hg K Z1
      refine own_iloadN C (pc' := 6) own_d3_5 rfl rfl ?_
      refine own_iloadN C (pc' := 7) own_d3_6 rfl rfl ?_
      refine own_ii_ge C (pc1 := 20) (pc2 := 10) own_d3_7 rfl rfl (fun c2 => absurd c2 (by rw [own_tlt (by omega) hn]; exact not_not_intro (by omega))) (fun c2 => ?_)
      refine own_aloadN C (pc' := 11) own_d3_10 rfl rfl rfl ?_
      refine own_iloadN C (pc' := 12) own_d3_11 rfl rfl ?_
      refine own_iloadN C (pc' := 13) own_d3_12 rfl rfl ?_
      refine own_stI C (pc' := 14) V (i := i) (own_ti (by omega)) (by omega) f0 own_d3_13 rfl (fun h3 W4 V5 => ?_)
      have Z6 : n0 ≤ h3.size := Nat.le_trans Z1 (Nat.le_of_eq (Wr.size W4).symm)
      have K7 := Keep.wr K W4 (Or.inl (List.mem_of_getElem? (i := 0) rfl))
      have F8 : own_AI Z h3 a n (own_upd g i x) := V5
      refine own_iinc C (pc' := 17) (w := (1 : Int32)) (Ls' := #[.val (.ref a), .val (.int x), .val (.int ((Nat.toInt32 i) + (1 : Int32))), .val (.int (Nat.toInt32 n))]) own_d3_14 rfl (by decide) rfl rfl ?_
      refine own_goto C (pc' := 5) own_d3_17 rfl ?_
      rw [own_succ]
      exact ih (i + 1) h3 (own_upd g i x) (by omega) F8 (fun j hj => by by_cases e : j = i <;> simp [own_upd, e] <;> exact hg j (by omega)) K7 Z6
  exact loop n 0 h f rfl f1 (fun j hj => absurd hj (Nat.not_lt_zero j)) K0 Z0
set_option maxRecDepth 65536 in
set_option maxHeartbeats 40000000 in
theorem own_m1 {l : Launch} {Z : State} {a0 : Array Value} (hw : ∀ d ∈ tables_1, d.before a0 Z = true) {n0 : Nat} {ws : List Jvm.Cond} {h : Heap} (a : Addr) (N : Int32) (nn : Nat) (Z0 : n0 ≤ h.size) (f0 : Exa Z h a "com/example/murmuration/murmuration/search/IndexedSet") (f1 : n0 ≤ a) (f2 : Fld Z h a "com/example/murmuration/murmuration/search/IndexedSet" "members" "[I" .null) (f3 : Fld Z h a "com/example/murmuration/murmuration/search/IndexedSet" "positions" "[I" .null) (f4 : Fld Z h a "com/example/murmuration/murmuration/search/IndexedSet" "size" "I" (.int (0 : Int32))) (hN : N.toInt = (nn : Int)) (hcap : nn ≤ 9) :
    own_Met l Z n0 (⟨"com/example/murmuration/murmuration/search/IndexedSet", "<init>", "(I)V"⟩ : MethodName) prog_28_method_1_code 2 none ({ frames := 1, cells := 2, slots := 18, locals := 15 } : Room) ws #[(.ref a), (.int N)] h (fun v h' => ∃ mem : Addr, ∃ pos : Addr, (v = none) ∧ (Keep h h' [a]) ∧ (n0 ≤ mem ∧ h.size ≤ mem) ∧ (n0 ≤ pos ∧ h.size ≤ pos) ∧ (Exa Z h' a "com/example/murmuration/murmuration/search/IndexedSet") ∧ (Fld Z h' a "com/example/murmuration/murmuration/search/IndexedSet" "members" "[I" (.ref mem)) ∧ (Fld Z h' a "com/example/murmuration/murmuration/search/IndexedSet" "positions" "[I" (.ref pos)) ∧ (Fld Z h' a "com/example/murmuration/murmuration/search/IndexedSet" "size" "I" (.int (0 : Int32))) ∧ (own_AI Z h' mem nn (fun _ => (0 : Int32))) ∧ (own_AI Z h' pos nn (fun _ => (-1 : Int32))) ∧ (a ≠ mem) ∧ (a ≠ pos) ∧ (mem ≠ pos)) := by
  refine own_met own_pn1 #[.val (.ref a), .val (.int N)] (fun m => by first | (simp [entryFrame, mkF, argsToLocals, Value.category]; done) | rfl) ?_
  intro p_ e_ s_ m_ b_ mt_ c_ C
  replace C : own_Ctx p_ s_ m_ mt_ c_ Z "com/example/murmuration/murmuration/search/IndexedSet" "<init>" prog_28_method_1_code 2 none := C
  have K0 : Keep h h [a] := Keep.refl _ _
  refine own_aloadN C (pc' := 1) own_d1_0 rfl rfl rfl ?_
  refine own_initO C (pc' := 4) (W := 0) (hw _ (List.mem_of_getElem? (i := 7) rfl)) (hw _ (List.mem_of_getElem? (i := 8) rfl)) (hw _ (List.mem_of_getElem? (i := 9) rfl)) own_d1_1 rfl rfl (by decide) (Nat.le_of_eq rfl) (by decide) ?_
  refine own_aloadN C (pc' := 5) own_d1_4 rfl rfl rfl ?_
  refine own_iloadN C (pc' := 6) own_d1_5 rfl rfl ?_
  refine own_newAI C (pc' := 8) (hw _ (List.mem_of_getElem? (i := 10) rfl)) Z0 own_d1_6 rfl (nn := nn) (cap := 9) hN hcap (by decide) (by decide) (by decide) (fun h9 a10 ea11 ga12 Z13 E14 V15 => ?_)
  have ne16 : a ≠ a10 := by rw [ea11]; exact Nat.ne_of_lt (Exa.lt f0)
  have F17 : Exa Z h9 a "com/example/murmuration/murmuration/search/IndexedSet" := Exa.ext E14 f0
  have F18 : Fld Z h9 a "com/example/murmuration/murmuration/search/IndexedSet" "members" "[I" .null := Fld.ext E14 f2
  have F19 : Fld Z h9 a "com/example/murmuration/murmuration/search/IndexedSet" "positions" "[I" .null := Fld.ext E14 f3
  have F20 : Fld Z h9 a "com/example/murmuration/murmuration/search/IndexedSet" "size" "I" (.int (0 : Int32)) := Fld.ext E14 f4
  have gk22 : h.size ≤ a10 := by rw [ea11]; exact K0.1
  have K21 := Keep.ext K0 E14
  refine own_putF C (pc' := 11) (hw _ (List.mem_of_getElem? (i := 11) rfl)) F18 F17 (Or.inr ⟨(hw _ (List.mem_of_getElem? (i := 12) rfl)), rfl, rfl⟩) (hw _ (List.mem_of_getElem? (i := 2) rfl)) (ty := (.array .int)) (by decide) rfl rfl f1 own_d1_8 rfl (fun h23 W24 => ?_)
  have Z25 : n0 ≤ h23.size := Nat.le_trans Z13 (Nat.le_of_eq (Wr.size W24).symm)
  have K26 := Keep.wr K21 W24 (Or.inl (List.mem_of_getElem? (i := 0) rfl))
  have F27 : Exa Z h23 a "com/example/murmuration/murmuration/search/IndexedSet" := Exa.wr W24 F17
  have F28 : Fld Z h23 a "com/example/murmuration/murmuration/search/IndexedSet" "members" "[I" (.ref a10) := Fld.same W24 F18
  have F29 : Fld Z h23 a "com/example/murmuration/murmuration/search/IndexedSet" "positions" "[I" .null := Fld.other W24 F19 (Or.inr (slot_ne (Or.inr (hw _ (List.mem_of_getElem? (i := 14) rfl))) (Or.inr (hw _ (List.mem_of_getElem? (i := 12) rfl))) (by decide) (t := (.array .int)) (t' := (.array .int)) (by decide) (by decide)))
  have F30 : Fld Z h23 a "com/example/murmuration/murmuration/search/IndexedSet" "size" "I" (.int (0 : Int32)) := Fld.other W24 F20 (Or.inr (slot_ne (Or.inl (hw _ (List.mem_of_getElem? (i := 25) rfl))) (Or.inr (hw _ (List.mem_of_getElem? (i := 12) rfl))) (by decide) (t := .int) (t' := (.array .int)) (by decide) (by decide)))
  have F31 : own_AI Z h23 a10 nn (fun _ => (0 : Int32)) := own_A.other V15 W24 (Ne.symm ne16)
  refine own_aloadN C (pc' := 12) own_d1_11 rfl rfl rfl ?_
  refine own_iloadN C (pc' := 13) own_d1_12 rfl rfl ?_
  refine own_newAI C (pc' := 15) (hw _ (List.mem_of_getElem? (i := 10) rfl)) Z25 own_d1_13 rfl (nn := nn) (cap := 9) hN hcap (by decide) (by decide) (by decide) (fun h32 a33 ea34 ga35 Z36 E37 V38 => ?_)
  have ne39 : a ≠ a33 := by rw [ea34]; exact Nat.ne_of_lt (Exa.lt F27)
  have ne40 : a10 ≠ a33 := by rw [ea34]; exact Nat.ne_of_lt (own_A.lt F31)
  have F41 : Exa Z h32 a "com/example/murmuration/murmuration/search/IndexedSet" := Exa.ext E37 F27
  have F42 : Fld Z h32 a "com/example/murmuration/murmuration/search/IndexedSet" "members" "[I" (.ref a10) := Fld.ext E37 F28
  have F43 : Fld Z h32 a "com/example/murmuration/murmuration/search/IndexedSet" "positions" "[I" .null := Fld.ext E37 F29
  have F44 : Fld Z h32 a "com/example/murmuration/murmuration/search/IndexedSet" "size" "I" (.int (0 : Int32)) := Fld.ext E37 F30
  have F45 : own_AI Z h32 a10 nn (fun _ => (0 : Int32)) := own_A.ext F31 E37
  have gk47 : h.size ≤ a33 := by rw [ea34]; exact K26.1
  have K46 := Keep.ext K26 E37
  refine own_putF C (pc' := 18) (hw _ (List.mem_of_getElem? (i := 13) rfl)) F43 F41 (Or.inr ⟨(hw _ (List.mem_of_getElem? (i := 14) rfl)), rfl, rfl⟩) (hw _ (List.mem_of_getElem? (i := 2) rfl)) (ty := (.array .int)) (by decide) rfl rfl f1 own_d1_15 rfl (fun h48 W49 => ?_)
  have Z50 : n0 ≤ h48.size := Nat.le_trans Z36 (Nat.le_of_eq (Wr.size W49).symm)
  have K51 := Keep.wr K46 W49 (Or.inl (List.mem_of_getElem? (i := 0) rfl))
  have F52 : Exa Z h48 a "com/example/murmuration/murmuration/search/IndexedSet" := Exa.wr W49 F41
  have F53 : Fld Z h48 a "com/example/murmuration/murmuration/search/IndexedSet" "members" "[I" (.ref a10) := Fld.other W49 F42 (Or.inr (slot_ne (Or.inr (hw _ (List.mem_of_getElem? (i := 12) rfl))) (Or.inr (hw _ (List.mem_of_getElem? (i := 14) rfl))) (by decide) (t := (.array .int)) (t' := (.array .int)) (by decide) (by decide)))
  have F54 : Fld Z h48 a "com/example/murmuration/murmuration/search/IndexedSet" "positions" "[I" (.ref a33) := Fld.same W49 F43
  have F55 : Fld Z h48 a "com/example/murmuration/murmuration/search/IndexedSet" "size" "I" (.int (0 : Int32)) := Fld.other W49 F44 (Or.inr (slot_ne (Or.inl (hw _ (List.mem_of_getElem? (i := 25) rfl))) (Or.inr (hw _ (List.mem_of_getElem? (i := 14) rfl))) (by decide) (t := .int) (t' := (.array .int)) (by decide) (by decide)))
  have F56 : own_AI Z h48 a10 nn (fun _ => (0 : Int32)) := own_A.other F45 W49 (Ne.symm ne16)
  have F57 : own_AI Z h48 a33 nn (fun _ => (0 : Int32)) := own_A.other V38 W49 (Ne.symm ne39)
  refine own_aloadN C (pc' := 19) own_d1_18 rfl rfl rfl ?_
  refine own_getF C (pc' := 22) (hw _ (List.mem_of_getElem? (i := 13) rfl)) F54 own_d1_19 rfl ?_
  refine own_iconst C (pc' := 23) (v := (-1 : Int32)) own_d1_22 rfl (by decide) ?_
  refine own_callS C (pc' := 26) (y := (⟨"java/util/Arrays", "fill", "([II)V"⟩ : MethodName)) (argsL := [(.ref a33), (.int (-1 : Int32))]) (rest := []) 0 (hw _ (List.mem_of_getElem? (i := 15) rfl)) (hw _ (List.mem_of_getElem? (i := 16) rfl)) (hw _ (List.mem_of_getElem? (i := 17) rfl)) (hw _ (List.mem_of_getElem? (i := 18) rfl)) (by decide) (own_m3 hw a33 (-1 : Int32) nn (fun _ => (0 : Int32)) Z50 ga35 F57 ) (by decide) (by decide) (lenOf own_pd0 rfl) rfl (Nat.le_of_eq rfl) own_d1_23 rfl rfl (by decide) (by decide) (fun v58 h59 hq60 => ?_)
  obtain ⟨rfl, K61, F62⟩ := hq60
  have K64 := Keep.trans K51 K61 (allS (Or.inr gk47) all0)
  have Z65 : n0 ≤ h59.size := Nat.le_trans Z50 K61.1
  have F66 : Exa Z h59 a "com/example/murmuration/murmuration/search/IndexedSet" := Exa.keep F52 K61
  have F67 : Fld Z h59 a "com/example/murmuration/murmuration/search/IndexedSet" "members" "[I" (.ref a10) := Fld.keep F53 K61 (ninS ne39 nin0)
  have F68 : Fld Z h59 a "com/example/murmuration/murmuration/search/IndexedSet" "positions" "[I" (.ref a33) := Fld.keep F54 K61 (ninS ne39 nin0)
  have F69 : Fld Z h59 a "com/example/murmuration/murmuration/search/IndexedSet" "size" "I" (.int (0 : Int32)) := Fld.keep F55 K61 (ninS ne39 nin0)
  have F70 : own_AI Z h59 a10 nn (fun _ => (0 : Int32)) := own_A.keep F56 K61 (ninS ne40 nin0)
  show own_Run p_ l e_ _ s_ m_ _ b_ mt_ c_ n0 _ h59 _ _ (mkF m_ 26 #[.val (.ref a), .val (.int N)] [])
  exact own_retV C rfl own_d1_26 (by decide) (by decide) (⟨a10, a33, rfl, K64, ⟨ga12, gk22⟩, ⟨ga35, gk47⟩, F66, F67, F68, F69, F70, F62, ne16, ne39, ne40⟩)
set_option maxRecDepth 65536 in
set_option maxHeartbeats 40000000 in
theorem own_m4 {l : Launch} {Z : State} {a0 : Array Value} (hw : ∀ d ∈ tables_1, d.before a0 Z = true) {n0 : Nat} {ws : List Jvm.Cond} {h : Heap} (a : Addr) (mem : Addr) (pos : Addr) (n : Nat) (sz : Int32) (fm : Nat → Int32) (fp : Nat → Int32) (x : Int32) (xn : Nat) (sn : Nat) (sz' : Int32) (Z0 : n0 ≤ h.size) (f0 : Exa Z h a "com/example/murmuration/murmuration/search/IndexedSet") (f1 : n0 ≤ a) (f2 : n0 ≤ mem) (f3 : n0 ≤ pos) (f4 : a ≠ mem) (f5 : a ≠ pos) (f6 : mem ≠ pos) (f7 : Fld Z h a "com/example/murmuration/murmuration/search/IndexedSet" "members" "[I" (.ref mem)) (f8 : Fld Z h a "com/example/murmuration/murmuration/search/IndexedSet" "positions" "[I" (.ref pos)) (f9 : Fld Z h a "com/example/murmuration/murmuration/search/IndexedSet" "size" "I" (.int sz)) (f10 : own_AI Z h mem n fm) (f11 : own_AI Z h pos n fp) (hx : x.toInt = (xn : Int)) (hxn : xn < n) (hs : sz.toInt = (sn : Int)) (hsn : sn < n) (hsz : sz + (1 : Int32) = sz') :
    own_Met l Z n0 (⟨"com/example/murmuration/murmuration/search/IndexedSet", "add", "(I)V"⟩ : MethodName) prog_28_method_5_code 2 none ({ frames := 0, cells := 0, slots := 0, locals := 0 } : Room) ws #[(.ref a), (.int x)] h (fun v h' => (v = none) ∧ (Keep h h' [a, mem, pos]) ∧ (Exa Z h' a "com/example/murmuration/murmuration/search/IndexedSet") ∧ (Fld Z h' a "com/example/murmuration/murmuration/search/IndexedSet" "members" "[I" (.ref mem)) ∧ (Fld Z h' a "com/example/murmuration/murmuration/search/IndexedSet" "positions" "[I" (.ref pos)) ∧ (Fld Z h' a "com/example/murmuration/murmuration/search/IndexedSet" "size" "I" (.int sz')) ∧ (own_AI Z h' mem n (own_upd fm sn x)) ∧ (own_AI Z h' pos n (own_upd fp xn sz))) := by
  refine own_met own_pn1 #[.val (.ref a), .val (.int x)] (fun m => by first | (simp [entryFrame, mkF, argsToLocals, Value.category]; done) | rfl) ?_
  intro p_ e_ s_ m_ b_ mt_ c_ C
  replace C : own_Ctx p_ s_ m_ mt_ c_ Z "com/example/murmuration/murmuration/search/IndexedSet" "add" prog_28_method_5_code 2 none := C
  have K0 : Keep h h [a, mem, pos] := Keep.refl _ _
  refine own_aloadN C (pc' := 1) own_d4_0 rfl rfl rfl ?_
  refine own_getF C (pc' := 4) (hw _ (List.mem_of_getElem? (i := 13) rfl)) f8 own_d4_1 rfl ?_
  refine own_iloadN C (pc' := 5) own_d4_4 rfl rfl ?_
  refine own_aloadN C (pc' := 6) own_d4_5 rfl rfl rfl ?_
  refine own_getF C (pc' := 9) (hw _ (List.mem_of_getElem? (i := 24) rfl)) f9 own_d4_6 rfl ?_
  refine own_stI C (pc' := 10) f11 (i := xn) hx hxn f3 own_d4_9 rfl (fun h71 W72 V73 => ?_)
  have Z74 : n0 ≤ h71.size := Nat.le_trans Z0 (Nat.le_of_eq (Wr.size W72).symm)
  have K75 := Keep.wr K0 W72 (Or.inl (List.mem_of_getElem? (i := 2) rfl))
  have F76 : Exa Z h71 a "com/example/murmuration/murmuration/search/IndexedSet" := Exa.wr W72 f0
  have F77 : Fld Z h71 a "com/example/murmuration/murmuration/search/IndexedSet" "members" "[I" (.ref mem) := Fld.other W72 f7 (Or.inl f5)
  have F78 : Fld Z h71 a "com/example/murmuration/murmuration/search/IndexedSet" "positions" "[I" (.ref pos) := Fld.other W72 f8 (Or.inl f5)
  have F79 : Fld Z h71 a "com/example/murmuration/murmuration/search/IndexedSet" "size" "I" (.int sz) := Fld.other W72 f9 (Or.inl f5)
  have F80 : own_AI Z h71 mem n fm := own_A.other f10 W72 f6
  have F81 : own_AI Z h71 pos n (own_upd fp xn sz) := V73
  refine own_aloadN C (pc' := 11) own_d4_10 rfl rfl rfl ?_
  refine own_getF C (pc' := 14) (hw _ (List.mem_of_getElem? (i := 11) rfl)) F77 own_d4_11 rfl ?_
  refine own_aloadN C (pc' := 15) own_d4_14 rfl rfl rfl ?_
  refine own_dup C (pc' := 16) own_d4_15 rfl rfl ?_
  refine own_getF C (pc' := 19) (hw _ (List.mem_of_getElem? (i := 24) rfl)) F79 own_d4_16 rfl ?_
  refine own_dupX1 C (pc' := 20) own_d4_19 rfl rfl rfl ?_
  refine own_iconst C (pc' := 21) (v := (1 : Int32)) own_d4_20 rfl (by decide) ?_
  refine own_iadd C (pc' := 22) own_d4_21 rfl ?_
  refine own_putF C (pc' := 25) (hw _ (List.mem_of_getElem? (i := 24) rfl)) F79 F76 (Or.inl (hw _ (List.mem_of_getElem? (i := 25) rfl))) (hw _ (List.mem_of_getElem? (i := 2) rfl)) (ty := .int) (by decide) rfl rfl f1 own_d4_22 rfl (fun h82 W83 => ?_)
  have Z84 : n0 ≤ h82.size := Nat.le_trans Z74 (Nat.le_of_eq (Wr.size W83).symm)
  have K85 := Keep.wr K75 W83 (Or.inl (List.mem_of_getElem? (i := 0) rfl))
  have F86 : Exa Z h82 a "com/example/murmuration/murmuration/search/IndexedSet" := Exa.wr W83 F76
  have F87 : Fld Z h82 a "com/example/murmuration/murmuration/search/IndexedSet" "members" "[I" (.ref mem) := Fld.other W83 F77 (Or.inr (slot_ne (Or.inr (hw _ (List.mem_of_getElem? (i := 12) rfl))) (Or.inl (hw _ (List.mem_of_getElem? (i := 25) rfl))) (by decide) (t := (.array .int)) (t' := .int) (by decide) (by decide)))
  have F88 : Fld Z h82 a "com/example/murmuration/murmuration/search/IndexedSet" "positions" "[I" (.ref pos) := Fld.other W83 F78 (Or.inr (slot_ne (Or.inr (hw _ (List.mem_of_getElem? (i := 14) rfl))) (Or.inl (hw _ (List.mem_of_getElem? (i := 25) rfl))) (by decide) (t := (.array .int)) (t' := .int) (by decide) (by decide)))
  have F89 : Fld Z h82 a "com/example/murmuration/murmuration/search/IndexedSet" "size" "I" (.int (sz + (1 : Int32))) := Fld.same W83 F79
  have F90 : own_AI Z h82 mem n fm := own_A.other F80 W83 (Ne.symm f4)
  have F91 : own_AI Z h82 pos n (own_upd fp xn sz) := own_A.other F81 W83 (Ne.symm f5)
  refine own_iloadN C (pc' := 26) own_d4_25 rfl rfl ?_
  refine own_stI C (pc' := 27) F90 (i := sn) hs hsn f2 own_d4_26 rfl (fun h92 W93 V94 => ?_)
  have Z95 : n0 ≤ h92.size := Nat.le_trans Z84 (Nat.le_of_eq (Wr.size W93).symm)
  have K96 := Keep.wr K85 W93 (Or.inl (List.mem_of_getElem? (i := 1) rfl))
  have F97 : Exa Z h92 a "com/example/murmuration/murmuration/search/IndexedSet" := Exa.wr W93 F86
  have F98 : Fld Z h92 a "com/example/murmuration/murmuration/search/IndexedSet" "members" "[I" (.ref mem) := Fld.other W93 F87 (Or.inl f4)
  have F99 : Fld Z h92 a "com/example/murmuration/murmuration/search/IndexedSet" "positions" "[I" (.ref pos) := Fld.other W93 F88 (Or.inl f4)
  have F100 : Fld Z h92 a "com/example/murmuration/murmuration/search/IndexedSet" "size" "I" (.int (sz + (1 : Int32))) := Fld.other W93 F89 (Or.inl f4)
  have F101 : own_AI Z h92 mem n (own_upd fm sn x) := V94
  have F102 : own_AI Z h92 pos n (own_upd fp xn sz) := own_A.other F91 W93 (Ne.symm f6)
  exact own_retV C rfl own_d4_27 (by decide) (by decide) (⟨rfl, K96, F97, F98, F99, (by rw [← hsz]; exact F100), F101, F102⟩)
set_option maxRecDepth 65536 in
set_option maxHeartbeats 40000000 in
theorem own_m5 {l : Launch} {Z : State} {a0 : Array Value} (hw : ∀ d ∈ tables_1, d.before a0 Z = true) {n0 : Nat} {ws : List Jvm.Cond} {h : Heap} (a : Addr) (w : Int32) (Z0 : n0 ≤ h.size) (f0 : Fld Z h a "com/example/murmuration/murmuration/search/IndexedSet" "size" "I" (.int w)) :
    own_Met l Z n0 (⟨"com/example/murmuration/murmuration/search/IndexedSet", "size", "()I"⟩ : MethodName) prog_28_method_2_code 1 (some .int) ({ frames := 0, cells := 0, slots := 0, locals := 0 } : Room) ws #[(.ref a)] h (fun v h' => (v = some (.int w)) ∧ (h = h')) := by
  refine own_met own_pn1 #[.val (.ref a)] (fun m => by first | (simp [entryFrame, mkF, argsToLocals, Value.category]; done) | rfl) ?_
  intro p_ e_ s_ m_ b_ mt_ c_ C
  replace C : own_Ctx p_ s_ m_ mt_ c_ Z "com/example/murmuration/murmuration/search/IndexedSet" "size" prog_28_method_2_code 1 (some .int) := C
  refine own_aloadN C (pc' := 1) own_d5_0 rfl rfl rfl ?_
  refine own_getF C (pc' := 4) (hw _ (List.mem_of_getElem? (i := 24) rfl)) f0 own_d5_1 rfl ?_
  exact own_ret C (t := .int) rfl rfl (Or.inl ⟨rfl, by simp, _, rfl⟩) own_d5_4 (by decide) (by decide) (⟨rfl, rfl⟩)
set_option maxRecDepth 65536 in
set_option maxHeartbeats 40000000 in
theorem own_m6 {l : Launch} {Z : State} {a0 : Array Value} (hw : ∀ d ∈ tables_1, d.before a0 Z = true) {n0 : Nat} {ws : List Jvm.Cond} {h : Heap} (a : Addr) (mem : Addr) (n : Nat) (fm : Nat → Int32) (x : Int32) (xn : Nat) (r : Int32) (Z0 : n0 ≤ h.size) (f0 : Fld Z h a "com/example/murmuration/murmuration/search/IndexedSet" "members" "[I" (.ref mem)) (f1 : own_AI Z h mem n fm) (hx : x.toInt = (xn : Int)) (hxn : xn < n) (hr : fm xn = r) :
    own_Met l Z n0 (⟨"com/example/murmuration/murmuration/search/IndexedSet", "get", "(I)I"⟩ : MethodName) prog_28_method_4_code 2 (some .int) ({ frames := 0, cells := 0, slots := 0, locals := 0 } : Room) ws #[(.ref a), (.int x)] h (fun v h' => (v = some (.int r)) ∧ (h = h')) := by
  refine own_met own_pn1 #[.val (.ref a), .val (.int x)] (fun m => by first | (simp [entryFrame, mkF, argsToLocals, Value.category]; done) | rfl) ?_
  intro p_ e_ s_ m_ b_ mt_ c_ C
  replace C : own_Ctx p_ s_ m_ mt_ c_ Z "com/example/murmuration/murmuration/search/IndexedSet" "get" prog_28_method_4_code 2 (some .int) := C
  refine own_aloadN C (pc' := 1) own_d6_0 rfl rfl rfl ?_
  refine own_getF C (pc' := 4) (hw _ (List.mem_of_getElem? (i := 11) rfl)) f0 own_d6_1 rfl ?_
  refine own_iloadN C (pc' := 5) own_d6_4 rfl rfl ?_
  refine own_ldIV C (pc' := 6) f1 (i := xn) (v := r) hx hxn hr own_d6_5 rfl ?_
  exact own_ret C (t := .int) rfl rfl (Or.inl ⟨rfl, by simp, _, rfl⟩) own_d6_6 (by decide) (by decide) (⟨rfl, rfl⟩)
set_option maxRecDepth 65536 in
set_option maxHeartbeats 40000000 in
theorem own_m7 {l : Launch} {Z : State} {a0 : Array Value} (hw : ∀ d ∈ tables_1, d.before a0 Z = true) {n0 : Nat} {ws : List Jvm.Cond} {h : Heap} (a : Addr) (pos : Addr) (n : Nat) (fp : Nat → Int32) (x : Int32) (xn : Nat) (b : Int32) (Z0 : n0 ≤ h.size) (f0 : Fld Z h a "com/example/murmuration/murmuration/search/IndexedSet" "positions" "[I" (.ref pos)) (f1 : own_AI Z h pos n fp) (hx : x.toInt = (xn : Int)) (hxn : xn < n) (hb : (if (fp xn) < 0 then (0 : Int32) else (1 : Int32)) = b) :
    own_Met l Z n0 (⟨"com/example/murmuration/murmuration/search/IndexedSet", "contains", "(I)Z"⟩ : MethodName) prog_28_method_3_code 2 (some .boolean) ({ frames := 0, cells := 0, slots := 0, locals := 0 } : Room) ws #[(.ref a), (.int x)] h (fun v h' => (v = some (.int b)) ∧ (h = h')) := by
  refine own_met own_pn1 #[.val (.ref a), .val (.int x)] (fun m => by first | (simp [entryFrame, mkF, argsToLocals, Value.category]; done) | rfl) ?_
  intro p_ e_ s_ m_ b_ mt_ c_ C
  replace C : own_Ctx p_ s_ m_ mt_ c_ Z "com/example/murmuration/murmuration/search/IndexedSet" "contains" prog_28_method_3_code 2 (some .boolean) := C
  refine own_aloadN C (pc' := 1) own_d7_0 rfl rfl rfl ?_
  refine own_getF C (pc' := 4) (hw _ (List.mem_of_getElem? (i := 13) rfl)) f0 own_d7_1 rfl ?_
  refine own_iloadN C (pc' := 5) own_d7_4 rfl rfl ?_
  refine own_ldI C (pc' := 6) f1 (i := xn) hx hxn own_d7_5 rfl ?_
  refine own_i0_lt C (pc1 := 13) (pc2 := 9) own_d7_6 rfl rfl (fun c103 => ?_) (fun c103 => ?_)
  · skip
    refine own_iconst C (pc' := 14) (v := (0 : Int32)) own_d7_13 rfl (by decide) ?_
    exact own_ret C (t := .boolean) rfl rfl (Or.inl ⟨rfl, by simp, _, rfl⟩) own_d7_14 (by decide) (by decide) (⟨by rw [← hb, if_pos c103], rfl⟩)
  · skip
    refine own_iconst C (pc' := 10) (v := (1 : Int32)) own_d7_9 rfl (by decide) ?_
    refine own_goto C (pc' := 14) own_d7_10 rfl ?_
    exact own_ret C (t := .boolean) rfl rfl (Or.inl ⟨rfl, by simp, _, rfl⟩) own_d7_14 (by decide) (by decide) (⟨by rw [← hb, if_neg c103], rfl⟩)
set_option maxRecDepth 65536 in
set_option maxHeartbeats 40000000 in
theorem own_m8 {l : Launch} {Z : State} {a0 : Array Value} (hw : ∀ d ∈ tables_1, d.before a0 Z = true) {n0 : Nat} {ws : List Jvm.Cond} {h : Heap} (a : Addr) (mem : Addr) (pos : Addr) (n : Nat) (sz : Int32) (fm : Nat → Int32) (fp : Nat → Int32) (x : Int32) (xn : Nat) (ln : Nat) (pv : Int32) (lv : Int32) (ii : Nat) (li : Nat) (sz' : Int32) (Z0 : n0 ≤ h.size) (f0 : Exa Z h a "com/example/murmuration/murmuration/search/IndexedSet") (f1 : n0 ≤ a) (f2 : n0 ≤ mem) (f3 : n0 ≤ pos) (f4 : a ≠ mem) (f5 : a ≠ pos) (f6 : mem ≠ pos) (f7 : Fld Z h a "com/example/murmuration/murmuration/search/IndexedSet" "members" "[I" (.ref mem)) (f8 : Fld Z h a "com/example/murmuration/murmuration/search/IndexedSet" "positions" "[I" (.ref pos)) (f9 : Fld Z h a "com/example/murmuration/murmuration/search/IndexedSet" "size" "I" (.int sz)) (f10 : own_AI Z h mem n fm) (f11 : own_AI Z h pos n fp) (hx : x.toInt = (xn : Int)) (hxn : xn < n) (hpv : fp xn = pv) (hi : pv.toInt = (ii : Int)) (hin : ii < n) (hl : (sz - (1 : Int32)).toInt = (ln : Int)) (hln : ln < n) (hlv : fm ln = lv) (hli : lv.toInt = (li : Int)) (hlin : li < n) (hsz : sz - (1 : Int32) = sz') :
    own_Met l Z n0 (⟨"com/example/murmuration/murmuration/search/IndexedSet", "remove", "(I)V"⟩ : MethodName) prog_28_method_6_code 4 none ({ frames := 0, cells := 0, slots := 0, locals := 0 } : Room) ws #[(.ref a), (.int x)] h (fun v h' => (v = none) ∧ (Keep h h' [a, mem, pos]) ∧ (Exa Z h' a "com/example/murmuration/murmuration/search/IndexedSet") ∧ (Fld Z h' a "com/example/murmuration/murmuration/search/IndexedSet" "members" "[I" (.ref mem)) ∧ (Fld Z h' a "com/example/murmuration/murmuration/search/IndexedSet" "positions" "[I" (.ref pos)) ∧ (Fld Z h' a "com/example/murmuration/murmuration/search/IndexedSet" "size" "I" (.int sz')) ∧ (own_AI Z h' mem n (own_upd fm ii lv)) ∧ (own_AI Z h' pos n (own_upd (own_upd fp li pv) xn (-1 : Int32)))) := by
  refine own_met own_pn1 #[.val (.ref a), .val (.int x), .unset, .unset] (fun m => by first | (simp [entryFrame, mkF, argsToLocals, Value.category]; done) | rfl) ?_
  intro p_ e_ s_ m_ b_ mt_ c_ C
  replace C : own_Ctx p_ s_ m_ mt_ c_ Z "com/example/murmuration/murmuration/search/IndexedSet" "remove" prog_28_method_6_code 4 none := C
  have K0 : Keep h h [a, mem, pos] := Keep.refl _ _
  refine own_aloadN C (pc' := 1) own_d8_0 rfl rfl rfl ?_
  refine own_getF C (pc' := 4) (hw _ (List.mem_of_getElem? (i := 13) rfl)) f8 own_d8_1 rfl ?_
  refine own_iloadN C (pc' := 5) own_d8_4 rfl rfl ?_
  refine own_ldIV C (pc' := 6) f11 (i := xn) (v := pv) hx hxn hpv own_d8_5 rfl ?_
  refine own_istoreN C (pc' := 7) (Ls' := #[.val (.ref a), .val (.int x), .val (.int pv), .unset]) own_d8_6 rfl rfl ?_
  refine own_aloadN C (pc' := 8) own_d8_7 rfl rfl rfl ?_
  refine own_getF C (pc' := 11) (hw _ (List.mem_of_getElem? (i := 11) rfl)) f7 own_d8_8 rfl ?_
  refine own_aloadN C (pc' := 12) own_d8_11 rfl rfl rfl ?_
  refine own_dup C (pc' := 13) own_d8_12 rfl rfl ?_
  refine own_getF C (pc' := 16) (hw _ (List.mem_of_getElem? (i := 24) rfl)) f9 own_d8_13 rfl ?_
  refine own_iconst C (pc' := 17) (v := (1 : Int32)) own_d8_16 rfl (by decide) ?_
  refine own_isub C (pc' := 18) own_d8_17 rfl ?_
  refine own_dupX1 C (pc' := 19) own_d8_18 rfl rfl rfl ?_
  refine own_putF C (pc' := 22) (hw _ (List.mem_of_getElem? (i := 24) rfl)) f9 f0 (Or.inl (hw _ (List.mem_of_getElem? (i := 25) rfl))) (hw _ (List.mem_of_getElem? (i := 2) rfl)) (ty := .int) (by decide) rfl rfl f1 own_d8_19 rfl (fun h104 W105 => ?_)
  have Z106 : n0 ≤ h104.size := Nat.le_trans Z0 (Nat.le_of_eq (Wr.size W105).symm)
  have K107 := Keep.wr K0 W105 (Or.inl (List.mem_of_getElem? (i := 0) rfl))
  have F108 : Exa Z h104 a "com/example/murmuration/murmuration/search/IndexedSet" := Exa.wr W105 f0
  have F109 : Fld Z h104 a "com/example/murmuration/murmuration/search/IndexedSet" "members" "[I" (.ref mem) := Fld.other W105 f7 (Or.inr (slot_ne (Or.inr (hw _ (List.mem_of_getElem? (i := 12) rfl))) (Or.inl (hw _ (List.mem_of_getElem? (i := 25) rfl))) (by decide) (t := (.array .int)) (t' := .int) (by decide) (by decide)))
  have F110 : Fld Z h104 a "com/example/murmuration/murmuration/search/IndexedSet" "positions" "[I" (.ref pos) := Fld.other W105 f8 (Or.inr (slot_ne (Or.inr (hw _ (List.mem_of_getElem? (i := 14) rfl))) (Or.inl (hw _ (List.mem_of_getElem? (i := 25) rfl))) (by decide) (t := (.array .int)) (t' := .int) (by decide) (by decide)))
  have F111 : Fld Z h104 a "com/example/murmuration/murmuration/search/IndexedSet" "size" "I" (.int (sz - (1 : Int32))) := Fld.same W105 f9
  have F112 : own_AI Z h104 mem n fm := own_A.other f10 W105 (Ne.symm f4)
  have F113 : own_AI Z h104 pos n fp := own_A.other f11 W105 (Ne.symm f5)
  refine own_ldIV C (pc' := 23) F112 (i := ln) (v := lv) hl hln hlv own_d8_22 rfl ?_
  refine own_istoreN C (pc' := 24) (Ls' := #[.val (.ref a), .val (.int x), .val (.int pv), .val (.int lv)]) own_d8_23 rfl rfl ?_
  refine own_aloadN C (pc' := 25) own_d8_24 rfl rfl rfl ?_
  refine own_getF C (pc' := 28) (hw _ (List.mem_of_getElem? (i := 11) rfl)) F109 own_d8_25 rfl ?_
  refine own_iloadN C (pc' := 29) own_d8_28 rfl rfl ?_
  refine own_iloadN C (pc' := 30) own_d8_29 rfl rfl ?_
  refine own_stI C (pc' := 31) F112 (i := ii) hi hin f2 own_d8_30 rfl (fun h114 W115 V116 => ?_)
  have Z117 : n0 ≤ h114.size := Nat.le_trans Z106 (Nat.le_of_eq (Wr.size W115).symm)
  have K118 := Keep.wr K107 W115 (Or.inl (List.mem_of_getElem? (i := 1) rfl))
  have F119 : Exa Z h114 a "com/example/murmuration/murmuration/search/IndexedSet" := Exa.wr W115 F108
  have F120 : Fld Z h114 a "com/example/murmuration/murmuration/search/IndexedSet" "members" "[I" (.ref mem) := Fld.other W115 F109 (Or.inl f4)
  have F121 : Fld Z h114 a "com/example/murmuration/murmuration/search/IndexedSet" "positions" "[I" (.ref pos) := Fld.other W115 F110 (Or.inl f4)
  have F122 : Fld Z h114 a "com/example/murmuration/murmuration/search/IndexedSet" "size" "I" (.int (sz - (1 : Int32))) := Fld.other W115 F111 (Or.inl f4)
  have F123 : own_AI Z h114 mem n (own_upd fm ii lv) := V116
  have F124 : own_AI Z h114 pos n fp := own_A.other F113 W115 (Ne.symm f6)
  refine own_aloadN C (pc' := 32) own_d8_31 rfl rfl rfl ?_
  refine own_getF C (pc' := 35) (hw _ (List.mem_of_getElem? (i := 13) rfl)) F121 own_d8_32 rfl ?_
  refine own_iloadN C (pc' := 36) own_d8_35 rfl rfl ?_
  refine own_iloadN C (pc' := 37) own_d8_36 rfl rfl ?_
  refine own_stI C (pc' := 38) F124 (i := li) hli hlin f3 own_d8_37 rfl (fun h125 W126 V127 => ?_)
  have Z128 : n0 ≤ h125.size := Nat.le_trans Z117 (Nat.le_of_eq (Wr.size W126).symm)
  have K129 := Keep.wr K118 W126 (Or.inl (List.mem_of_getElem? (i := 2) rfl))
  have F130 : Exa Z h125 a "com/example/murmuration/murmuration/search/IndexedSet" := Exa.wr W126 F119
  have F131 : Fld Z h125 a "com/example/murmuration/murmuration/search/IndexedSet" "members" "[I" (.ref mem) := Fld.other W126 F120 (Or.inl f5)
  have F132 : Fld Z h125 a "com/example/murmuration/murmuration/search/IndexedSet" "positions" "[I" (.ref pos) := Fld.other W126 F121 (Or.inl f5)
  have F133 : Fld Z h125 a "com/example/murmuration/murmuration/search/IndexedSet" "size" "I" (.int (sz - (1 : Int32))) := Fld.other W126 F122 (Or.inl f5)
  have F134 : own_AI Z h125 mem n (own_upd fm ii lv) := own_A.other F123 W126 f6
  have F135 : own_AI Z h125 pos n (own_upd fp li pv) := V127
  refine own_aloadN C (pc' := 39) own_d8_38 rfl rfl rfl ?_
  refine own_getF C (pc' := 42) (hw _ (List.mem_of_getElem? (i := 13) rfl)) F132 own_d8_39 rfl ?_
  refine own_iloadN C (pc' := 43) own_d8_42 rfl rfl ?_
  refine own_iconst C (pc' := 44) (v := (-1 : Int32)) own_d8_43 rfl (by decide) ?_
  refine own_stI C (pc' := 45) F135 (i := xn) hx hxn f3 own_d8_44 rfl (fun h136 W137 V138 => ?_)
  have Z139 : n0 ≤ h136.size := Nat.le_trans Z128 (Nat.le_of_eq (Wr.size W137).symm)
  have K140 := Keep.wr K129 W137 (Or.inl (List.mem_of_getElem? (i := 2) rfl))
  have F141 : Exa Z h136 a "com/example/murmuration/murmuration/search/IndexedSet" := Exa.wr W137 F130
  have F142 : Fld Z h136 a "com/example/murmuration/murmuration/search/IndexedSet" "members" "[I" (.ref mem) := Fld.other W137 F131 (Or.inl f5)
  have F143 : Fld Z h136 a "com/example/murmuration/murmuration/search/IndexedSet" "positions" "[I" (.ref pos) := Fld.other W137 F132 (Or.inl f5)
  have F144 : Fld Z h136 a "com/example/murmuration/murmuration/search/IndexedSet" "size" "I" (.int (sz - (1 : Int32))) := Fld.other W137 F133 (Or.inl f5)
  have F145 : own_AI Z h136 mem n (own_upd fm ii lv) := own_A.other F134 W137 f6
  have F146 : own_AI Z h136 pos n (own_upd (own_upd fp li pv) xn (-1 : Int32)) := V138
  exact own_retV C rfl own_d8_45 (by decide) (by decide) (⟨rfl, K140, F141, F142, F143, (by rw [← hsz]; exact F144), F145, F146⟩)
set_option maxRecDepth 65536 in
set_option maxHeartbeats 40000000 in
theorem own_law {l : Launch} {Z : State} {a0 : Array Value} (hw : ∀ d ∈ tables_1, d.before a0 Z = true) {n0 : Nat} {ws : List Jvm.Cond} {h : Heap} (p0 : Int32) (p1 : Int32) (p2 : Int32) (p3 : Int32) (p4 : Int32) (Z0 : n0 ≤ h.size) :
    own_Met l Z n0 x code maxLocals ret room_1 ws #[(.int p0), (.int p1), (.int p2), (.int p3), (.int p4)] h (fun v h' => v = some (.int 1)) := by
  refine own_met own_pn2 #[.val (.int p0), .val (.int p1), .val (.int p2), .val (.int p3), .val (.int p4), .unset, .unset, .unset, .unset, .unset, .unset, .unset, .unset, .unset] (fun m => by first | (simp [entryFrame, mkF, argsToLocals, Value.category, maxLocals]; done) | rfl) ?_
  intro p_ e_ s_ m_ b_ mt_ c_ C
  replace C : own_Ctx p_ s_ m_ mt_ c_ Z "com/example/murmuration/murmuration/search/IndexedSetAddPinLaw" "law" code maxLocals ret := C
  refine own_iconst C (pc' := 1) (v := (2 : Int32)) at_0 rfl (by decide) ?_
  refine own_iloadN C (pc' := 2) at_1 rfl rfl ?_
  refine own_bipush C (pc' := 4) (v := (7 : Int32)) at_2 rfl (by decide) ?_
  refine own_iand C (pc' := 5) at_4 rfl ?_
  refine own_iadd C (pc' := 6) at_5 rfl ?_
  refine own_istore C (pc' := 8) (Ls' := #[.val (.int p0), .val (.int p1), .val (.int p2), .val (.int p3), .val (.int p4), .val (.int ((2 : Int32) + (p0 &&& (7 : Int32)))), .unset, .unset, .unset, .unset, .unset, .unset, .unset, .unset]) at_6 rfl rfl ?_
  obtain ⟨N148, b149, b150, b151, hN152⟩ := own_n9 p0
  generalize ((2 : Int32) + (p0 &&& (7 : Int32))) = x147 at hN152 ⊢
  show own_Run p_ l e_ _ s_ m_ _ b_ mt_ c_ n0 _ h _ _ (mkF m_ 8 #[.val (.int p0), .val (.int p1), .val (.int p2), .val (.int p3), .val (.int p4), .val (.int x147), .unset, .unset, .unset, .unset, .unset, .unset, .unset, .unset] [])
  refine own_iloadN C (pc' := 9) at_8 rfl rfl ?_
  refine own_ldc C (pc' := 11) (v := (2147483647 : Int32)) at_9 rfl (hw _ (List.mem_of_getElem? (i := 0) rfl)) ?_
  refine own_iand C (pc' := 12) at_11 rfl ?_
  refine own_iload C (pc' := 14) at_12 rfl rfl ?_
  refine own_irem C (pc' := 15) at_14 rfl (own_nz hN152 b149) ?_
  refine own_istore C (pc' := 17) (Ls' := #[.val (.int p0), .val (.int p1), .val (.int p2), .val (.int p3), .val (.int p4), .val (.int x147), .val (.int ((p1 &&& (2147483647 : Int32)) % x147)), .unset, .unset, .unset, .unset, .unset, .unset, .unset]) at_15 rfl rfl ?_
  obtain ⟨A154, b155, hA156⟩ := own_rem p1 hN152 b149
  generalize ((p1 &&& (2147483647 : Int32)) % x147) = x153 at hA156 ⊢
  show own_Run p_ l e_ _ s_ m_ _ b_ mt_ c_ n0 _ h _ _ (mkF m_ 17 #[.val (.int p0), .val (.int p1), .val (.int p2), .val (.int p3), .val (.int p4), .val (.int x147), .val (.int x153), .unset, .unset, .unset, .unset, .unset, .unset, .unset] [])
  refine own_iload C (pc' := 19) at_17 rfl rfl ?_
  refine own_iconst C (pc' := 20) (v := (1 : Int32)) at_19 rfl (by decide) ?_
  refine own_iadd C (pc' := 21) at_20 rfl ?_
  refine own_iloadN C (pc' := 22) at_21 rfl rfl ?_
  refine own_ldc C (pc' := 24) (v := (2147483647 : Int32)) at_22 rfl (hw _ (List.mem_of_getElem? (i := 0) rfl)) ?_
  refine own_iand C (pc' := 25) at_24 rfl ?_
  refine own_iload C (pc' := 27) at_25 rfl rfl ?_
  refine own_iconst C (pc' := 28) (v := (1 : Int32)) at_27 rfl (by decide) ?_
  refine own_isub C (pc' := 29) at_28 rfl ?_
  refine own_irem C (pc' := 30) at_29 rfl (own_nz (own_sub1 hN152 (by omega)) (by omega)) ?_
  refine own_iadd C (pc' := 31) at_30 rfl ?_
  refine own_iload C (pc' := 33) at_31 rfl rfl ?_
  refine own_irem C (pc' := 34) at_33 rfl (own_nz hN152 b149) ?_
  refine own_istore C (pc' := 36) (Ls' := #[.val (.int p0), .val (.int p1), .val (.int p2), .val (.int p3), .val (.int p4), .val (.int x147), .val (.int x153), .val (.int (((x153 + (1 : Int32)) + ((p2 &&& (2147483647 : Int32)) % (x147 - (1 : Int32)))) % x147)), .unset, .unset, .unset, .unset, .unset, .unset]) at_34 rfl rfl ?_
  obtain ⟨B158, b159, b160, hB161⟩ := own_b p2 hA156 hN152 b155 b150 b151
  generalize (((x153 + (1 : Int32)) + ((p2 &&& (2147483647 : Int32)) % (x147 - (1 : Int32)))) % x147) = x157 at hB161 ⊢
  show own_Run p_ l e_ _ s_ m_ _ b_ mt_ c_ n0 _ h _ _ (mkF m_ 36 #[.val (.int p0), .val (.int p1), .val (.int p2), .val (.int p3), .val (.int p4), .val (.int x147), .val (.int x153), .val (.int x157), .unset, .unset, .unset, .unset, .unset, .unset] [])
  refine own_iloadN C (pc' := 37) at_36 rfl rfl ?_
  refine own_ldc C (pc' := 39) (v := (2147483647 : Int32)) at_37 rfl (hw _ (List.mem_of_getElem? (i := 0) rfl)) ?_
  refine own_iand C (pc' := 40) at_39 rfl ?_
  refine own_iload C (pc' := 42) at_40 rfl rfl ?_
  refine own_irem C (pc' := 43) at_42 rfl (own_nz hN152 b149) ?_
  refine own_istore C (pc' := 45) (Ls' := #[.val (.int p0), .val (.int p1), .val (.int p2), .val (.int p3), .val (.int p4), .val (.int x147), .val (.int x153), .val (.int x157), .val (.int ((p3 &&& (2147483647 : Int32)) % x147)), .unset, .unset, .unset, .unset, .unset]) at_43 rfl rfl ?_
  obtain ⟨X163, b164, hX165⟩ := own_rem p3 hN152 b149
  generalize ((p3 &&& (2147483647 : Int32)) % x147) = x162 at hX165 ⊢
  show own_Run p_ l e_ _ s_ m_ _ b_ mt_ c_ n0 _ h _ _ (mkF m_ 45 #[.val (.int p0), .val (.int p1), .val (.int p2), .val (.int p3), .val (.int p4), .val (.int x147), .val (.int x153), .val (.int x157), .val (.int x162), .unset, .unset, .unset, .unset, .unset] [])
  refine own_iload C (pc' := 47) at_45 rfl rfl ?_
  refine own_iconst C (pc' := 48) (v := (1 : Int32)) at_47 rfl (by decide) ?_
  refine own_iand C (pc' := 49) at_48 rfl ?_
  refine own_i0_eq C (pc1 := 56) (pc2 := 52) at_49 rfl rfl (fun c166 => ?_) (fun c166 => ?_)
  · skip
    refine own_iconst C (pc' := 57) (v := (0 : Int32)) at_56 rfl (by decide) ?_
    refine own_istore C (pc' := 59) (Ls' := #[.val (.int p0), .val (.int p1), .val (.int p2), .val (.int p3), .val (.int p4), .val (.int x147), .val (.int x153), .val (.int x157), .val (.int x162), .val (.int (0 : Int32)), .unset, .unset, .unset, .unset]) at_57 rfl rfl ?_
    refine own_iload C (pc' := 61) at_59 rfl rfl ?_
    refine own_i0_eq C (pc1 := 69) (pc2 := 64) at_61 rfl rfl (fun c167 => ?_) (fun c167 => absurd c167 (by decide))
    refine own_iload C (pc' := 71) at_69 rfl rfl ?_
    refine own_istore C (pc' := 73) (Ls' := #[.val (.int p0), .val (.int p1), .val (.int p2), .val (.int p3), .val (.int p4), .val (.int x147), .val (.int x153), .val (.int x157), .val (.int x162), .val (.int (0 : Int32)), .val (.int x157), .unset, .unset, .unset]) at_71 rfl rfl ?_
    refine own_iload C (pc' := 75) at_73 rfl rfl ?_
    refine own_i0_eq C (pc1 := 83) (pc2 := 78) at_75 rfl rfl (fun c168 => ?_) (fun c168 => absurd c168 (by decide))
    refine own_iload C (pc' := 85) at_83 rfl rfl ?_
    refine own_istore C (pc' := 87) (Ls' := #[.val (.int p0), .val (.int p1), .val (.int p2), .val (.int p3), .val (.int p4), .val (.int x147), .val (.int x153), .val (.int x157), .val (.int x162), .val (.int (0 : Int32)), .val (.int x157), .val (.int x153), .unset, .unset]) at_85 rfl rfl ?_
    refine own_new C (pc' := 90) (hw _ (List.mem_of_getElem? (i := 1) rfl)) (hw _ (List.mem_of_getElem? (i := 2) rfl)) (hw _ (List.mem_of_getElem? (i := 3) rfl)) Z0 at_87 rfl (by decide) (by decide) (fun h169 a170 ea171 ga172 Z173 E174 A175 D176 => ?_)
    have F177 : Fld Z h169 a170 "com/example/murmuration/murmuration/search/IndexedSet" "members" "[I" .null := D176 (Or.inr (hw _ (List.mem_of_getElem? (i := 12) rfl))) (ty := (.array .int)) (by decide)
    have F178 : Fld Z h169 a170 "com/example/murmuration/murmuration/search/IndexedSet" "positions" "[I" .null := D176 (Or.inr (hw _ (List.mem_of_getElem? (i := 14) rfl))) (ty := (.array .int)) (by decide)
    have F179 : Fld Z h169 a170 "com/example/murmuration/murmuration/search/IndexedSet" "size" "I" (.int (0 : Int32)) := D176 (Or.inl (hw _ (List.mem_of_getElem? (i := 25) rfl))) (ty := .int) (by decide)
    refine own_dup C (pc' := 91) at_90 rfl rfl ?_
    refine own_iload C (pc' := 93) at_91 rfl rfl ?_
    refine own_callN C (pc' := 96) (y := (⟨"com/example/murmuration/murmuration/search/IndexedSet", "<init>", "(I)V"⟩ : MethodName)) (a := a170) (argsL := [(.int x147)]) (rest := [(.ref a170)]) 1 rfl (hw _ (List.mem_of_getElem? (i := 4) rfl)) (hw _ (List.mem_of_getElem? (i := 5) rfl)) (hw _ (List.mem_of_getElem? (i := 6) rfl)) (hw _ (List.mem_of_getElem? (i := 3) rfl)) (by decide) (own_m1 hw a170 x147 N148 Z173 A175 ga172 F177 F178 F179 hN152 (by omega)) (by decide) (by decide) (lenOf own_pd1 rfl) rfl (Nat.le_of_eq rfl) at_93 rfl rfl (by decide) (by decide) (fun v180 h181 hq182 => ?_)
    obtain ⟨a183, a184, rfl, K185, ⟨ga186, gk187⟩, ⟨ga188, gk189⟩, F190, F191, F192, F193, F194, F195, F196, F197, F198⟩ := hq182
    have ne199 : a170 ≠ a183 := Nat.ne_of_lt (Nat.lt_of_lt_of_le (Exa.lt A175) gk187)
    have ne200 : a170 ≠ a184 := Nat.ne_of_lt (Nat.lt_of_lt_of_le (Exa.lt A175) gk189)
    have Z202 : n0 ≤ h181.size := Nat.le_trans Z173 K185.1
    have F203 : Exa Z h181 a170 "com/example/murmuration/murmuration/search/IndexedSet" := Exa.keep A175 K185
    show own_Run p_ l e_ _ s_ m_ _ b_ mt_ c_ n0 _ h181 _ _ (mkF m_ 96 #[.val (.int p0), .val (.int p1), .val (.int p2), .val (.int p3), .val (.int p4), .val (.int x147), .val (.int x153), .val (.int x157), .val (.int x162), .val (.int (0 : Int32)), .val (.int x157), .val (.int x153), .unset, .unset] [(.ref a170)])
    refine own_astore C (pc' := 98) (Ls' := #[.val (.int p0), .val (.int p1), .val (.int p2), .val (.int p3), .val (.int p4), .val (.int x147), .val (.int x153), .val (.int x157), .val (.int x162), .val (.int (0 : Int32)), .val (.int x157), .val (.int x153), .val (.ref a170), .unset]) at_96 rfl rfl rfl ?_
    refine own_aload C (pc' := 100) at_98 rfl rfl rfl ?_
    refine own_iload C (pc' := 102) at_100 rfl rfl ?_
    refine own_callV C (pc' := 105) (y := (⟨"com/example/murmuration/murmuration/search/IndexedSet", "add", "(I)V"⟩ : MethodName)) (a := a170) (argsL := [(.int x153)]) (rest := []) 0 F190 (hw _ (List.mem_of_getElem? (i := 19) rfl)) (hw _ (List.mem_of_getElem? (i := 20) rfl)) (hw _ (List.mem_of_getElem? (i := 22) rfl)) (hw _ (List.mem_of_getElem? (i := 21) rfl)) (hw _ (List.mem_of_getElem? (i := 23) rfl)) (hw _ (List.mem_of_getElem? (i := 3) rfl)) (by decide) (own_m4 hw a170 a183 a184 N148 (0 : Int32) (fun _ => (0 : Int32)) (fun _ => (-1 : Int32)) x153 A154 0 (1 : Int32) Z202 F190 ga172 ga186 ga188 ne199 ne200 F198 F191 F192 F193 F194 F195 hA156 (by omega) (by decide) (by omega) (by decide)) (by decide) (by decide) (lenOf own_pd1 rfl) rfl (Nat.le_of_eq rfl) at_102 rfl rfl (by decide) (by decide) (fun v204 h205 hq206 => ?_)
    obtain ⟨rfl, K207, F208, F209, F210, F211, F212, F213⟩ := hq206
    have Z215 : n0 ≤ h205.size := Nat.le_trans Z202 K207.1
    have F216 : Exa Z h205 a170 "com/example/murmuration/murmuration/search/IndexedSet" := Exa.keep F190 K207
    show own_Run p_ l e_ _ s_ m_ _ b_ mt_ c_ n0 _ h205 _ _ (mkF m_ 105 #[.val (.int p0), .val (.int p1), .val (.int p2), .val (.int p3), .val (.int p4), .val (.int x147), .val (.int x153), .val (.int x157), .val (.int x162), .val (.int (0 : Int32)), .val (.int x157), .val (.int x153), .val (.ref a170), .unset] [])
    refine own_aload C (pc' := 107) at_105 rfl rfl rfl ?_
    refine own_callV C (pc' := 110) (y := (⟨"com/example/murmuration/murmuration/search/IndexedSet", "size", "()I"⟩ : MethodName)) (a := a170) (argsL := []) (rest := []) 0 F208 (hw _ (List.mem_of_getElem? (i := 26) rfl)) (hw _ (List.mem_of_getElem? (i := 27) rfl)) (hw _ (List.mem_of_getElem? (i := 29) rfl)) (hw _ (List.mem_of_getElem? (i := 28) rfl)) (hw _ (List.mem_of_getElem? (i := 30) rfl)) (hw _ (List.mem_of_getElem? (i := 3) rfl)) (by decide) (own_m5 hw a170 (1 : Int32) Z215 F211 ) (by decide) (by decide) (lenOf own_pd2 rfl) rfl (Nat.le_of_eq rfl) at_107 rfl rfl (by decide) (by decide) (fun v217 h218 hq219 => ?_)
    obtain ⟨rfl, rfl⟩ := hq219
    show own_Run p_ l e_ _ s_ m_ _ b_ mt_ c_ n0 _ h205 _ _ (mkF m_ 110 #[.val (.int p0), .val (.int p1), .val (.int p2), .val (.int p3), .val (.int p4), .val (.int x147), .val (.int x153), .val (.int x157), .val (.int x162), .val (.int (0 : Int32)), .val (.int x157), .val (.int x153), .val (.ref a170), .unset] [(.int (1 : Int32))])
    refine own_iconst C (pc' := 111) (v := (1 : Int32)) at_110 rfl (by decide) ?_
    refine own_ii_ne C (pc1 := 139) (pc2 := 114) at_111 rfl rfl (fun c220 => absurd c220 (by decide)) (fun c220 => ?_)
    refine own_aload C (pc' := 116) at_114 rfl rfl rfl ?_
    refine own_iconst C (pc' := 117) (v := (0 : Int32)) at_116 rfl (by decide) ?_
    refine own_callV C (pc' := 120) (y := (⟨"com/example/murmuration/murmuration/search/IndexedSet", "get", "(I)I"⟩ : MethodName)) (a := a170) (argsL := [(.int (0 : Int32))]) (rest := []) 0 F208 (hw _ (List.mem_of_getElem? (i := 31) rfl)) (hw _ (List.mem_of_getElem? (i := 32) rfl)) (hw _ (List.mem_of_getElem? (i := 34) rfl)) (hw _ (List.mem_of_getElem? (i := 33) rfl)) (hw _ (List.mem_of_getElem? (i := 35) rfl)) (hw _ (List.mem_of_getElem? (i := 3) rfl)) (by decide) (own_m6 hw a170 a183 N148 (own_upd (fun _ => (0 : Int32)) 0 x153) (0 : Int32) 0 x153 Z215 F209 F212 (by decide) (by omega) rfl) (by decide) (by decide) (lenOf own_pd3 rfl) rfl (Nat.le_of_eq rfl) at_117 rfl rfl (by decide) (by decide) (fun v221 h222 hq223 => ?_)
    obtain ⟨rfl, rfl⟩ := hq223
    show own_Run p_ l e_ _ s_ m_ _ b_ mt_ c_ n0 _ h205 _ _ (mkF m_ 120 #[.val (.int p0), .val (.int p1), .val (.int p2), .val (.int p3), .val (.int p4), .val (.int x147), .val (.int x153), .val (.int x157), .val (.int x162), .val (.int (0 : Int32)), .val (.int x157), .val (.int x153), .val (.ref a170), .unset] [(.int x153)])
    refine own_iload C (pc' := 122) at_120 rfl rfl ?_
    refine own_ii_ne C (pc1 := 139) (pc2 := 125) at_122 rfl rfl (fun c224 => absurd c224 (not_not_intro rfl)) (fun c224 => ?_)
    refine own_aload C (pc' := 127) at_125 rfl rfl rfl ?_
    refine own_iload C (pc' := 129) at_127 rfl rfl ?_
    refine own_callV C (pc' := 132) (y := (⟨"com/example/murmuration/murmuration/search/IndexedSet", "contains", "(I)Z"⟩ : MethodName)) (a := a170) (argsL := [(.int x153)]) (rest := []) 0 F208 (hw _ (List.mem_of_getElem? (i := 36) rfl)) (hw _ (List.mem_of_getElem? (i := 37) rfl)) (hw _ (List.mem_of_getElem? (i := 39) rfl)) (hw _ (List.mem_of_getElem? (i := 38) rfl)) (hw _ (List.mem_of_getElem? (i := 40) rfl)) (hw _ (List.mem_of_getElem? (i := 3) rfl)) (by decide) (own_m7 hw a170 a184 N148 (own_upd (fun _ => (-1 : Int32)) A154 (0 : Int32)) x153 A154 (1 : Int32) Z215 F210 F213 hA156 (by omega) (by rw [show ((own_upd (fun _ => (-1 : Int32)) A154 (0 : Int32)) A154) = (0 : Int32) from (by simp [own_upd, b160, Ne.symm b160])]; decide)) (by decide) (by decide) (lenOf own_pd4 rfl) rfl (Nat.le_of_eq rfl) at_129 rfl rfl (by decide) (by decide) (fun v225 h226 hq227 => ?_)
    obtain ⟨rfl, rfl⟩ := hq227
    show own_Run p_ l e_ _ s_ m_ _ b_ mt_ c_ n0 _ h205 _ _ (mkF m_ 132 #[.val (.int p0), .val (.int p1), .val (.int p2), .val (.int p3), .val (.int p4), .val (.int x147), .val (.int x153), .val (.int x157), .val (.int x162), .val (.int (0 : Int32)), .val (.int x157), .val (.int x153), .val (.ref a170), .unset] [(.int (1 : Int32))])
    refine own_i0_eq C (pc1 := 139) (pc2 := 135) at_132 rfl rfl (fun c228 => absurd c228 (by decide)) (fun c228 => ?_)
    refine own_iconst C (pc' := 136) (v := (1 : Int32)) at_135 rfl (by decide) ?_
    refine own_goto C (pc' := 140) at_136 rfl ?_
    refine own_istore C (pc' := 142) (Ls' := #[.val (.int p0), .val (.int p1), .val (.int p2), .val (.int p3), .val (.int p4), .val (.int x147), .val (.int x153), .val (.int x157), .val (.int x162), .val (.int (0 : Int32)), .val (.int x157), .val (.int x153), .val (.ref a170), .val (.int (1 : Int32))]) at_140 rfl rfl ?_
    refine own_iload C (pc' := 144) at_142 rfl rfl ?_
    refine own_i0_ne C (pc1 := 149) (pc2 := 147) at_144 rfl rfl (fun c229 => ?_) (fun c229 => absurd c229 (by decide))
    refine own_aload C (pc' := 151) at_149 rfl rfl rfl ?_
    refine own_iload C (pc' := 153) at_151 rfl rfl ?_
    refine own_callV C (pc' := 156) (y := (⟨"com/example/murmuration/murmuration/search/IndexedSet", "add", "(I)V"⟩ : MethodName)) (a := a170) (argsL := [(.int x157)]) (rest := []) 0 F208 (hw _ (List.mem_of_getElem? (i := 19) rfl)) (hw _ (List.mem_of_getElem? (i := 20) rfl)) (hw _ (List.mem_of_getElem? (i := 22) rfl)) (hw _ (List.mem_of_getElem? (i := 21) rfl)) (hw _ (List.mem_of_getElem? (i := 23) rfl)) (hw _ (List.mem_of_getElem? (i := 3) rfl)) (by decide) (own_m4 hw a170 a183 a184 N148 (1 : Int32) (own_upd (fun _ => (0 : Int32)) 0 x153) (own_upd (fun _ => (-1 : Int32)) A154 (0 : Int32)) x157 B158 1 (2 : Int32) Z215 F208 ga172 ga186 ga188 ne199 ne200 F198 F209 F210 F211 F212 F213 hB161 (by omega) (by decide) (by omega) (by decide)) (by decide) (by decide) (lenOf own_pd1 rfl) rfl (Nat.le_of_eq rfl) at_153 rfl rfl (by decide) (by decide) (fun v230 h231 hq232 => ?_)
    obtain ⟨rfl, K233, F234, F235, F236, F237, F238, F239⟩ := hq232
    have Z241 : n0 ≤ h231.size := Nat.le_trans Z215 K233.1
    have F242 : Exa Z h231 a170 "com/example/murmuration/murmuration/search/IndexedSet" := Exa.keep F208 K233
    show own_Run p_ l e_ _ s_ m_ _ b_ mt_ c_ n0 _ h231 _ _ (mkF m_ 156 #[.val (.int p0), .val (.int p1), .val (.int p2), .val (.int p3), .val (.int p4), .val (.int x147), .val (.int x153), .val (.int x157), .val (.int x162), .val (.int (0 : Int32)), .val (.int x157), .val (.int x153), .val (.ref a170), .val (.int (1 : Int32))] [])
    refine own_aload C (pc' := 158) at_156 rfl rfl rfl ?_
    refine own_callV C (pc' := 161) (y := (⟨"com/example/murmuration/murmuration/search/IndexedSet", "size", "()I"⟩ : MethodName)) (a := a170) (argsL := []) (rest := []) 0 F234 (hw _ (List.mem_of_getElem? (i := 26) rfl)) (hw _ (List.mem_of_getElem? (i := 27) rfl)) (hw _ (List.mem_of_getElem? (i := 29) rfl)) (hw _ (List.mem_of_getElem? (i := 28) rfl)) (hw _ (List.mem_of_getElem? (i := 30) rfl)) (hw _ (List.mem_of_getElem? (i := 3) rfl)) (by decide) (own_m5 hw a170 (2 : Int32) Z241 F237 ) (by decide) (by decide) (lenOf own_pd2 rfl) rfl (Nat.le_of_eq rfl) at_158 rfl rfl (by decide) (by decide) (fun v243 h244 hq245 => ?_)
    obtain ⟨rfl, rfl⟩ := hq245
    show own_Run p_ l e_ _ s_ m_ _ b_ mt_ c_ n0 _ h231 _ _ (mkF m_ 161 #[.val (.int p0), .val (.int p1), .val (.int p2), .val (.int p3), .val (.int p4), .val (.int x147), .val (.int x153), .val (.int x157), .val (.int x162), .val (.int (0 : Int32)), .val (.int x157), .val (.int x153), .val (.ref a170), .val (.int (1 : Int32))] [(.int (2 : Int32))])
    refine own_iconst C (pc' := 162) (v := (2 : Int32)) at_161 rfl (by decide) ?_
    refine own_ii_ne C (pc1 := 220) (pc2 := 165) at_162 rfl rfl (fun c246 => absurd c246 (by decide)) (fun c246 => ?_)
    refine own_aload C (pc' := 167) at_165 rfl rfl rfl ?_
    refine own_iconst C (pc' := 168) (v := (0 : Int32)) at_167 rfl (by decide) ?_
    refine own_callV C (pc' := 171) (y := (⟨"com/example/murmuration/murmuration/search/IndexedSet", "get", "(I)I"⟩ : MethodName)) (a := a170) (argsL := [(.int (0 : Int32))]) (rest := []) 0 F234 (hw _ (List.mem_of_getElem? (i := 31) rfl)) (hw _ (List.mem_of_getElem? (i := 32) rfl)) (hw _ (List.mem_of_getElem? (i := 34) rfl)) (hw _ (List.mem_of_getElem? (i := 33) rfl)) (hw _ (List.mem_of_getElem? (i := 35) rfl)) (hw _ (List.mem_of_getElem? (i := 3) rfl)) (by decide) (own_m6 hw a170 a183 N148 (own_upd (own_upd (fun _ => (0 : Int32)) 0 x153) 1 x157) (0 : Int32) 0 x153 Z241 F235 F238 (by decide) (by omega) rfl) (by decide) (by decide) (lenOf own_pd3 rfl) rfl (Nat.le_of_eq rfl) at_168 rfl rfl (by decide) (by decide) (fun v247 h248 hq249 => ?_)
    obtain ⟨rfl, rfl⟩ := hq249
    show own_Run p_ l e_ _ s_ m_ _ b_ mt_ c_ n0 _ h231 _ _ (mkF m_ 171 #[.val (.int p0), .val (.int p1), .val (.int p2), .val (.int p3), .val (.int p4), .val (.int x147), .val (.int x153), .val (.int x157), .val (.int x162), .val (.int (0 : Int32)), .val (.int x157), .val (.int x153), .val (.ref a170), .val (.int (1 : Int32))] [(.int x153)])
    refine own_iload C (pc' := 173) at_171 rfl rfl ?_
    refine own_ii_ne C (pc1 := 220) (pc2 := 176) at_173 rfl rfl (fun c250 => absurd c250 (not_not_intro rfl)) (fun c250 => ?_)
    refine own_aload C (pc' := 178) at_176 rfl rfl rfl ?_
    refine own_iconst C (pc' := 179) (v := (1 : Int32)) at_178 rfl (by decide) ?_
    refine own_callV C (pc' := 182) (y := (⟨"com/example/murmuration/murmuration/search/IndexedSet", "get", "(I)I"⟩ : MethodName)) (a := a170) (argsL := [(.int (1 : Int32))]) (rest := []) 0 F234 (hw _ (List.mem_of_getElem? (i := 31) rfl)) (hw _ (List.mem_of_getElem? (i := 32) rfl)) (hw _ (List.mem_of_getElem? (i := 34) rfl)) (hw _ (List.mem_of_getElem? (i := 33) rfl)) (hw _ (List.mem_of_getElem? (i := 35) rfl)) (hw _ (List.mem_of_getElem? (i := 3) rfl)) (by decide) (own_m6 hw a170 a183 N148 (own_upd (own_upd (fun _ => (0 : Int32)) 0 x153) 1 x157) (1 : Int32) 1 x157 Z241 F235 F238 (by decide) (by omega) rfl) (by decide) (by decide) (lenOf own_pd3 rfl) rfl (Nat.le_of_eq rfl) at_179 rfl rfl (by decide) (by decide) (fun v251 h252 hq253 => ?_)
    obtain ⟨rfl, rfl⟩ := hq253
    show own_Run p_ l e_ _ s_ m_ _ b_ mt_ c_ n0 _ h231 _ _ (mkF m_ 182 #[.val (.int p0), .val (.int p1), .val (.int p2), .val (.int p3), .val (.int p4), .val (.int x147), .val (.int x153), .val (.int x157), .val (.int x162), .val (.int (0 : Int32)), .val (.int x157), .val (.int x153), .val (.ref a170), .val (.int (1 : Int32))] [(.int x157)])
    refine own_iload C (pc' := 184) at_182 rfl rfl ?_
    refine own_ii_ne C (pc1 := 220) (pc2 := 187) at_184 rfl rfl (fun c254 => absurd c254 (not_not_intro rfl)) (fun c254 => ?_)
    refine own_aload C (pc' := 189) at_187 rfl rfl rfl ?_
    refine own_iload C (pc' := 191) at_189 rfl rfl ?_
    refine own_callV C (pc' := 194) (y := (⟨"com/example/murmuration/murmuration/search/IndexedSet", "contains", "(I)Z"⟩ : MethodName)) (a := a170) (argsL := [(.int x162)]) (rest := []) 0 F234 (hw _ (List.mem_of_getElem? (i := 36) rfl)) (hw _ (List.mem_of_getElem? (i := 37) rfl)) (hw _ (List.mem_of_getElem? (i := 39) rfl)) (hw _ (List.mem_of_getElem? (i := 38) rfl)) (hw _ (List.mem_of_getElem? (i := 40) rfl)) (hw _ (List.mem_of_getElem? (i := 3) rfl)) (by decide) (own_m7 hw a170 a184 N148 (own_upd (own_upd (fun _ => (-1 : Int32)) A154 (0 : Int32)) B158 (1 : Int32)) x162 X163 (if ((own_upd (own_upd (fun _ => (-1 : Int32)) A154 (0 : Int32)) B158 (1 : Int32)) X163) < 0 then (0 : Int32) else (1 : Int32)) Z241 F236 F239 hX165 (by omega) rfl) (by decide) (by decide) (lenOf own_pd4 rfl) rfl (Nat.le_of_eq rfl) at_191 rfl rfl (by decide) (by decide) (fun v255 h256 hq257 => ?_)
    obtain ⟨rfl, rfl⟩ := hq257
    show own_Run p_ l e_ _ s_ m_ _ b_ mt_ c_ n0 _ h231 _ _ (mkF m_ 194 #[.val (.int p0), .val (.int p1), .val (.int p2), .val (.int p3), .val (.int p4), .val (.int x147), .val (.int x153), .val (.int x157), .val (.int x162), .val (.int (0 : Int32)), .val (.int x157), .val (.int x153), .val (.ref a170), .val (.int (1 : Int32))] [(.int (if ((own_upd (own_upd (fun _ => (-1 : Int32)) A154 (0 : Int32)) B158 (1 : Int32)) X163) < 0 then (0 : Int32) else (1 : Int32)))])
    refine own_iload C (pc' := 196) at_194 rfl rfl ?_
    refine own_iload C (pc' := 198) at_196 rfl rfl ?_
    refine own_ii_eq C (pc1 := 208) (pc2 := 201) at_198 rfl rfl (fun c258 => ?_) (fun c258 => ?_)
    · skip
      refine own_iconst C (pc' := 209) (v := (1 : Int32)) at_208 rfl (by decide) ?_
      refine own_goto C (pc' := 213) at_209 rfl ?_
      refine own_ii_ne C (pc1 := 220) (pc2 := 216) at_213 rfl rfl (fun c259 => absurd c259 (by rw [own_inj hX165 hA156] at c258; simp [own_upd, c258, b160, Ne.symm b160])) (fun c259 => ?_)
      refine own_iconst C (pc' := 217) (v := (1 : Int32)) at_216 rfl (by decide) ?_
      refine own_goto C (pc' := 221) at_217 rfl ?_
      refine own_istore C (pc' := 223) (Ls' := #[.val (.int p0), .val (.int p1), .val (.int p2), .val (.int p3), .val (.int p4), .val (.int x147), .val (.int x153), .val (.int x157), .val (.int x162), .val (.int (0 : Int32)), .val (.int x157), .val (.int x153), .val (.ref a170), .val (.int (1 : Int32))]) at_221 rfl rfl ?_
      refine own_iload C (pc' := 225) at_223 rfl rfl ?_
      refine own_i0_ne C (pc1 := 230) (pc2 := 228) at_225 rfl rfl (fun c260 => ?_) (fun c260 => absurd c260 (by decide))
      refine own_aload C (pc' := 232) at_230 rfl rfl rfl ?_
      refine own_iload C (pc' := 234) at_232 rfl rfl ?_
      refine own_callV C (pc' := 237) (y := (⟨"com/example/murmuration/murmuration/search/IndexedSet", "remove", "(I)V"⟩ : MethodName)) (a := a170) (argsL := [(.int x157)]) (rest := []) 0 F234 (hw _ (List.mem_of_getElem? (i := 41) rfl)) (hw _ (List.mem_of_getElem? (i := 42) rfl)) (hw _ (List.mem_of_getElem? (i := 44) rfl)) (hw _ (List.mem_of_getElem? (i := 43) rfl)) (hw _ (List.mem_of_getElem? (i := 45) rfl)) (hw _ (List.mem_of_getElem? (i := 3) rfl)) (by decide) (own_m8 hw a170 a183 a184 N148 (2 : Int32) (own_upd (own_upd (fun _ => (0 : Int32)) 0 x153) 1 x157) (own_upd (own_upd (fun _ => (-1 : Int32)) A154 (0 : Int32)) B158 (1 : Int32)) x157 B158 1 (1 : Int32) x157 1 B158 (1 : Int32) Z241 F234 ga172 ga186 ga188 ne199 ne200 F198 F235 F236 F237 F238 F239 hB161 (by omega) (by simp [own_upd, b160, Ne.symm b160]) (by decide) (by omega) (by decide) (by omega) rfl hB161 (by omega) (by decide)) (by decide) (by decide) (lenOf own_pd1 rfl) rfl (Nat.le_of_eq rfl) at_234 rfl rfl (by decide) (by decide) (fun v261 h262 hq263 => ?_)
      obtain ⟨rfl, K264, F265, F266, F267, F268, F269, F270⟩ := hq263
      have Z272 : n0 ≤ h262.size := Nat.le_trans Z241 K264.1
      have F273 : Exa Z h262 a170 "com/example/murmuration/murmuration/search/IndexedSet" := Exa.keep F234 K264
      show own_Run p_ l e_ _ s_ m_ _ b_ mt_ c_ n0 _ h262 _ _ (mkF m_ 237 #[.val (.int p0), .val (.int p1), .val (.int p2), .val (.int p3), .val (.int p4), .val (.int x147), .val (.int x153), .val (.int x157), .val (.int x162), .val (.int (0 : Int32)), .val (.int x157), .val (.int x153), .val (.ref a170), .val (.int (1 : Int32))] [])
      refine own_aload C (pc' := 239) at_237 rfl rfl rfl ?_
      refine own_callV C (pc' := 242) (y := (⟨"com/example/murmuration/murmuration/search/IndexedSet", "size", "()I"⟩ : MethodName)) (a := a170) (argsL := []) (rest := []) 0 F265 (hw _ (List.mem_of_getElem? (i := 26) rfl)) (hw _ (List.mem_of_getElem? (i := 27) rfl)) (hw _ (List.mem_of_getElem? (i := 29) rfl)) (hw _ (List.mem_of_getElem? (i := 28) rfl)) (hw _ (List.mem_of_getElem? (i := 30) rfl)) (hw _ (List.mem_of_getElem? (i := 3) rfl)) (by decide) (own_m5 hw a170 (1 : Int32) Z272 F268 ) (by decide) (by decide) (lenOf own_pd2 rfl) rfl (Nat.le_of_eq rfl) at_239 rfl rfl (by decide) (by decide) (fun v274 h275 hq276 => ?_)
      obtain ⟨rfl, rfl⟩ := hq276
      show own_Run p_ l e_ _ s_ m_ _ b_ mt_ c_ n0 _ h262 _ _ (mkF m_ 242 #[.val (.int p0), .val (.int p1), .val (.int p2), .val (.int p3), .val (.int p4), .val (.int x147), .val (.int x153), .val (.int x157), .val (.int x162), .val (.int (0 : Int32)), .val (.int x157), .val (.int x153), .val (.ref a170), .val (.int (1 : Int32))] [(.int (1 : Int32))])
      refine own_iconst C (pc' := 243) (v := (1 : Int32)) at_242 rfl (by decide) ?_
      refine own_ii_ne C (pc1 := 271) (pc2 := 246) at_243 rfl rfl (fun c277 => absurd c277 (by decide)) (fun c277 => ?_)
      refine own_aload C (pc' := 248) at_246 rfl rfl rfl ?_
      refine own_iconst C (pc' := 249) (v := (0 : Int32)) at_248 rfl (by decide) ?_
      refine own_callV C (pc' := 252) (y := (⟨"com/example/murmuration/murmuration/search/IndexedSet", "get", "(I)I"⟩ : MethodName)) (a := a170) (argsL := [(.int (0 : Int32))]) (rest := []) 0 F265 (hw _ (List.mem_of_getElem? (i := 31) rfl)) (hw _ (List.mem_of_getElem? (i := 32) rfl)) (hw _ (List.mem_of_getElem? (i := 34) rfl)) (hw _ (List.mem_of_getElem? (i := 33) rfl)) (hw _ (List.mem_of_getElem? (i := 35) rfl)) (hw _ (List.mem_of_getElem? (i := 3) rfl)) (by decide) (own_m6 hw a170 a183 N148 (own_upd (own_upd (own_upd (fun _ => (0 : Int32)) 0 x153) 1 x157) 1 x157) (0 : Int32) 0 x153 Z272 F266 F269 (by decide) (by omega) rfl) (by decide) (by decide) (lenOf own_pd3 rfl) rfl (Nat.le_of_eq rfl) at_249 rfl rfl (by decide) (by decide) (fun v278 h279 hq280 => ?_)
      obtain ⟨rfl, rfl⟩ := hq280
      show own_Run p_ l e_ _ s_ m_ _ b_ mt_ c_ n0 _ h262 _ _ (mkF m_ 252 #[.val (.int p0), .val (.int p1), .val (.int p2), .val (.int p3), .val (.int p4), .val (.int x147), .val (.int x153), .val (.int x157), .val (.int x162), .val (.int (0 : Int32)), .val (.int x157), .val (.int x153), .val (.ref a170), .val (.int (1 : Int32))] [(.int x153)])
      refine own_iload C (pc' := 254) at_252 rfl rfl ?_
      refine own_ii_ne C (pc1 := 271) (pc2 := 257) at_254 rfl rfl (fun c281 => absurd c281 (not_not_intro rfl)) (fun c281 => ?_)
      refine own_aload C (pc' := 259) at_257 rfl rfl rfl ?_
      refine own_iload C (pc' := 261) at_259 rfl rfl ?_
      refine own_callV C (pc' := 264) (y := (⟨"com/example/murmuration/murmuration/search/IndexedSet", "contains", "(I)Z"⟩ : MethodName)) (a := a170) (argsL := [(.int x157)]) (rest := []) 0 F265 (hw _ (List.mem_of_getElem? (i := 36) rfl)) (hw _ (List.mem_of_getElem? (i := 37) rfl)) (hw _ (List.mem_of_getElem? (i := 39) rfl)) (hw _ (List.mem_of_getElem? (i := 38) rfl)) (hw _ (List.mem_of_getElem? (i := 40) rfl)) (hw _ (List.mem_of_getElem? (i := 3) rfl)) (by decide) (own_m7 hw a170 a184 N148 (own_upd (own_upd (own_upd (own_upd (fun _ => (-1 : Int32)) A154 (0 : Int32)) B158 (1 : Int32)) B158 (1 : Int32)) B158 (-1 : Int32)) x157 B158 (0 : Int32) Z272 F267 F270 hB161 (by omega) (by rw [show ((own_upd (own_upd (own_upd (own_upd (fun _ => (-1 : Int32)) A154 (0 : Int32)) B158 (1 : Int32)) B158 (1 : Int32)) B158 (-1 : Int32)) B158) = (-1 : Int32) from (by simp [own_upd, b160, Ne.symm b160])]; decide)) (by decide) (by decide) (lenOf own_pd4 rfl) rfl (Nat.le_of_eq rfl) at_261 rfl rfl (by decide) (by decide) (fun v282 h283 hq284 => ?_)
      obtain ⟨rfl, rfl⟩ := hq284
      show own_Run p_ l e_ _ s_ m_ _ b_ mt_ c_ n0 _ h262 _ _ (mkF m_ 264 #[.val (.int p0), .val (.int p1), .val (.int p2), .val (.int p3), .val (.int p4), .val (.int x147), .val (.int x153), .val (.int x157), .val (.int x162), .val (.int (0 : Int32)), .val (.int x157), .val (.int x153), .val (.ref a170), .val (.int (1 : Int32))] [(.int (0 : Int32))])
      refine own_i0_ne C (pc1 := 271) (pc2 := 267) at_264 rfl rfl (fun c285 => absurd c285 (by decide)) (fun c285 => ?_)
      refine own_iconst C (pc' := 268) (v := (1 : Int32)) at_267 rfl (by decide) ?_
      refine own_goto C (pc' := 272) at_268 rfl ?_
      exact own_ret C (t := .boolean) rfl rfl (Or.inl ⟨rfl, by simp, _, rfl⟩) at_272 (by decide) (by decide) (rfl)
    · skip
      refine own_iload C (pc' := 203) at_201 rfl rfl ?_
      refine own_iload C (pc' := 205) at_203 rfl rfl ?_
      refine own_ii_ne C (pc1 := 212) (pc2 := 208) at_205 rfl rfl (fun c286 => ?_) (fun c286 => ?_)
      · skip
        refine own_iconst C (pc' := 213) (v := (0 : Int32)) at_212 rfl (by decide) ?_
        refine own_ii_ne C (pc1 := 220) (pc2 := 216) at_213 rfl rfl (fun c287 => absurd c287 (by rw [own_inj hX165 hA156] at c258; rw [own_inj hX165 hB161] at c286; simp [own_upd, c258, c286, b160, Ne.symm b160])) (fun c287 => ?_)
        refine own_iconst C (pc' := 217) (v := (1 : Int32)) at_216 rfl (by decide) ?_
        refine own_goto C (pc' := 221) at_217 rfl ?_
        refine own_istore C (pc' := 223) (Ls' := #[.val (.int p0), .val (.int p1), .val (.int p2), .val (.int p3), .val (.int p4), .val (.int x147), .val (.int x153), .val (.int x157), .val (.int x162), .val (.int (0 : Int32)), .val (.int x157), .val (.int x153), .val (.ref a170), .val (.int (1 : Int32))]) at_221 rfl rfl ?_
        refine own_iload C (pc' := 225) at_223 rfl rfl ?_
        refine own_i0_ne C (pc1 := 230) (pc2 := 228) at_225 rfl rfl (fun c288 => ?_) (fun c288 => absurd c288 (by decide))
        refine own_aload C (pc' := 232) at_230 rfl rfl rfl ?_
        refine own_iload C (pc' := 234) at_232 rfl rfl ?_
        refine own_callV C (pc' := 237) (y := (⟨"com/example/murmuration/murmuration/search/IndexedSet", "remove", "(I)V"⟩ : MethodName)) (a := a170) (argsL := [(.int x157)]) (rest := []) 0 F234 (hw _ (List.mem_of_getElem? (i := 41) rfl)) (hw _ (List.mem_of_getElem? (i := 42) rfl)) (hw _ (List.mem_of_getElem? (i := 44) rfl)) (hw _ (List.mem_of_getElem? (i := 43) rfl)) (hw _ (List.mem_of_getElem? (i := 45) rfl)) (hw _ (List.mem_of_getElem? (i := 3) rfl)) (by decide) (own_m8 hw a170 a183 a184 N148 (2 : Int32) (own_upd (own_upd (fun _ => (0 : Int32)) 0 x153) 1 x157) (own_upd (own_upd (fun _ => (-1 : Int32)) A154 (0 : Int32)) B158 (1 : Int32)) x157 B158 1 (1 : Int32) x157 1 B158 (1 : Int32) Z241 F234 ga172 ga186 ga188 ne199 ne200 F198 F235 F236 F237 F238 F239 hB161 (by omega) (by simp [own_upd, b160, Ne.symm b160]) (by decide) (by omega) (by decide) (by omega) rfl hB161 (by omega) (by decide)) (by decide) (by decide) (lenOf own_pd1 rfl) rfl (Nat.le_of_eq rfl) at_234 rfl rfl (by decide) (by decide) (fun v289 h290 hq291 => ?_)
        obtain ⟨rfl, K292, F293, F294, F295, F296, F297, F298⟩ := hq291
        have Z300 : n0 ≤ h290.size := Nat.le_trans Z241 K292.1
        have F301 : Exa Z h290 a170 "com/example/murmuration/murmuration/search/IndexedSet" := Exa.keep F234 K292
        show own_Run p_ l e_ _ s_ m_ _ b_ mt_ c_ n0 _ h290 _ _ (mkF m_ 237 #[.val (.int p0), .val (.int p1), .val (.int p2), .val (.int p3), .val (.int p4), .val (.int x147), .val (.int x153), .val (.int x157), .val (.int x162), .val (.int (0 : Int32)), .val (.int x157), .val (.int x153), .val (.ref a170), .val (.int (1 : Int32))] [])
        refine own_aload C (pc' := 239) at_237 rfl rfl rfl ?_
        refine own_callV C (pc' := 242) (y := (⟨"com/example/murmuration/murmuration/search/IndexedSet", "size", "()I"⟩ : MethodName)) (a := a170) (argsL := []) (rest := []) 0 F293 (hw _ (List.mem_of_getElem? (i := 26) rfl)) (hw _ (List.mem_of_getElem? (i := 27) rfl)) (hw _ (List.mem_of_getElem? (i := 29) rfl)) (hw _ (List.mem_of_getElem? (i := 28) rfl)) (hw _ (List.mem_of_getElem? (i := 30) rfl)) (hw _ (List.mem_of_getElem? (i := 3) rfl)) (by decide) (own_m5 hw a170 (1 : Int32) Z300 F296 ) (by decide) (by decide) (lenOf own_pd2 rfl) rfl (Nat.le_of_eq rfl) at_239 rfl rfl (by decide) (by decide) (fun v302 h303 hq304 => ?_)
        obtain ⟨rfl, rfl⟩ := hq304
        show own_Run p_ l e_ _ s_ m_ _ b_ mt_ c_ n0 _ h290 _ _ (mkF m_ 242 #[.val (.int p0), .val (.int p1), .val (.int p2), .val (.int p3), .val (.int p4), .val (.int x147), .val (.int x153), .val (.int x157), .val (.int x162), .val (.int (0 : Int32)), .val (.int x157), .val (.int x153), .val (.ref a170), .val (.int (1 : Int32))] [(.int (1 : Int32))])
        refine own_iconst C (pc' := 243) (v := (1 : Int32)) at_242 rfl (by decide) ?_
        refine own_ii_ne C (pc1 := 271) (pc2 := 246) at_243 rfl rfl (fun c305 => absurd c305 (by decide)) (fun c305 => ?_)
        refine own_aload C (pc' := 248) at_246 rfl rfl rfl ?_
        refine own_iconst C (pc' := 249) (v := (0 : Int32)) at_248 rfl (by decide) ?_
        refine own_callV C (pc' := 252) (y := (⟨"com/example/murmuration/murmuration/search/IndexedSet", "get", "(I)I"⟩ : MethodName)) (a := a170) (argsL := [(.int (0 : Int32))]) (rest := []) 0 F293 (hw _ (List.mem_of_getElem? (i := 31) rfl)) (hw _ (List.mem_of_getElem? (i := 32) rfl)) (hw _ (List.mem_of_getElem? (i := 34) rfl)) (hw _ (List.mem_of_getElem? (i := 33) rfl)) (hw _ (List.mem_of_getElem? (i := 35) rfl)) (hw _ (List.mem_of_getElem? (i := 3) rfl)) (by decide) (own_m6 hw a170 a183 N148 (own_upd (own_upd (own_upd (fun _ => (0 : Int32)) 0 x153) 1 x157) 1 x157) (0 : Int32) 0 x153 Z300 F294 F297 (by decide) (by omega) rfl) (by decide) (by decide) (lenOf own_pd3 rfl) rfl (Nat.le_of_eq rfl) at_249 rfl rfl (by decide) (by decide) (fun v306 h307 hq308 => ?_)
        obtain ⟨rfl, rfl⟩ := hq308
        show own_Run p_ l e_ _ s_ m_ _ b_ mt_ c_ n0 _ h290 _ _ (mkF m_ 252 #[.val (.int p0), .val (.int p1), .val (.int p2), .val (.int p3), .val (.int p4), .val (.int x147), .val (.int x153), .val (.int x157), .val (.int x162), .val (.int (0 : Int32)), .val (.int x157), .val (.int x153), .val (.ref a170), .val (.int (1 : Int32))] [(.int x153)])
        refine own_iload C (pc' := 254) at_252 rfl rfl ?_
        refine own_ii_ne C (pc1 := 271) (pc2 := 257) at_254 rfl rfl (fun c309 => absurd c309 (not_not_intro rfl)) (fun c309 => ?_)
        refine own_aload C (pc' := 259) at_257 rfl rfl rfl ?_
        refine own_iload C (pc' := 261) at_259 rfl rfl ?_
        refine own_callV C (pc' := 264) (y := (⟨"com/example/murmuration/murmuration/search/IndexedSet", "contains", "(I)Z"⟩ : MethodName)) (a := a170) (argsL := [(.int x157)]) (rest := []) 0 F293 (hw _ (List.mem_of_getElem? (i := 36) rfl)) (hw _ (List.mem_of_getElem? (i := 37) rfl)) (hw _ (List.mem_of_getElem? (i := 39) rfl)) (hw _ (List.mem_of_getElem? (i := 38) rfl)) (hw _ (List.mem_of_getElem? (i := 40) rfl)) (hw _ (List.mem_of_getElem? (i := 3) rfl)) (by decide) (own_m7 hw a170 a184 N148 (own_upd (own_upd (own_upd (own_upd (fun _ => (-1 : Int32)) A154 (0 : Int32)) B158 (1 : Int32)) B158 (1 : Int32)) B158 (-1 : Int32)) x157 B158 (0 : Int32) Z300 F295 F298 hB161 (by omega) (by rw [show ((own_upd (own_upd (own_upd (own_upd (fun _ => (-1 : Int32)) A154 (0 : Int32)) B158 (1 : Int32)) B158 (1 : Int32)) B158 (-1 : Int32)) B158) = (-1 : Int32) from (by simp [own_upd, b160, Ne.symm b160])]; decide)) (by decide) (by decide) (lenOf own_pd4 rfl) rfl (Nat.le_of_eq rfl) at_261 rfl rfl (by decide) (by decide) (fun v310 h311 hq312 => ?_)
        obtain ⟨rfl, rfl⟩ := hq312
        show own_Run p_ l e_ _ s_ m_ _ b_ mt_ c_ n0 _ h290 _ _ (mkF m_ 264 #[.val (.int p0), .val (.int p1), .val (.int p2), .val (.int p3), .val (.int p4), .val (.int x147), .val (.int x153), .val (.int x157), .val (.int x162), .val (.int (0 : Int32)), .val (.int x157), .val (.int x153), .val (.ref a170), .val (.int (1 : Int32))] [(.int (0 : Int32))])
        refine own_i0_ne C (pc1 := 271) (pc2 := 267) at_264 rfl rfl (fun c313 => absurd c313 (by decide)) (fun c313 => ?_)
        refine own_iconst C (pc' := 268) (v := (1 : Int32)) at_267 rfl (by decide) ?_
        refine own_goto C (pc' := 272) at_268 rfl ?_
        exact own_ret C (t := .boolean) rfl rfl (Or.inl ⟨rfl, by simp, _, rfl⟩) at_272 (by decide) (by decide) (rfl)
      · skip
        refine own_iconst C (pc' := 209) (v := (1 : Int32)) at_208 rfl (by decide) ?_
        refine own_goto C (pc' := 213) at_209 rfl ?_
        refine own_ii_ne C (pc1 := 220) (pc2 := 216) at_213 rfl rfl (fun c314 => absurd c314 (by rw [own_inj hX165 hA156] at c258; rw [own_inj hX165 hB161] at c286; simp [own_upd, c258, c286, b160, Ne.symm b160])) (fun c314 => ?_)
        refine own_iconst C (pc' := 217) (v := (1 : Int32)) at_216 rfl (by decide) ?_
        refine own_goto C (pc' := 221) at_217 rfl ?_
        refine own_istore C (pc' := 223) (Ls' := #[.val (.int p0), .val (.int p1), .val (.int p2), .val (.int p3), .val (.int p4), .val (.int x147), .val (.int x153), .val (.int x157), .val (.int x162), .val (.int (0 : Int32)), .val (.int x157), .val (.int x153), .val (.ref a170), .val (.int (1 : Int32))]) at_221 rfl rfl ?_
        refine own_iload C (pc' := 225) at_223 rfl rfl ?_
        refine own_i0_ne C (pc1 := 230) (pc2 := 228) at_225 rfl rfl (fun c315 => ?_) (fun c315 => absurd c315 (by decide))
        refine own_aload C (pc' := 232) at_230 rfl rfl rfl ?_
        refine own_iload C (pc' := 234) at_232 rfl rfl ?_
        refine own_callV C (pc' := 237) (y := (⟨"com/example/murmuration/murmuration/search/IndexedSet", "remove", "(I)V"⟩ : MethodName)) (a := a170) (argsL := [(.int x157)]) (rest := []) 0 F234 (hw _ (List.mem_of_getElem? (i := 41) rfl)) (hw _ (List.mem_of_getElem? (i := 42) rfl)) (hw _ (List.mem_of_getElem? (i := 44) rfl)) (hw _ (List.mem_of_getElem? (i := 43) rfl)) (hw _ (List.mem_of_getElem? (i := 45) rfl)) (hw _ (List.mem_of_getElem? (i := 3) rfl)) (by decide) (own_m8 hw a170 a183 a184 N148 (2 : Int32) (own_upd (own_upd (fun _ => (0 : Int32)) 0 x153) 1 x157) (own_upd (own_upd (fun _ => (-1 : Int32)) A154 (0 : Int32)) B158 (1 : Int32)) x157 B158 1 (1 : Int32) x157 1 B158 (1 : Int32) Z241 F234 ga172 ga186 ga188 ne199 ne200 F198 F235 F236 F237 F238 F239 hB161 (by omega) (by simp [own_upd, b160, Ne.symm b160]) (by decide) (by omega) (by decide) (by omega) rfl hB161 (by omega) (by decide)) (by decide) (by decide) (lenOf own_pd1 rfl) rfl (Nat.le_of_eq rfl) at_234 rfl rfl (by decide) (by decide) (fun v316 h317 hq318 => ?_)
        obtain ⟨rfl, K319, F320, F321, F322, F323, F324, F325⟩ := hq318
        have Z327 : n0 ≤ h317.size := Nat.le_trans Z241 K319.1
        have F328 : Exa Z h317 a170 "com/example/murmuration/murmuration/search/IndexedSet" := Exa.keep F234 K319
        show own_Run p_ l e_ _ s_ m_ _ b_ mt_ c_ n0 _ h317 _ _ (mkF m_ 237 #[.val (.int p0), .val (.int p1), .val (.int p2), .val (.int p3), .val (.int p4), .val (.int x147), .val (.int x153), .val (.int x157), .val (.int x162), .val (.int (0 : Int32)), .val (.int x157), .val (.int x153), .val (.ref a170), .val (.int (1 : Int32))] [])
        refine own_aload C (pc' := 239) at_237 rfl rfl rfl ?_
        refine own_callV C (pc' := 242) (y := (⟨"com/example/murmuration/murmuration/search/IndexedSet", "size", "()I"⟩ : MethodName)) (a := a170) (argsL := []) (rest := []) 0 F320 (hw _ (List.mem_of_getElem? (i := 26) rfl)) (hw _ (List.mem_of_getElem? (i := 27) rfl)) (hw _ (List.mem_of_getElem? (i := 29) rfl)) (hw _ (List.mem_of_getElem? (i := 28) rfl)) (hw _ (List.mem_of_getElem? (i := 30) rfl)) (hw _ (List.mem_of_getElem? (i := 3) rfl)) (by decide) (own_m5 hw a170 (1 : Int32) Z327 F323 ) (by decide) (by decide) (lenOf own_pd2 rfl) rfl (Nat.le_of_eq rfl) at_239 rfl rfl (by decide) (by decide) (fun v329 h330 hq331 => ?_)
        obtain ⟨rfl, rfl⟩ := hq331
        show own_Run p_ l e_ _ s_ m_ _ b_ mt_ c_ n0 _ h317 _ _ (mkF m_ 242 #[.val (.int p0), .val (.int p1), .val (.int p2), .val (.int p3), .val (.int p4), .val (.int x147), .val (.int x153), .val (.int x157), .val (.int x162), .val (.int (0 : Int32)), .val (.int x157), .val (.int x153), .val (.ref a170), .val (.int (1 : Int32))] [(.int (1 : Int32))])
        refine own_iconst C (pc' := 243) (v := (1 : Int32)) at_242 rfl (by decide) ?_
        refine own_ii_ne C (pc1 := 271) (pc2 := 246) at_243 rfl rfl (fun c332 => absurd c332 (by decide)) (fun c332 => ?_)
        refine own_aload C (pc' := 248) at_246 rfl rfl rfl ?_
        refine own_iconst C (pc' := 249) (v := (0 : Int32)) at_248 rfl (by decide) ?_
        refine own_callV C (pc' := 252) (y := (⟨"com/example/murmuration/murmuration/search/IndexedSet", "get", "(I)I"⟩ : MethodName)) (a := a170) (argsL := [(.int (0 : Int32))]) (rest := []) 0 F320 (hw _ (List.mem_of_getElem? (i := 31) rfl)) (hw _ (List.mem_of_getElem? (i := 32) rfl)) (hw _ (List.mem_of_getElem? (i := 34) rfl)) (hw _ (List.mem_of_getElem? (i := 33) rfl)) (hw _ (List.mem_of_getElem? (i := 35) rfl)) (hw _ (List.mem_of_getElem? (i := 3) rfl)) (by decide) (own_m6 hw a170 a183 N148 (own_upd (own_upd (own_upd (fun _ => (0 : Int32)) 0 x153) 1 x157) 1 x157) (0 : Int32) 0 x153 Z327 F321 F324 (by decide) (by omega) rfl) (by decide) (by decide) (lenOf own_pd3 rfl) rfl (Nat.le_of_eq rfl) at_249 rfl rfl (by decide) (by decide) (fun v333 h334 hq335 => ?_)
        obtain ⟨rfl, rfl⟩ := hq335
        show own_Run p_ l e_ _ s_ m_ _ b_ mt_ c_ n0 _ h317 _ _ (mkF m_ 252 #[.val (.int p0), .val (.int p1), .val (.int p2), .val (.int p3), .val (.int p4), .val (.int x147), .val (.int x153), .val (.int x157), .val (.int x162), .val (.int (0 : Int32)), .val (.int x157), .val (.int x153), .val (.ref a170), .val (.int (1 : Int32))] [(.int x153)])
        refine own_iload C (pc' := 254) at_252 rfl rfl ?_
        refine own_ii_ne C (pc1 := 271) (pc2 := 257) at_254 rfl rfl (fun c336 => absurd c336 (not_not_intro rfl)) (fun c336 => ?_)
        refine own_aload C (pc' := 259) at_257 rfl rfl rfl ?_
        refine own_iload C (pc' := 261) at_259 rfl rfl ?_
        refine own_callV C (pc' := 264) (y := (⟨"com/example/murmuration/murmuration/search/IndexedSet", "contains", "(I)Z"⟩ : MethodName)) (a := a170) (argsL := [(.int x157)]) (rest := []) 0 F320 (hw _ (List.mem_of_getElem? (i := 36) rfl)) (hw _ (List.mem_of_getElem? (i := 37) rfl)) (hw _ (List.mem_of_getElem? (i := 39) rfl)) (hw _ (List.mem_of_getElem? (i := 38) rfl)) (hw _ (List.mem_of_getElem? (i := 40) rfl)) (hw _ (List.mem_of_getElem? (i := 3) rfl)) (by decide) (own_m7 hw a170 a184 N148 (own_upd (own_upd (own_upd (own_upd (fun _ => (-1 : Int32)) A154 (0 : Int32)) B158 (1 : Int32)) B158 (1 : Int32)) B158 (-1 : Int32)) x157 B158 (0 : Int32) Z327 F322 F325 hB161 (by omega) (by rw [show ((own_upd (own_upd (own_upd (own_upd (fun _ => (-1 : Int32)) A154 (0 : Int32)) B158 (1 : Int32)) B158 (1 : Int32)) B158 (-1 : Int32)) B158) = (-1 : Int32) from (by simp [own_upd, b160, Ne.symm b160])]; decide)) (by decide) (by decide) (lenOf own_pd4 rfl) rfl (Nat.le_of_eq rfl) at_261 rfl rfl (by decide) (by decide) (fun v337 h338 hq339 => ?_)
        obtain ⟨rfl, rfl⟩ := hq339
        show own_Run p_ l e_ _ s_ m_ _ b_ mt_ c_ n0 _ h317 _ _ (mkF m_ 264 #[.val (.int p0), .val (.int p1), .val (.int p2), .val (.int p3), .val (.int p4), .val (.int x147), .val (.int x153), .val (.int x157), .val (.int x162), .val (.int (0 : Int32)), .val (.int x157), .val (.int x153), .val (.ref a170), .val (.int (1 : Int32))] [(.int (0 : Int32))])
        refine own_i0_ne C (pc1 := 271) (pc2 := 267) at_264 rfl rfl (fun c340 => absurd c340 (by decide)) (fun c340 => ?_)
        refine own_iconst C (pc' := 268) (v := (1 : Int32)) at_267 rfl (by decide) ?_
        refine own_goto C (pc' := 272) at_268 rfl ?_
        exact own_ret C (t := .boolean) rfl rfl (Or.inl ⟨rfl, by simp, _, rfl⟩) at_272 (by decide) (by decide) (rfl)
  · skip
    refine own_iconst C (pc' := 53) (v := (1 : Int32)) at_52 rfl (by decide) ?_
    refine own_goto C (pc' := 57) at_53 rfl ?_
    refine own_istore C (pc' := 59) (Ls' := #[.val (.int p0), .val (.int p1), .val (.int p2), .val (.int p3), .val (.int p4), .val (.int x147), .val (.int x153), .val (.int x157), .val (.int x162), .val (.int (1 : Int32)), .unset, .unset, .unset, .unset]) at_57 rfl rfl ?_
    refine own_iload C (pc' := 61) at_59 rfl rfl ?_
    refine own_i0_eq C (pc1 := 69) (pc2 := 64) at_61 rfl rfl (fun c341 => absurd c341 (by decide)) (fun c341 => ?_)
    refine own_iload C (pc' := 66) at_64 rfl rfl ?_
    refine own_goto C (pc' := 71) at_66 rfl ?_
    refine own_istore C (pc' := 73) (Ls' := #[.val (.int p0), .val (.int p1), .val (.int p2), .val (.int p3), .val (.int p4), .val (.int x147), .val (.int x153), .val (.int x157), .val (.int x162), .val (.int (1 : Int32)), .val (.int x153), .unset, .unset, .unset]) at_71 rfl rfl ?_
    refine own_iload C (pc' := 75) at_73 rfl rfl ?_
    refine own_i0_eq C (pc1 := 83) (pc2 := 78) at_75 rfl rfl (fun c342 => absurd c342 (by decide)) (fun c342 => ?_)
    refine own_iload C (pc' := 80) at_78 rfl rfl ?_
    refine own_goto C (pc' := 85) at_80 rfl ?_
    refine own_istore C (pc' := 87) (Ls' := #[.val (.int p0), .val (.int p1), .val (.int p2), .val (.int p3), .val (.int p4), .val (.int x147), .val (.int x153), .val (.int x157), .val (.int x162), .val (.int (1 : Int32)), .val (.int x153), .val (.int x157), .unset, .unset]) at_85 rfl rfl ?_
    refine own_new C (pc' := 90) (hw _ (List.mem_of_getElem? (i := 1) rfl)) (hw _ (List.mem_of_getElem? (i := 2) rfl)) (hw _ (List.mem_of_getElem? (i := 3) rfl)) Z0 at_87 rfl (by decide) (by decide) (fun h343 a344 ea345 ga346 Z347 E348 A349 D350 => ?_)
    have F351 : Fld Z h343 a344 "com/example/murmuration/murmuration/search/IndexedSet" "members" "[I" .null := D350 (Or.inr (hw _ (List.mem_of_getElem? (i := 12) rfl))) (ty := (.array .int)) (by decide)
    have F352 : Fld Z h343 a344 "com/example/murmuration/murmuration/search/IndexedSet" "positions" "[I" .null := D350 (Or.inr (hw _ (List.mem_of_getElem? (i := 14) rfl))) (ty := (.array .int)) (by decide)
    have F353 : Fld Z h343 a344 "com/example/murmuration/murmuration/search/IndexedSet" "size" "I" (.int (0 : Int32)) := D350 (Or.inl (hw _ (List.mem_of_getElem? (i := 25) rfl))) (ty := .int) (by decide)
    refine own_dup C (pc' := 91) at_90 rfl rfl ?_
    refine own_iload C (pc' := 93) at_91 rfl rfl ?_
    refine own_callN C (pc' := 96) (y := (⟨"com/example/murmuration/murmuration/search/IndexedSet", "<init>", "(I)V"⟩ : MethodName)) (a := a344) (argsL := [(.int x147)]) (rest := [(.ref a344)]) 1 rfl (hw _ (List.mem_of_getElem? (i := 4) rfl)) (hw _ (List.mem_of_getElem? (i := 5) rfl)) (hw _ (List.mem_of_getElem? (i := 6) rfl)) (hw _ (List.mem_of_getElem? (i := 3) rfl)) (by decide) (own_m1 hw a344 x147 N148 Z347 A349 ga346 F351 F352 F353 hN152 (by omega)) (by decide) (by decide) (lenOf own_pd1 rfl) rfl (Nat.le_of_eq rfl) at_93 rfl rfl (by decide) (by decide) (fun v354 h355 hq356 => ?_)
    obtain ⟨a357, a358, rfl, K359, ⟨ga360, gk361⟩, ⟨ga362, gk363⟩, F364, F365, F366, F367, F368, F369, F370, F371, F372⟩ := hq356
    have ne373 : a344 ≠ a357 := Nat.ne_of_lt (Nat.lt_of_lt_of_le (Exa.lt A349) gk361)
    have ne374 : a344 ≠ a358 := Nat.ne_of_lt (Nat.lt_of_lt_of_le (Exa.lt A349) gk363)
    have Z376 : n0 ≤ h355.size := Nat.le_trans Z347 K359.1
    have F377 : Exa Z h355 a344 "com/example/murmuration/murmuration/search/IndexedSet" := Exa.keep A349 K359
    show own_Run p_ l e_ _ s_ m_ _ b_ mt_ c_ n0 _ h355 _ _ (mkF m_ 96 #[.val (.int p0), .val (.int p1), .val (.int p2), .val (.int p3), .val (.int p4), .val (.int x147), .val (.int x153), .val (.int x157), .val (.int x162), .val (.int (1 : Int32)), .val (.int x153), .val (.int x157), .unset, .unset] [(.ref a344)])
    refine own_astore C (pc' := 98) (Ls' := #[.val (.int p0), .val (.int p1), .val (.int p2), .val (.int p3), .val (.int p4), .val (.int x147), .val (.int x153), .val (.int x157), .val (.int x162), .val (.int (1 : Int32)), .val (.int x153), .val (.int x157), .val (.ref a344), .unset]) at_96 rfl rfl rfl ?_
    refine own_aload C (pc' := 100) at_98 rfl rfl rfl ?_
    refine own_iload C (pc' := 102) at_100 rfl rfl ?_
    refine own_callV C (pc' := 105) (y := (⟨"com/example/murmuration/murmuration/search/IndexedSet", "add", "(I)V"⟩ : MethodName)) (a := a344) (argsL := [(.int x153)]) (rest := []) 0 F364 (hw _ (List.mem_of_getElem? (i := 19) rfl)) (hw _ (List.mem_of_getElem? (i := 20) rfl)) (hw _ (List.mem_of_getElem? (i := 22) rfl)) (hw _ (List.mem_of_getElem? (i := 21) rfl)) (hw _ (List.mem_of_getElem? (i := 23) rfl)) (hw _ (List.mem_of_getElem? (i := 3) rfl)) (by decide) (own_m4 hw a344 a357 a358 N148 (0 : Int32) (fun _ => (0 : Int32)) (fun _ => (-1 : Int32)) x153 A154 0 (1 : Int32) Z376 F364 ga346 ga360 ga362 ne373 ne374 F372 F365 F366 F367 F368 F369 hA156 (by omega) (by decide) (by omega) (by decide)) (by decide) (by decide) (lenOf own_pd1 rfl) rfl (Nat.le_of_eq rfl) at_102 rfl rfl (by decide) (by decide) (fun v378 h379 hq380 => ?_)
    obtain ⟨rfl, K381, F382, F383, F384, F385, F386, F387⟩ := hq380
    have Z389 : n0 ≤ h379.size := Nat.le_trans Z376 K381.1
    have F390 : Exa Z h379 a344 "com/example/murmuration/murmuration/search/IndexedSet" := Exa.keep F364 K381
    show own_Run p_ l e_ _ s_ m_ _ b_ mt_ c_ n0 _ h379 _ _ (mkF m_ 105 #[.val (.int p0), .val (.int p1), .val (.int p2), .val (.int p3), .val (.int p4), .val (.int x147), .val (.int x153), .val (.int x157), .val (.int x162), .val (.int (1 : Int32)), .val (.int x153), .val (.int x157), .val (.ref a344), .unset] [])
    refine own_aload C (pc' := 107) at_105 rfl rfl rfl ?_
    refine own_callV C (pc' := 110) (y := (⟨"com/example/murmuration/murmuration/search/IndexedSet", "size", "()I"⟩ : MethodName)) (a := a344) (argsL := []) (rest := []) 0 F382 (hw _ (List.mem_of_getElem? (i := 26) rfl)) (hw _ (List.mem_of_getElem? (i := 27) rfl)) (hw _ (List.mem_of_getElem? (i := 29) rfl)) (hw _ (List.mem_of_getElem? (i := 28) rfl)) (hw _ (List.mem_of_getElem? (i := 30) rfl)) (hw _ (List.mem_of_getElem? (i := 3) rfl)) (by decide) (own_m5 hw a344 (1 : Int32) Z389 F385 ) (by decide) (by decide) (lenOf own_pd2 rfl) rfl (Nat.le_of_eq rfl) at_107 rfl rfl (by decide) (by decide) (fun v391 h392 hq393 => ?_)
    obtain ⟨rfl, rfl⟩ := hq393
    show own_Run p_ l e_ _ s_ m_ _ b_ mt_ c_ n0 _ h379 _ _ (mkF m_ 110 #[.val (.int p0), .val (.int p1), .val (.int p2), .val (.int p3), .val (.int p4), .val (.int x147), .val (.int x153), .val (.int x157), .val (.int x162), .val (.int (1 : Int32)), .val (.int x153), .val (.int x157), .val (.ref a344), .unset] [(.int (1 : Int32))])
    refine own_iconst C (pc' := 111) (v := (1 : Int32)) at_110 rfl (by decide) ?_
    refine own_ii_ne C (pc1 := 139) (pc2 := 114) at_111 rfl rfl (fun c394 => absurd c394 (by decide)) (fun c394 => ?_)
    refine own_aload C (pc' := 116) at_114 rfl rfl rfl ?_
    refine own_iconst C (pc' := 117) (v := (0 : Int32)) at_116 rfl (by decide) ?_
    refine own_callV C (pc' := 120) (y := (⟨"com/example/murmuration/murmuration/search/IndexedSet", "get", "(I)I"⟩ : MethodName)) (a := a344) (argsL := [(.int (0 : Int32))]) (rest := []) 0 F382 (hw _ (List.mem_of_getElem? (i := 31) rfl)) (hw _ (List.mem_of_getElem? (i := 32) rfl)) (hw _ (List.mem_of_getElem? (i := 34) rfl)) (hw _ (List.mem_of_getElem? (i := 33) rfl)) (hw _ (List.mem_of_getElem? (i := 35) rfl)) (hw _ (List.mem_of_getElem? (i := 3) rfl)) (by decide) (own_m6 hw a344 a357 N148 (own_upd (fun _ => (0 : Int32)) 0 x153) (0 : Int32) 0 x153 Z389 F383 F386 (by decide) (by omega) rfl) (by decide) (by decide) (lenOf own_pd3 rfl) rfl (Nat.le_of_eq rfl) at_117 rfl rfl (by decide) (by decide) (fun v395 h396 hq397 => ?_)
    obtain ⟨rfl, rfl⟩ := hq397
    show own_Run p_ l e_ _ s_ m_ _ b_ mt_ c_ n0 _ h379 _ _ (mkF m_ 120 #[.val (.int p0), .val (.int p1), .val (.int p2), .val (.int p3), .val (.int p4), .val (.int x147), .val (.int x153), .val (.int x157), .val (.int x162), .val (.int (1 : Int32)), .val (.int x153), .val (.int x157), .val (.ref a344), .unset] [(.int x153)])
    refine own_iload C (pc' := 122) at_120 rfl rfl ?_
    refine own_ii_ne C (pc1 := 139) (pc2 := 125) at_122 rfl rfl (fun c398 => absurd c398 (not_not_intro rfl)) (fun c398 => ?_)
    refine own_aload C (pc' := 127) at_125 rfl rfl rfl ?_
    refine own_iload C (pc' := 129) at_127 rfl rfl ?_
    refine own_callV C (pc' := 132) (y := (⟨"com/example/murmuration/murmuration/search/IndexedSet", "contains", "(I)Z"⟩ : MethodName)) (a := a344) (argsL := [(.int x153)]) (rest := []) 0 F382 (hw _ (List.mem_of_getElem? (i := 36) rfl)) (hw _ (List.mem_of_getElem? (i := 37) rfl)) (hw _ (List.mem_of_getElem? (i := 39) rfl)) (hw _ (List.mem_of_getElem? (i := 38) rfl)) (hw _ (List.mem_of_getElem? (i := 40) rfl)) (hw _ (List.mem_of_getElem? (i := 3) rfl)) (by decide) (own_m7 hw a344 a358 N148 (own_upd (fun _ => (-1 : Int32)) A154 (0 : Int32)) x153 A154 (1 : Int32) Z389 F384 F387 hA156 (by omega) (by rw [show ((own_upd (fun _ => (-1 : Int32)) A154 (0 : Int32)) A154) = (0 : Int32) from (by simp [own_upd, b160, Ne.symm b160])]; decide)) (by decide) (by decide) (lenOf own_pd4 rfl) rfl (Nat.le_of_eq rfl) at_129 rfl rfl (by decide) (by decide) (fun v399 h400 hq401 => ?_)
    obtain ⟨rfl, rfl⟩ := hq401
    show own_Run p_ l e_ _ s_ m_ _ b_ mt_ c_ n0 _ h379 _ _ (mkF m_ 132 #[.val (.int p0), .val (.int p1), .val (.int p2), .val (.int p3), .val (.int p4), .val (.int x147), .val (.int x153), .val (.int x157), .val (.int x162), .val (.int (1 : Int32)), .val (.int x153), .val (.int x157), .val (.ref a344), .unset] [(.int (1 : Int32))])
    refine own_i0_eq C (pc1 := 139) (pc2 := 135) at_132 rfl rfl (fun c402 => absurd c402 (by decide)) (fun c402 => ?_)
    refine own_iconst C (pc' := 136) (v := (1 : Int32)) at_135 rfl (by decide) ?_
    refine own_goto C (pc' := 140) at_136 rfl ?_
    refine own_istore C (pc' := 142) (Ls' := #[.val (.int p0), .val (.int p1), .val (.int p2), .val (.int p3), .val (.int p4), .val (.int x147), .val (.int x153), .val (.int x157), .val (.int x162), .val (.int (1 : Int32)), .val (.int x153), .val (.int x157), .val (.ref a344), .val (.int (1 : Int32))]) at_140 rfl rfl ?_
    refine own_iload C (pc' := 144) at_142 rfl rfl ?_
    refine own_i0_ne C (pc1 := 149) (pc2 := 147) at_144 rfl rfl (fun c403 => ?_) (fun c403 => absurd c403 (by decide))
    refine own_aload C (pc' := 151) at_149 rfl rfl rfl ?_
    refine own_iload C (pc' := 153) at_151 rfl rfl ?_
    refine own_callV C (pc' := 156) (y := (⟨"com/example/murmuration/murmuration/search/IndexedSet", "add", "(I)V"⟩ : MethodName)) (a := a344) (argsL := [(.int x157)]) (rest := []) 0 F382 (hw _ (List.mem_of_getElem? (i := 19) rfl)) (hw _ (List.mem_of_getElem? (i := 20) rfl)) (hw _ (List.mem_of_getElem? (i := 22) rfl)) (hw _ (List.mem_of_getElem? (i := 21) rfl)) (hw _ (List.mem_of_getElem? (i := 23) rfl)) (hw _ (List.mem_of_getElem? (i := 3) rfl)) (by decide) (own_m4 hw a344 a357 a358 N148 (1 : Int32) (own_upd (fun _ => (0 : Int32)) 0 x153) (own_upd (fun _ => (-1 : Int32)) A154 (0 : Int32)) x157 B158 1 (2 : Int32) Z389 F382 ga346 ga360 ga362 ne373 ne374 F372 F383 F384 F385 F386 F387 hB161 (by omega) (by decide) (by omega) (by decide)) (by decide) (by decide) (lenOf own_pd1 rfl) rfl (Nat.le_of_eq rfl) at_153 rfl rfl (by decide) (by decide) (fun v404 h405 hq406 => ?_)
    obtain ⟨rfl, K407, F408, F409, F410, F411, F412, F413⟩ := hq406
    have Z415 : n0 ≤ h405.size := Nat.le_trans Z389 K407.1
    have F416 : Exa Z h405 a344 "com/example/murmuration/murmuration/search/IndexedSet" := Exa.keep F382 K407
    show own_Run p_ l e_ _ s_ m_ _ b_ mt_ c_ n0 _ h405 _ _ (mkF m_ 156 #[.val (.int p0), .val (.int p1), .val (.int p2), .val (.int p3), .val (.int p4), .val (.int x147), .val (.int x153), .val (.int x157), .val (.int x162), .val (.int (1 : Int32)), .val (.int x153), .val (.int x157), .val (.ref a344), .val (.int (1 : Int32))] [])
    refine own_aload C (pc' := 158) at_156 rfl rfl rfl ?_
    refine own_callV C (pc' := 161) (y := (⟨"com/example/murmuration/murmuration/search/IndexedSet", "size", "()I"⟩ : MethodName)) (a := a344) (argsL := []) (rest := []) 0 F408 (hw _ (List.mem_of_getElem? (i := 26) rfl)) (hw _ (List.mem_of_getElem? (i := 27) rfl)) (hw _ (List.mem_of_getElem? (i := 29) rfl)) (hw _ (List.mem_of_getElem? (i := 28) rfl)) (hw _ (List.mem_of_getElem? (i := 30) rfl)) (hw _ (List.mem_of_getElem? (i := 3) rfl)) (by decide) (own_m5 hw a344 (2 : Int32) Z415 F411 ) (by decide) (by decide) (lenOf own_pd2 rfl) rfl (Nat.le_of_eq rfl) at_158 rfl rfl (by decide) (by decide) (fun v417 h418 hq419 => ?_)
    obtain ⟨rfl, rfl⟩ := hq419
    show own_Run p_ l e_ _ s_ m_ _ b_ mt_ c_ n0 _ h405 _ _ (mkF m_ 161 #[.val (.int p0), .val (.int p1), .val (.int p2), .val (.int p3), .val (.int p4), .val (.int x147), .val (.int x153), .val (.int x157), .val (.int x162), .val (.int (1 : Int32)), .val (.int x153), .val (.int x157), .val (.ref a344), .val (.int (1 : Int32))] [(.int (2 : Int32))])
    refine own_iconst C (pc' := 162) (v := (2 : Int32)) at_161 rfl (by decide) ?_
    refine own_ii_ne C (pc1 := 220) (pc2 := 165) at_162 rfl rfl (fun c420 => absurd c420 (by decide)) (fun c420 => ?_)
    refine own_aload C (pc' := 167) at_165 rfl rfl rfl ?_
    refine own_iconst C (pc' := 168) (v := (0 : Int32)) at_167 rfl (by decide) ?_
    refine own_callV C (pc' := 171) (y := (⟨"com/example/murmuration/murmuration/search/IndexedSet", "get", "(I)I"⟩ : MethodName)) (a := a344) (argsL := [(.int (0 : Int32))]) (rest := []) 0 F408 (hw _ (List.mem_of_getElem? (i := 31) rfl)) (hw _ (List.mem_of_getElem? (i := 32) rfl)) (hw _ (List.mem_of_getElem? (i := 34) rfl)) (hw _ (List.mem_of_getElem? (i := 33) rfl)) (hw _ (List.mem_of_getElem? (i := 35) rfl)) (hw _ (List.mem_of_getElem? (i := 3) rfl)) (by decide) (own_m6 hw a344 a357 N148 (own_upd (own_upd (fun _ => (0 : Int32)) 0 x153) 1 x157) (0 : Int32) 0 x153 Z415 F409 F412 (by decide) (by omega) rfl) (by decide) (by decide) (lenOf own_pd3 rfl) rfl (Nat.le_of_eq rfl) at_168 rfl rfl (by decide) (by decide) (fun v421 h422 hq423 => ?_)
    obtain ⟨rfl, rfl⟩ := hq423
    show own_Run p_ l e_ _ s_ m_ _ b_ mt_ c_ n0 _ h405 _ _ (mkF m_ 171 #[.val (.int p0), .val (.int p1), .val (.int p2), .val (.int p3), .val (.int p4), .val (.int x147), .val (.int x153), .val (.int x157), .val (.int x162), .val (.int (1 : Int32)), .val (.int x153), .val (.int x157), .val (.ref a344), .val (.int (1 : Int32))] [(.int x153)])
    refine own_iload C (pc' := 173) at_171 rfl rfl ?_
    refine own_ii_ne C (pc1 := 220) (pc2 := 176) at_173 rfl rfl (fun c424 => absurd c424 (not_not_intro rfl)) (fun c424 => ?_)
    refine own_aload C (pc' := 178) at_176 rfl rfl rfl ?_
    refine own_iconst C (pc' := 179) (v := (1 : Int32)) at_178 rfl (by decide) ?_
    refine own_callV C (pc' := 182) (y := (⟨"com/example/murmuration/murmuration/search/IndexedSet", "get", "(I)I"⟩ : MethodName)) (a := a344) (argsL := [(.int (1 : Int32))]) (rest := []) 0 F408 (hw _ (List.mem_of_getElem? (i := 31) rfl)) (hw _ (List.mem_of_getElem? (i := 32) rfl)) (hw _ (List.mem_of_getElem? (i := 34) rfl)) (hw _ (List.mem_of_getElem? (i := 33) rfl)) (hw _ (List.mem_of_getElem? (i := 35) rfl)) (hw _ (List.mem_of_getElem? (i := 3) rfl)) (by decide) (own_m6 hw a344 a357 N148 (own_upd (own_upd (fun _ => (0 : Int32)) 0 x153) 1 x157) (1 : Int32) 1 x157 Z415 F409 F412 (by decide) (by omega) rfl) (by decide) (by decide) (lenOf own_pd3 rfl) rfl (Nat.le_of_eq rfl) at_179 rfl rfl (by decide) (by decide) (fun v425 h426 hq427 => ?_)
    obtain ⟨rfl, rfl⟩ := hq427
    show own_Run p_ l e_ _ s_ m_ _ b_ mt_ c_ n0 _ h405 _ _ (mkF m_ 182 #[.val (.int p0), .val (.int p1), .val (.int p2), .val (.int p3), .val (.int p4), .val (.int x147), .val (.int x153), .val (.int x157), .val (.int x162), .val (.int (1 : Int32)), .val (.int x153), .val (.int x157), .val (.ref a344), .val (.int (1 : Int32))] [(.int x157)])
    refine own_iload C (pc' := 184) at_182 rfl rfl ?_
    refine own_ii_ne C (pc1 := 220) (pc2 := 187) at_184 rfl rfl (fun c428 => absurd c428 (not_not_intro rfl)) (fun c428 => ?_)
    refine own_aload C (pc' := 189) at_187 rfl rfl rfl ?_
    refine own_iload C (pc' := 191) at_189 rfl rfl ?_
    refine own_callV C (pc' := 194) (y := (⟨"com/example/murmuration/murmuration/search/IndexedSet", "contains", "(I)Z"⟩ : MethodName)) (a := a344) (argsL := [(.int x162)]) (rest := []) 0 F408 (hw _ (List.mem_of_getElem? (i := 36) rfl)) (hw _ (List.mem_of_getElem? (i := 37) rfl)) (hw _ (List.mem_of_getElem? (i := 39) rfl)) (hw _ (List.mem_of_getElem? (i := 38) rfl)) (hw _ (List.mem_of_getElem? (i := 40) rfl)) (hw _ (List.mem_of_getElem? (i := 3) rfl)) (by decide) (own_m7 hw a344 a358 N148 (own_upd (own_upd (fun _ => (-1 : Int32)) A154 (0 : Int32)) B158 (1 : Int32)) x162 X163 (if ((own_upd (own_upd (fun _ => (-1 : Int32)) A154 (0 : Int32)) B158 (1 : Int32)) X163) < 0 then (0 : Int32) else (1 : Int32)) Z415 F410 F413 hX165 (by omega) rfl) (by decide) (by decide) (lenOf own_pd4 rfl) rfl (Nat.le_of_eq rfl) at_191 rfl rfl (by decide) (by decide) (fun v429 h430 hq431 => ?_)
    obtain ⟨rfl, rfl⟩ := hq431
    show own_Run p_ l e_ _ s_ m_ _ b_ mt_ c_ n0 _ h405 _ _ (mkF m_ 194 #[.val (.int p0), .val (.int p1), .val (.int p2), .val (.int p3), .val (.int p4), .val (.int x147), .val (.int x153), .val (.int x157), .val (.int x162), .val (.int (1 : Int32)), .val (.int x153), .val (.int x157), .val (.ref a344), .val (.int (1 : Int32))] [(.int (if ((own_upd (own_upd (fun _ => (-1 : Int32)) A154 (0 : Int32)) B158 (1 : Int32)) X163) < 0 then (0 : Int32) else (1 : Int32)))])
    refine own_iload C (pc' := 196) at_194 rfl rfl ?_
    refine own_iload C (pc' := 198) at_196 rfl rfl ?_
    refine own_ii_eq C (pc1 := 208) (pc2 := 201) at_198 rfl rfl (fun c432 => ?_) (fun c432 => ?_)
    · skip
      refine own_iconst C (pc' := 209) (v := (1 : Int32)) at_208 rfl (by decide) ?_
      refine own_goto C (pc' := 213) at_209 rfl ?_
      refine own_ii_ne C (pc1 := 220) (pc2 := 216) at_213 rfl rfl (fun c433 => absurd c433 (by rw [own_inj hX165 hA156] at c432; simp [own_upd, c432, b160, Ne.symm b160])) (fun c433 => ?_)
      refine own_iconst C (pc' := 217) (v := (1 : Int32)) at_216 rfl (by decide) ?_
      refine own_goto C (pc' := 221) at_217 rfl ?_
      refine own_istore C (pc' := 223) (Ls' := #[.val (.int p0), .val (.int p1), .val (.int p2), .val (.int p3), .val (.int p4), .val (.int x147), .val (.int x153), .val (.int x157), .val (.int x162), .val (.int (1 : Int32)), .val (.int x153), .val (.int x157), .val (.ref a344), .val (.int (1 : Int32))]) at_221 rfl rfl ?_
      refine own_iload C (pc' := 225) at_223 rfl rfl ?_
      refine own_i0_ne C (pc1 := 230) (pc2 := 228) at_225 rfl rfl (fun c434 => ?_) (fun c434 => absurd c434 (by decide))
      refine own_aload C (pc' := 232) at_230 rfl rfl rfl ?_
      refine own_iload C (pc' := 234) at_232 rfl rfl ?_
      refine own_callV C (pc' := 237) (y := (⟨"com/example/murmuration/murmuration/search/IndexedSet", "remove", "(I)V"⟩ : MethodName)) (a := a344) (argsL := [(.int x153)]) (rest := []) 0 F408 (hw _ (List.mem_of_getElem? (i := 41) rfl)) (hw _ (List.mem_of_getElem? (i := 42) rfl)) (hw _ (List.mem_of_getElem? (i := 44) rfl)) (hw _ (List.mem_of_getElem? (i := 43) rfl)) (hw _ (List.mem_of_getElem? (i := 45) rfl)) (hw _ (List.mem_of_getElem? (i := 3) rfl)) (by decide) (own_m8 hw a344 a357 a358 N148 (2 : Int32) (own_upd (own_upd (fun _ => (0 : Int32)) 0 x153) 1 x157) (own_upd (own_upd (fun _ => (-1 : Int32)) A154 (0 : Int32)) B158 (1 : Int32)) x153 A154 1 (0 : Int32) x157 0 B158 (1 : Int32) Z415 F408 ga346 ga360 ga362 ne373 ne374 F372 F409 F410 F411 F412 F413 hA156 (by omega) (by simp [own_upd, b160, Ne.symm b160]) (by decide) (by omega) (by decide) (by omega) rfl hB161 (by omega) (by decide)) (by decide) (by decide) (lenOf own_pd1 rfl) rfl (Nat.le_of_eq rfl) at_234 rfl rfl (by decide) (by decide) (fun v435 h436 hq437 => ?_)
      obtain ⟨rfl, K438, F439, F440, F441, F442, F443, F444⟩ := hq437
      have Z446 : n0 ≤ h436.size := Nat.le_trans Z415 K438.1
      have F447 : Exa Z h436 a344 "com/example/murmuration/murmuration/search/IndexedSet" := Exa.keep F408 K438
      show own_Run p_ l e_ _ s_ m_ _ b_ mt_ c_ n0 _ h436 _ _ (mkF m_ 237 #[.val (.int p0), .val (.int p1), .val (.int p2), .val (.int p3), .val (.int p4), .val (.int x147), .val (.int x153), .val (.int x157), .val (.int x162), .val (.int (1 : Int32)), .val (.int x153), .val (.int x157), .val (.ref a344), .val (.int (1 : Int32))] [])
      refine own_aload C (pc' := 239) at_237 rfl rfl rfl ?_
      refine own_callV C (pc' := 242) (y := (⟨"com/example/murmuration/murmuration/search/IndexedSet", "size", "()I"⟩ : MethodName)) (a := a344) (argsL := []) (rest := []) 0 F439 (hw _ (List.mem_of_getElem? (i := 26) rfl)) (hw _ (List.mem_of_getElem? (i := 27) rfl)) (hw _ (List.mem_of_getElem? (i := 29) rfl)) (hw _ (List.mem_of_getElem? (i := 28) rfl)) (hw _ (List.mem_of_getElem? (i := 30) rfl)) (hw _ (List.mem_of_getElem? (i := 3) rfl)) (by decide) (own_m5 hw a344 (1 : Int32) Z446 F442 ) (by decide) (by decide) (lenOf own_pd2 rfl) rfl (Nat.le_of_eq rfl) at_239 rfl rfl (by decide) (by decide) (fun v448 h449 hq450 => ?_)
      obtain ⟨rfl, rfl⟩ := hq450
      show own_Run p_ l e_ _ s_ m_ _ b_ mt_ c_ n0 _ h436 _ _ (mkF m_ 242 #[.val (.int p0), .val (.int p1), .val (.int p2), .val (.int p3), .val (.int p4), .val (.int x147), .val (.int x153), .val (.int x157), .val (.int x162), .val (.int (1 : Int32)), .val (.int x153), .val (.int x157), .val (.ref a344), .val (.int (1 : Int32))] [(.int (1 : Int32))])
      refine own_iconst C (pc' := 243) (v := (1 : Int32)) at_242 rfl (by decide) ?_
      refine own_ii_ne C (pc1 := 271) (pc2 := 246) at_243 rfl rfl (fun c451 => absurd c451 (by decide)) (fun c451 => ?_)
      refine own_aload C (pc' := 248) at_246 rfl rfl rfl ?_
      refine own_iconst C (pc' := 249) (v := (0 : Int32)) at_248 rfl (by decide) ?_
      refine own_callV C (pc' := 252) (y := (⟨"com/example/murmuration/murmuration/search/IndexedSet", "get", "(I)I"⟩ : MethodName)) (a := a344) (argsL := [(.int (0 : Int32))]) (rest := []) 0 F439 (hw _ (List.mem_of_getElem? (i := 31) rfl)) (hw _ (List.mem_of_getElem? (i := 32) rfl)) (hw _ (List.mem_of_getElem? (i := 34) rfl)) (hw _ (List.mem_of_getElem? (i := 33) rfl)) (hw _ (List.mem_of_getElem? (i := 35) rfl)) (hw _ (List.mem_of_getElem? (i := 3) rfl)) (by decide) (own_m6 hw a344 a357 N148 (own_upd (own_upd (own_upd (fun _ => (0 : Int32)) 0 x153) 1 x157) 0 x157) (0 : Int32) 0 x157 Z446 F440 F443 (by decide) (by omega) rfl) (by decide) (by decide) (lenOf own_pd3 rfl) rfl (Nat.le_of_eq rfl) at_249 rfl rfl (by decide) (by decide) (fun v452 h453 hq454 => ?_)
      obtain ⟨rfl, rfl⟩ := hq454
      show own_Run p_ l e_ _ s_ m_ _ b_ mt_ c_ n0 _ h436 _ _ (mkF m_ 252 #[.val (.int p0), .val (.int p1), .val (.int p2), .val (.int p3), .val (.int p4), .val (.int x147), .val (.int x153), .val (.int x157), .val (.int x162), .val (.int (1 : Int32)), .val (.int x153), .val (.int x157), .val (.ref a344), .val (.int (1 : Int32))] [(.int x157)])
      refine own_iload C (pc' := 254) at_252 rfl rfl ?_
      refine own_ii_ne C (pc1 := 271) (pc2 := 257) at_254 rfl rfl (fun c455 => absurd c455 (not_not_intro rfl)) (fun c455 => ?_)
      refine own_aload C (pc' := 259) at_257 rfl rfl rfl ?_
      refine own_iload C (pc' := 261) at_259 rfl rfl ?_
      refine own_callV C (pc' := 264) (y := (⟨"com/example/murmuration/murmuration/search/IndexedSet", "contains", "(I)Z"⟩ : MethodName)) (a := a344) (argsL := [(.int x153)]) (rest := []) 0 F439 (hw _ (List.mem_of_getElem? (i := 36) rfl)) (hw _ (List.mem_of_getElem? (i := 37) rfl)) (hw _ (List.mem_of_getElem? (i := 39) rfl)) (hw _ (List.mem_of_getElem? (i := 38) rfl)) (hw _ (List.mem_of_getElem? (i := 40) rfl)) (hw _ (List.mem_of_getElem? (i := 3) rfl)) (by decide) (own_m7 hw a344 a358 N148 (own_upd (own_upd (own_upd (own_upd (fun _ => (-1 : Int32)) A154 (0 : Int32)) B158 (1 : Int32)) B158 (0 : Int32)) A154 (-1 : Int32)) x153 A154 (0 : Int32) Z446 F441 F444 hA156 (by omega) (by rw [show ((own_upd (own_upd (own_upd (own_upd (fun _ => (-1 : Int32)) A154 (0 : Int32)) B158 (1 : Int32)) B158 (0 : Int32)) A154 (-1 : Int32)) A154) = (-1 : Int32) from (by simp [own_upd, b160, Ne.symm b160])]; decide)) (by decide) (by decide) (lenOf own_pd4 rfl) rfl (Nat.le_of_eq rfl) at_261 rfl rfl (by decide) (by decide) (fun v456 h457 hq458 => ?_)
      obtain ⟨rfl, rfl⟩ := hq458
      show own_Run p_ l e_ _ s_ m_ _ b_ mt_ c_ n0 _ h436 _ _ (mkF m_ 264 #[.val (.int p0), .val (.int p1), .val (.int p2), .val (.int p3), .val (.int p4), .val (.int x147), .val (.int x153), .val (.int x157), .val (.int x162), .val (.int (1 : Int32)), .val (.int x153), .val (.int x157), .val (.ref a344), .val (.int (1 : Int32))] [(.int (0 : Int32))])
      refine own_i0_ne C (pc1 := 271) (pc2 := 267) at_264 rfl rfl (fun c459 => absurd c459 (by decide)) (fun c459 => ?_)
      refine own_iconst C (pc' := 268) (v := (1 : Int32)) at_267 rfl (by decide) ?_
      refine own_goto C (pc' := 272) at_268 rfl ?_
      exact own_ret C (t := .boolean) rfl rfl (Or.inl ⟨rfl, by simp, _, rfl⟩) at_272 (by decide) (by decide) (rfl)
    · skip
      refine own_iload C (pc' := 203) at_201 rfl rfl ?_
      refine own_iload C (pc' := 205) at_203 rfl rfl ?_
      refine own_ii_ne C (pc1 := 212) (pc2 := 208) at_205 rfl rfl (fun c460 => ?_) (fun c460 => ?_)
      · skip
        refine own_iconst C (pc' := 213) (v := (0 : Int32)) at_212 rfl (by decide) ?_
        refine own_ii_ne C (pc1 := 220) (pc2 := 216) at_213 rfl rfl (fun c461 => absurd c461 (by rw [own_inj hX165 hA156] at c432; rw [own_inj hX165 hB161] at c460; simp [own_upd, c432, c460, b160, Ne.symm b160])) (fun c461 => ?_)
        refine own_iconst C (pc' := 217) (v := (1 : Int32)) at_216 rfl (by decide) ?_
        refine own_goto C (pc' := 221) at_217 rfl ?_
        refine own_istore C (pc' := 223) (Ls' := #[.val (.int p0), .val (.int p1), .val (.int p2), .val (.int p3), .val (.int p4), .val (.int x147), .val (.int x153), .val (.int x157), .val (.int x162), .val (.int (1 : Int32)), .val (.int x153), .val (.int x157), .val (.ref a344), .val (.int (1 : Int32))]) at_221 rfl rfl ?_
        refine own_iload C (pc' := 225) at_223 rfl rfl ?_
        refine own_i0_ne C (pc1 := 230) (pc2 := 228) at_225 rfl rfl (fun c462 => ?_) (fun c462 => absurd c462 (by decide))
        refine own_aload C (pc' := 232) at_230 rfl rfl rfl ?_
        refine own_iload C (pc' := 234) at_232 rfl rfl ?_
        refine own_callV C (pc' := 237) (y := (⟨"com/example/murmuration/murmuration/search/IndexedSet", "remove", "(I)V"⟩ : MethodName)) (a := a344) (argsL := [(.int x153)]) (rest := []) 0 F408 (hw _ (List.mem_of_getElem? (i := 41) rfl)) (hw _ (List.mem_of_getElem? (i := 42) rfl)) (hw _ (List.mem_of_getElem? (i := 44) rfl)) (hw _ (List.mem_of_getElem? (i := 43) rfl)) (hw _ (List.mem_of_getElem? (i := 45) rfl)) (hw _ (List.mem_of_getElem? (i := 3) rfl)) (by decide) (own_m8 hw a344 a357 a358 N148 (2 : Int32) (own_upd (own_upd (fun _ => (0 : Int32)) 0 x153) 1 x157) (own_upd (own_upd (fun _ => (-1 : Int32)) A154 (0 : Int32)) B158 (1 : Int32)) x153 A154 1 (0 : Int32) x157 0 B158 (1 : Int32) Z415 F408 ga346 ga360 ga362 ne373 ne374 F372 F409 F410 F411 F412 F413 hA156 (by omega) (by simp [own_upd, b160, Ne.symm b160]) (by decide) (by omega) (by decide) (by omega) rfl hB161 (by omega) (by decide)) (by decide) (by decide) (lenOf own_pd1 rfl) rfl (Nat.le_of_eq rfl) at_234 rfl rfl (by decide) (by decide) (fun v463 h464 hq465 => ?_)
        obtain ⟨rfl, K466, F467, F468, F469, F470, F471, F472⟩ := hq465
        have Z474 : n0 ≤ h464.size := Nat.le_trans Z415 K466.1
        have F475 : Exa Z h464 a344 "com/example/murmuration/murmuration/search/IndexedSet" := Exa.keep F408 K466
        show own_Run p_ l e_ _ s_ m_ _ b_ mt_ c_ n0 _ h464 _ _ (mkF m_ 237 #[.val (.int p0), .val (.int p1), .val (.int p2), .val (.int p3), .val (.int p4), .val (.int x147), .val (.int x153), .val (.int x157), .val (.int x162), .val (.int (1 : Int32)), .val (.int x153), .val (.int x157), .val (.ref a344), .val (.int (1 : Int32))] [])
        refine own_aload C (pc' := 239) at_237 rfl rfl rfl ?_
        refine own_callV C (pc' := 242) (y := (⟨"com/example/murmuration/murmuration/search/IndexedSet", "size", "()I"⟩ : MethodName)) (a := a344) (argsL := []) (rest := []) 0 F467 (hw _ (List.mem_of_getElem? (i := 26) rfl)) (hw _ (List.mem_of_getElem? (i := 27) rfl)) (hw _ (List.mem_of_getElem? (i := 29) rfl)) (hw _ (List.mem_of_getElem? (i := 28) rfl)) (hw _ (List.mem_of_getElem? (i := 30) rfl)) (hw _ (List.mem_of_getElem? (i := 3) rfl)) (by decide) (own_m5 hw a344 (1 : Int32) Z474 F470 ) (by decide) (by decide) (lenOf own_pd2 rfl) rfl (Nat.le_of_eq rfl) at_239 rfl rfl (by decide) (by decide) (fun v476 h477 hq478 => ?_)
        obtain ⟨rfl, rfl⟩ := hq478
        show own_Run p_ l e_ _ s_ m_ _ b_ mt_ c_ n0 _ h464 _ _ (mkF m_ 242 #[.val (.int p0), .val (.int p1), .val (.int p2), .val (.int p3), .val (.int p4), .val (.int x147), .val (.int x153), .val (.int x157), .val (.int x162), .val (.int (1 : Int32)), .val (.int x153), .val (.int x157), .val (.ref a344), .val (.int (1 : Int32))] [(.int (1 : Int32))])
        refine own_iconst C (pc' := 243) (v := (1 : Int32)) at_242 rfl (by decide) ?_
        refine own_ii_ne C (pc1 := 271) (pc2 := 246) at_243 rfl rfl (fun c479 => absurd c479 (by decide)) (fun c479 => ?_)
        refine own_aload C (pc' := 248) at_246 rfl rfl rfl ?_
        refine own_iconst C (pc' := 249) (v := (0 : Int32)) at_248 rfl (by decide) ?_
        refine own_callV C (pc' := 252) (y := (⟨"com/example/murmuration/murmuration/search/IndexedSet", "get", "(I)I"⟩ : MethodName)) (a := a344) (argsL := [(.int (0 : Int32))]) (rest := []) 0 F467 (hw _ (List.mem_of_getElem? (i := 31) rfl)) (hw _ (List.mem_of_getElem? (i := 32) rfl)) (hw _ (List.mem_of_getElem? (i := 34) rfl)) (hw _ (List.mem_of_getElem? (i := 33) rfl)) (hw _ (List.mem_of_getElem? (i := 35) rfl)) (hw _ (List.mem_of_getElem? (i := 3) rfl)) (by decide) (own_m6 hw a344 a357 N148 (own_upd (own_upd (own_upd (fun _ => (0 : Int32)) 0 x153) 1 x157) 0 x157) (0 : Int32) 0 x157 Z474 F468 F471 (by decide) (by omega) rfl) (by decide) (by decide) (lenOf own_pd3 rfl) rfl (Nat.le_of_eq rfl) at_249 rfl rfl (by decide) (by decide) (fun v480 h481 hq482 => ?_)
        obtain ⟨rfl, rfl⟩ := hq482
        show own_Run p_ l e_ _ s_ m_ _ b_ mt_ c_ n0 _ h464 _ _ (mkF m_ 252 #[.val (.int p0), .val (.int p1), .val (.int p2), .val (.int p3), .val (.int p4), .val (.int x147), .val (.int x153), .val (.int x157), .val (.int x162), .val (.int (1 : Int32)), .val (.int x153), .val (.int x157), .val (.ref a344), .val (.int (1 : Int32))] [(.int x157)])
        refine own_iload C (pc' := 254) at_252 rfl rfl ?_
        refine own_ii_ne C (pc1 := 271) (pc2 := 257) at_254 rfl rfl (fun c483 => absurd c483 (not_not_intro rfl)) (fun c483 => ?_)
        refine own_aload C (pc' := 259) at_257 rfl rfl rfl ?_
        refine own_iload C (pc' := 261) at_259 rfl rfl ?_
        refine own_callV C (pc' := 264) (y := (⟨"com/example/murmuration/murmuration/search/IndexedSet", "contains", "(I)Z"⟩ : MethodName)) (a := a344) (argsL := [(.int x153)]) (rest := []) 0 F467 (hw _ (List.mem_of_getElem? (i := 36) rfl)) (hw _ (List.mem_of_getElem? (i := 37) rfl)) (hw _ (List.mem_of_getElem? (i := 39) rfl)) (hw _ (List.mem_of_getElem? (i := 38) rfl)) (hw _ (List.mem_of_getElem? (i := 40) rfl)) (hw _ (List.mem_of_getElem? (i := 3) rfl)) (by decide) (own_m7 hw a344 a358 N148 (own_upd (own_upd (own_upd (own_upd (fun _ => (-1 : Int32)) A154 (0 : Int32)) B158 (1 : Int32)) B158 (0 : Int32)) A154 (-1 : Int32)) x153 A154 (0 : Int32) Z474 F469 F472 hA156 (by omega) (by rw [show ((own_upd (own_upd (own_upd (own_upd (fun _ => (-1 : Int32)) A154 (0 : Int32)) B158 (1 : Int32)) B158 (0 : Int32)) A154 (-1 : Int32)) A154) = (-1 : Int32) from (by simp [own_upd, b160, Ne.symm b160])]; decide)) (by decide) (by decide) (lenOf own_pd4 rfl) rfl (Nat.le_of_eq rfl) at_261 rfl rfl (by decide) (by decide) (fun v484 h485 hq486 => ?_)
        obtain ⟨rfl, rfl⟩ := hq486
        show own_Run p_ l e_ _ s_ m_ _ b_ mt_ c_ n0 _ h464 _ _ (mkF m_ 264 #[.val (.int p0), .val (.int p1), .val (.int p2), .val (.int p3), .val (.int p4), .val (.int x147), .val (.int x153), .val (.int x157), .val (.int x162), .val (.int (1 : Int32)), .val (.int x153), .val (.int x157), .val (.ref a344), .val (.int (1 : Int32))] [(.int (0 : Int32))])
        refine own_i0_ne C (pc1 := 271) (pc2 := 267) at_264 rfl rfl (fun c487 => absurd c487 (by decide)) (fun c487 => ?_)
        refine own_iconst C (pc' := 268) (v := (1 : Int32)) at_267 rfl (by decide) ?_
        refine own_goto C (pc' := 272) at_268 rfl ?_
        exact own_ret C (t := .boolean) rfl rfl (Or.inl ⟨rfl, by simp, _, rfl⟩) at_272 (by decide) (by decide) (rfl)
      · skip
        refine own_iconst C (pc' := 209) (v := (1 : Int32)) at_208 rfl (by decide) ?_
        refine own_goto C (pc' := 213) at_209 rfl ?_
        refine own_ii_ne C (pc1 := 220) (pc2 := 216) at_213 rfl rfl (fun c488 => absurd c488 (by rw [own_inj hX165 hA156] at c432; rw [own_inj hX165 hB161] at c460; simp [own_upd, c432, c460, b160, Ne.symm b160])) (fun c488 => ?_)
        refine own_iconst C (pc' := 217) (v := (1 : Int32)) at_216 rfl (by decide) ?_
        refine own_goto C (pc' := 221) at_217 rfl ?_
        refine own_istore C (pc' := 223) (Ls' := #[.val (.int p0), .val (.int p1), .val (.int p2), .val (.int p3), .val (.int p4), .val (.int x147), .val (.int x153), .val (.int x157), .val (.int x162), .val (.int (1 : Int32)), .val (.int x153), .val (.int x157), .val (.ref a344), .val (.int (1 : Int32))]) at_221 rfl rfl ?_
        refine own_iload C (pc' := 225) at_223 rfl rfl ?_
        refine own_i0_ne C (pc1 := 230) (pc2 := 228) at_225 rfl rfl (fun c489 => ?_) (fun c489 => absurd c489 (by decide))
        refine own_aload C (pc' := 232) at_230 rfl rfl rfl ?_
        refine own_iload C (pc' := 234) at_232 rfl rfl ?_
        refine own_callV C (pc' := 237) (y := (⟨"com/example/murmuration/murmuration/search/IndexedSet", "remove", "(I)V"⟩ : MethodName)) (a := a344) (argsL := [(.int x153)]) (rest := []) 0 F408 (hw _ (List.mem_of_getElem? (i := 41) rfl)) (hw _ (List.mem_of_getElem? (i := 42) rfl)) (hw _ (List.mem_of_getElem? (i := 44) rfl)) (hw _ (List.mem_of_getElem? (i := 43) rfl)) (hw _ (List.mem_of_getElem? (i := 45) rfl)) (hw _ (List.mem_of_getElem? (i := 3) rfl)) (by decide) (own_m8 hw a344 a357 a358 N148 (2 : Int32) (own_upd (own_upd (fun _ => (0 : Int32)) 0 x153) 1 x157) (own_upd (own_upd (fun _ => (-1 : Int32)) A154 (0 : Int32)) B158 (1 : Int32)) x153 A154 1 (0 : Int32) x157 0 B158 (1 : Int32) Z415 F408 ga346 ga360 ga362 ne373 ne374 F372 F409 F410 F411 F412 F413 hA156 (by omega) (by simp [own_upd, b160, Ne.symm b160]) (by decide) (by omega) (by decide) (by omega) rfl hB161 (by omega) (by decide)) (by decide) (by decide) (lenOf own_pd1 rfl) rfl (Nat.le_of_eq rfl) at_234 rfl rfl (by decide) (by decide) (fun v490 h491 hq492 => ?_)
        obtain ⟨rfl, K493, F494, F495, F496, F497, F498, F499⟩ := hq492
        have Z501 : n0 ≤ h491.size := Nat.le_trans Z415 K493.1
        have F502 : Exa Z h491 a344 "com/example/murmuration/murmuration/search/IndexedSet" := Exa.keep F408 K493
        show own_Run p_ l e_ _ s_ m_ _ b_ mt_ c_ n0 _ h491 _ _ (mkF m_ 237 #[.val (.int p0), .val (.int p1), .val (.int p2), .val (.int p3), .val (.int p4), .val (.int x147), .val (.int x153), .val (.int x157), .val (.int x162), .val (.int (1 : Int32)), .val (.int x153), .val (.int x157), .val (.ref a344), .val (.int (1 : Int32))] [])
        refine own_aload C (pc' := 239) at_237 rfl rfl rfl ?_
        refine own_callV C (pc' := 242) (y := (⟨"com/example/murmuration/murmuration/search/IndexedSet", "size", "()I"⟩ : MethodName)) (a := a344) (argsL := []) (rest := []) 0 F494 (hw _ (List.mem_of_getElem? (i := 26) rfl)) (hw _ (List.mem_of_getElem? (i := 27) rfl)) (hw _ (List.mem_of_getElem? (i := 29) rfl)) (hw _ (List.mem_of_getElem? (i := 28) rfl)) (hw _ (List.mem_of_getElem? (i := 30) rfl)) (hw _ (List.mem_of_getElem? (i := 3) rfl)) (by decide) (own_m5 hw a344 (1 : Int32) Z501 F497 ) (by decide) (by decide) (lenOf own_pd2 rfl) rfl (Nat.le_of_eq rfl) at_239 rfl rfl (by decide) (by decide) (fun v503 h504 hq505 => ?_)
        obtain ⟨rfl, rfl⟩ := hq505
        show own_Run p_ l e_ _ s_ m_ _ b_ mt_ c_ n0 _ h491 _ _ (mkF m_ 242 #[.val (.int p0), .val (.int p1), .val (.int p2), .val (.int p3), .val (.int p4), .val (.int x147), .val (.int x153), .val (.int x157), .val (.int x162), .val (.int (1 : Int32)), .val (.int x153), .val (.int x157), .val (.ref a344), .val (.int (1 : Int32))] [(.int (1 : Int32))])
        refine own_iconst C (pc' := 243) (v := (1 : Int32)) at_242 rfl (by decide) ?_
        refine own_ii_ne C (pc1 := 271) (pc2 := 246) at_243 rfl rfl (fun c506 => absurd c506 (by decide)) (fun c506 => ?_)
        refine own_aload C (pc' := 248) at_246 rfl rfl rfl ?_
        refine own_iconst C (pc' := 249) (v := (0 : Int32)) at_248 rfl (by decide) ?_
        refine own_callV C (pc' := 252) (y := (⟨"com/example/murmuration/murmuration/search/IndexedSet", "get", "(I)I"⟩ : MethodName)) (a := a344) (argsL := [(.int (0 : Int32))]) (rest := []) 0 F494 (hw _ (List.mem_of_getElem? (i := 31) rfl)) (hw _ (List.mem_of_getElem? (i := 32) rfl)) (hw _ (List.mem_of_getElem? (i := 34) rfl)) (hw _ (List.mem_of_getElem? (i := 33) rfl)) (hw _ (List.mem_of_getElem? (i := 35) rfl)) (hw _ (List.mem_of_getElem? (i := 3) rfl)) (by decide) (own_m6 hw a344 a357 N148 (own_upd (own_upd (own_upd (fun _ => (0 : Int32)) 0 x153) 1 x157) 0 x157) (0 : Int32) 0 x157 Z501 F495 F498 (by decide) (by omega) rfl) (by decide) (by decide) (lenOf own_pd3 rfl) rfl (Nat.le_of_eq rfl) at_249 rfl rfl (by decide) (by decide) (fun v507 h508 hq509 => ?_)
        obtain ⟨rfl, rfl⟩ := hq509
        show own_Run p_ l e_ _ s_ m_ _ b_ mt_ c_ n0 _ h491 _ _ (mkF m_ 252 #[.val (.int p0), .val (.int p1), .val (.int p2), .val (.int p3), .val (.int p4), .val (.int x147), .val (.int x153), .val (.int x157), .val (.int x162), .val (.int (1 : Int32)), .val (.int x153), .val (.int x157), .val (.ref a344), .val (.int (1 : Int32))] [(.int x157)])
        refine own_iload C (pc' := 254) at_252 rfl rfl ?_
        refine own_ii_ne C (pc1 := 271) (pc2 := 257) at_254 rfl rfl (fun c510 => absurd c510 (not_not_intro rfl)) (fun c510 => ?_)
        refine own_aload C (pc' := 259) at_257 rfl rfl rfl ?_
        refine own_iload C (pc' := 261) at_259 rfl rfl ?_
        refine own_callV C (pc' := 264) (y := (⟨"com/example/murmuration/murmuration/search/IndexedSet", "contains", "(I)Z"⟩ : MethodName)) (a := a344) (argsL := [(.int x153)]) (rest := []) 0 F494 (hw _ (List.mem_of_getElem? (i := 36) rfl)) (hw _ (List.mem_of_getElem? (i := 37) rfl)) (hw _ (List.mem_of_getElem? (i := 39) rfl)) (hw _ (List.mem_of_getElem? (i := 38) rfl)) (hw _ (List.mem_of_getElem? (i := 40) rfl)) (hw _ (List.mem_of_getElem? (i := 3) rfl)) (by decide) (own_m7 hw a344 a358 N148 (own_upd (own_upd (own_upd (own_upd (fun _ => (-1 : Int32)) A154 (0 : Int32)) B158 (1 : Int32)) B158 (0 : Int32)) A154 (-1 : Int32)) x153 A154 (0 : Int32) Z501 F496 F499 hA156 (by omega) (by rw [show ((own_upd (own_upd (own_upd (own_upd (fun _ => (-1 : Int32)) A154 (0 : Int32)) B158 (1 : Int32)) B158 (0 : Int32)) A154 (-1 : Int32)) A154) = (-1 : Int32) from (by simp [own_upd, b160, Ne.symm b160])]; decide)) (by decide) (by decide) (lenOf own_pd4 rfl) rfl (Nat.le_of_eq rfl) at_261 rfl rfl (by decide) (by decide) (fun v511 h512 hq513 => ?_)
        obtain ⟨rfl, rfl⟩ := hq513
        show own_Run p_ l e_ _ s_ m_ _ b_ mt_ c_ n0 _ h491 _ _ (mkF m_ 264 #[.val (.int p0), .val (.int p1), .val (.int p2), .val (.int p3), .val (.int p4), .val (.int x147), .val (.int x153), .val (.int x157), .val (.int x162), .val (.int (1 : Int32)), .val (.int x153), .val (.int x157), .val (.ref a344), .val (.int (1 : Int32))] [(.int (0 : Int32))])
        refine own_i0_ne C (pc1 := 271) (pc2 := 267) at_264 rfl rfl (fun c514 => absurd c514 (by decide)) (fun c514 => ?_)
        refine own_iconst C (pc' := 268) (v := (1 : Int32)) at_267 rfl (by decide) ?_
        refine own_goto C (pc' := 272) at_268 rfl ?_
        exact own_ret C (t := .boolean) rfl rfl (Or.inl ⟨rfl, by simp, _, rfl⟩) at_272 (by decide) (by decide) (rfl)
set_option maxRecDepth 65536 in
set_option maxHeartbeats 40000000 in
theorem own_comes {Post : Tables → Env → Array Value → State → Outcome → State → Prop} (hpost : ∀ tb e args s v u, (limb_1_1.after args s (.returned v) u = true ∧ limb_1_2.after args s (.returned v) u = true ∧ True) → FrameEnd s (.returned v) u (Jvm.fieldLocs frame_1_writes args s ++ Jvm.arrayLocs frame_1_arrays args s ++ Jvm.staticLocs frame_1_statics s) 16 128 → Post tb e args s (.returned v) u) :
    ArmFor flags0 classFile x code maxLocals ret World_1 tables_1 room_1 Calls_1 rest_1 Pre_1 Post := by
  intro l hfl _ _ p e ha hc hk s m args below hf hA hF happ hP
  obtain ⟨hcalls, hrest, hpre⟩ := hP
  obtain ⟨-, -, -, hnamed, -, -, -, hat⟩ := (Spec.applies_iff hf).mp happ
  obtain ⟨hg, hn⟩ := and_e (Cond.before_iff.mp (show (Jvm.Cond.and given_1 narrow_1).before args s = true from hpre))
  obtain ⟨g0, r0⟩ := and_e hg
  obtain ⟨q0, r1⟩ := and_e r0
  obtain ⟨q1, r2⟩ := and_e r1
  obtain ⟨q2, r3⟩ := and_e r2
  obtain ⟨q3, r4⟩ := and_e r3
  obtain ⟨w0, w1, w2, w3, w4, rfl⟩ : ∃ w0 w1 w2 w3 w4 : Value, args = #[w0, w1, w2, w3, w4] := by
    have hs : args.size = 5 := by simpa [Cond.value, given_1] using g0
    obtain ⟨L⟩ := args
    match L, hs with
    | [w0, w1, w2, w3, w4], _ => exact ⟨w0, w1, w2, w3, w4, rfl⟩
  have hw := fun d (hd : d ∈ tables_1) => atoms_spec (ws := Jvm.Cond.code x code maxLocals ret :: tables_1) hat d (List.mem_cons_of_mem _ hd)
  obtain ⟨i0, ei0⟩ := is_v q0
  obtain rfl : w0 = (.int i0) := Option.some.inj ei0
  obtain ⟨i1, ei1⟩ := is_v q1
  obtain rfl : w1 = (.int i1) := Option.some.inj ei1
  obtain ⟨i2, ei2⟩ := is_v q2
  obtain rfl : w2 = (.int i2) := Option.some.inj ei2
  obtain ⟨i3, ei3⟩ := is_v q3
  obtain rfl : w3 = (.int i3) := Option.some.inj ei3
  obtain ⟨i4, ei4⟩ := is_v r4
  obtain rfl : w4 = (.int i4) := Option.some.inj ei4
  obtain ⟨n, o, h1, h2, h3, _, L, rfl, ⟨N, rfl⟩, hq⟩ := own_law (l := l) (Z := s) hw (n0 := s.heap.size) (ws := tables_1) (h := s.heap) i0 i1 i2 i3 i4 (Nat.le_refl _)  p e ha hc hk s m _ below hf ((Spec.applies_iff_loose hf).mp happ).1 ⟨rfl, State.Warmed39.refl s, rfl⟩ trivial
  refine ⟨n, _, h1, h2, h3, hpost _ _ _ _ _ _ ⟨Cond.after_iff.mpr rfl, Cond.after_iff.mpr (eq_i res_at (Term.int_eval (1)) rfl), trivial⟩ ⟨hq.1, hq.2.1, (hq.2.2.sift fun y hy => Or.inr (N y hy)).mono (by decide) (by decide)⟩⟩
theorem main_1_1 : Claimed_1_1 := own_comes fun _ _ _ _ _ _ h hF => ⟨h.1, hF⟩
theorem main_1_2 : Claimed_1_2 := own_comes fun _ _ _ _ _ _ h hF => ⟨h.2.1, hF⟩
end Jvm.Pilot.@@N@@
namespace Jvm.Pilot.@@N@@
open Jvm Jvm.ClassFile Sem Op Lib Jvm.Free Jvm.Stand Jvm.Pilot.@@N@@.Jvm.D
/-! MADE BY PROGRAM (witnessworld.py) out of the Statement's table words and the real class files: 10 classes; the members and pool entries that the words name. The judged class is class 1, her method 1. -/
namespace start1
open Jvm.ClassFile
def u (s : String) : CpInfo := .utf8 (stringToUtf16 s)
/-- a pool by its gaps: so many unusable entries, then the entry; so many at the end -/
def gap : Nat → List CpInfo → List CpInfo
  | 0, r => r
  | n + 1, r => .unusable :: gap n r
def poolList (es : List (Nat × CpInfo)) (last : Nat) : List CpInfo := es.foldr (fun e r => gap e.1 (e.2 :: r)) (gap last [])
def pool (es : List (Nat × CpInfo)) (last : Nat) : Array CpInfo := ⟨poolList es last⟩
def fileOf (pool : Array CpInfo) (this : Nat) (attrs : Array Attribute := #[]) (ms : Array MethodInfo := #[]) (fl : Nat := 33) (sup : Nat := 0) (ifs : Array Nat := #[]) (fds : Array FieldInfo := #[]) : ClassFile where
  minorVersion := 0
  majorVersion := 65
  constantPool := pool
  accessFlags := fl
  thisClass := this
  superClass := sup
  interfaces := ifs
  fields := fds
  methods := ms
  attributes := attrs
def plain (name : String) (sup : Option ClassId) : Class where
  name := name
  kind := .ordinary
  loader := none
  accessFlags := 33
  super := sup
  interfaces := #[]
  cf := none
  fields := #[]
  methods := #[]
  instanceTypes := #[]
  staticTypes := #[]
  resolved := #[]
  callSites := []
  init := .initialized
  statics := none
  mirror := none

def pool0 : Array CpInfo := pool [(5, u "<init>"), (0, u "()V"), (1, .class_ 10), (1, u "java/lang/Object")] 113

def k0c0 : Code := { maxStack := 0, maxLocals := 1, code := object_method_1_code, exceptionTable := #[], attributes := #[] }
def k0m0 : Method := { name := "<init>", desc := "()V", sig := { parameters := [], returnType := none }, accessFlags := 1, code := some k0c0 }
/-- java/lang/Object -/
def k0 : Class := { plain "java/lang/Object" none with
  accessFlags := 33
  interfaces := #[]
  cf := some (fileOf pool0 8 #[] #[{ accessFlags := 1, nameIndex := 5, descriptorIndex := 6, attributes := #[] }] 33 0 #[] #[])
  fields := #[]
  methods := #[k0m0]
  instanceTypes := #[]
  staticTypes := #[]
  resolved := Array.replicate 124 none
  statics := none }

def pool1 : Array CpInfo := pool [(2, .class_ 4), (1, u "java/lang/Object"), (0, u "<init>"), (0, u "()V"), (0, .integer 2147483647), (0, .class_ 9), (0, u "com/example/murmuration/murmuration/search/IndexedSet"), (0, .methodref 8 11), (0, .nameAndType 5 12), (0, u "(I)V"), (0, .methodref 8 14), (0, .nameAndType 15 12), (0, u "add"), (0, .methodref 8 17), (0, .nameAndType 18 19), (0, u "size"), (0, u "()I"), (0, .methodref 8 21), (0, .nameAndType 22 23), (0, u "get"), (0, u "(I)I"), (0, .methodref 8 25), (0, .nameAndType 26 27), (0, u "contains"), (0, u "(I)Z"), (0, .methodref 8 29), (0, .nameAndType 30 12), (0, u "remove"), (0, .class_ 32), (0, u "com/example/murmuration/murmuration/search/IndexedSetAddPinLaw"), (2, u "law"), (0, u "(IIIII)Z")] 3

def k1m0 : Method := { name := "<init>", desc := "()V", sig := { parameters := [], returnType := none }, accessFlags := 2, code := none }
def k1c1 : Code := { maxStack := 4, maxLocals := 14, code := code, exceptionTable := #[], attributes := #[] }
def k1m1 : Method := { name := "law", desc := "(IIIII)Z", sig := { parameters := [.int, .int, .int, .int, .int], returnType := some .boolean }, accessFlags := 9, code := some k1c1 }
/-- com/example/murmuration/murmuration/search/IndexedSetAddPinLaw -/
def k1 : Class := { plain "com/example/murmuration/murmuration/search/IndexedSetAddPinLaw" (some 0) with
  accessFlags := 49
  interfaces := #[]
  cf := some (fileOf pool1 31 #[] #[{ accessFlags := 2, nameIndex := 5, descriptorIndex := 6, attributes := #[] }, { accessFlags := 9, nameIndex := 35, descriptorIndex := 36, attributes := #[] }] 49 2 #[] #[])
  fields := #[]
  methods := #[k1m0, k1m1]
  instanceTypes := #[]
  staticTypes := #[]
  resolved := Array.replicate 40 none
  statics := none }

def pool2 : Array CpInfo := pool [(1, .methodref 2 3), (0, .class_ 4), (0, .nameAndType 5 6), (0, u "java/lang/Object"), (0, u "<init>"), (0, u "()V"), (0, .fieldref 8 9), (0, .class_ 10), (0, .nameAndType 11 12), (0, u "com/example/murmuration/murmuration/search/IndexedSet"), (0, u "members"), (0, u "[I"), (0, .fieldref 8 14), (0, .nameAndType 15 12), (0, u "positions"), (0, .methodref 17 18), (0, .class_ 19), (0, .nameAndType 20 21), (0, u "java/util/Arrays"), (0, u "fill"), (0, u "([II)V"), (0, .fieldref 8 23), (0, .nameAndType 24 25), (0, u "size"), (0, u "I"), (0, u "(I)V"), (2, u "()I"), (0, u "contains"), (0, u "(I)Z"), (1, u "get"), (0, u "(I)I"), (0, u "add"), (0, u "remove")] 3

def k2c0 : Code := { maxStack := 2, maxLocals := 2, code := prog_28_method_1_code, exceptionTable := #[], attributes := #[] }
def k2m0 : Method := { name := "<init>", desc := "(I)V", sig := { parameters := [.int], returnType := none }, accessFlags := 0, code := some k2c0 }
def k2c1 : Code := { maxStack := 1, maxLocals := 1, code := prog_28_method_2_code, exceptionTable := #[], attributes := #[] }
def k2m1 : Method := { name := "size", desc := "()I", sig := { parameters := [], returnType := some .int }, accessFlags := 0, code := some k2c1 }
def k2c2 : Code := { maxStack := 2, maxLocals := 2, code := prog_28_method_3_code, exceptionTable := #[], attributes := #[] }
def k2m2 : Method := { name := "contains", desc := "(I)Z", sig := { parameters := [.int], returnType := some .boolean }, accessFlags := 0, code := some k2c2 }
def k2c3 : Code := { maxStack := 2, maxLocals := 2, code := prog_28_method_4_code, exceptionTable := #[], attributes := #[] }
def k2m3 : Method := { name := "get", desc := "(I)I", sig := { parameters := [.int], returnType := some .int }, accessFlags := 0, code := some k2c3 }
def k2c4 : Code := { maxStack := 5, maxLocals := 2, code := prog_28_method_5_code, exceptionTable := #[], attributes := #[] }
def k2m4 : Method := { name := "add", desc := "(I)V", sig := { parameters := [.int], returnType := none }, accessFlags := 0, code := some k2c4 }
def k2c5 : Code := { maxStack := 4, maxLocals := 4, code := prog_28_method_6_code, exceptionTable := #[], attributes := #[] }
def k2m5 : Method := { name := "remove", desc := "(I)V", sig := { parameters := [.int], returnType := none }, accessFlags := 0, code := some k2c5 }
/-- com/example/murmuration/murmuration/search/IndexedSet -/
def k2 : Class := { plain "com/example/murmuration/murmuration/search/IndexedSet" (some 0) with
  accessFlags := 48
  interfaces := #[]
  cf := some (fileOf pool2 8 #[] #[{ accessFlags := 0, nameIndex := 5, descriptorIndex := 26, attributes := #[] }, { accessFlags := 0, nameIndex := 24, descriptorIndex := 29, attributes := #[] }, { accessFlags := 0, nameIndex := 30, descriptorIndex := 31, attributes := #[] }, { accessFlags := 0, nameIndex := 33, descriptorIndex := 34, attributes := #[] }, { accessFlags := 0, nameIndex := 35, descriptorIndex := 26, attributes := #[] }, { accessFlags := 0, nameIndex := 36, descriptorIndex := 26, attributes := #[] }] 48 2 #[] #[{ accessFlags := 18, nameIndex := 11, descriptorIndex := 12, attributes := #[] }, { accessFlags := 18, nameIndex := 15, descriptorIndex := 12, attributes := #[] }, { accessFlags := 2, nameIndex := 24, descriptorIndex := 25, attributes := #[] }])
  fields := #[{ name := "members", type := (.array .int), accessFlags := 18, slot := 0, constantValue := 0 }, { name := "positions", type := (.array .int), accessFlags := 18, slot := 1, constantValue := 0 }, { name := "size", type := .int, accessFlags := 2, slot := 2, constantValue := 0 }]
  methods := #[k2m0, k2m1, k2m2, k2m3, k2m4, k2m5]
  instanceTypes := #[(.array .int), (.array .int), .int]
  staticTypes := #[]
  resolved := Array.replicate 40 none
  statics := none }

def pool3 : Array CpInfo := pool [(2, .class_ 4), (1, u "java/lang/Object"), (0, u "<init>"), (0, u "()V"), (7, .class_ 16), (1, u "java/util/Arrays"), (57, .class_ 76), (1, u "java/util/Arrays$NaturalOrder"), (36, .class_ 115), (1, u "java/util/Arrays$LegacyMergeSort"), (1, u "Z"), (257, .class_ 376), (0, u "java/util/Arrays$ArrayList"), (68, u "$assertionsDisabled"), (269, u "MIN_ARRAY_SORT_GRAN"), (0, u "I"), (2, u "INSERTIONSORT_THRESHOLD"), (120, u "fill"), (4, u "([II)V"), (129, .class_ 976), (0, u "java/util/Arrays$ArrayItr")] 52

def k3m0 : Method := { name := "<init>", desc := "()V", sig := { parameters := [], returnType := none }, accessFlags := 2, code := none }
def k3c1 : Code := { maxStack := 3, maxLocals := 4, code := jdk_65_method_103_code, exceptionTable := #[], attributes := #[] }
def k3m1 : Method := { name := "fill", desc := "([II)V", sig := { parameters := [(.array .int), .int], returnType := none }, accessFlags := 9, code := some k3c1 }
/-- java/util/Arrays -/
def k3 : Class := { plain "java/util/Arrays" (some 0) with
  accessFlags := 49
  interfaces := #[]
  cf := some (fileOf pool3 14 #[.nestMembers #[975, 375, 113, 74]] #[{ accessFlags := 2, nameIndex := 5, descriptorIndex := 6, attributes := #[] }, { accessFlags := 9, nameIndex := 840, descriptorIndex := 845, attributes := #[] }] 49 2 #[] #[{ accessFlags := 26, nameIndex := 715, descriptorIndex := 716, attributes := #[] }, { accessFlags := 26, nameIndex := 719, descriptorIndex := 716, attributes := #[] }, { accessFlags := 4120, nameIndex := 445, descriptorIndex := 117, attributes := #[] }])
  fields := #[{ name := "MIN_ARRAY_SORT_GRAN", type := .int, accessFlags := 26, slot := 0, constantValue := 0 }, { name := "INSERTIONSORT_THRESHOLD", type := .int, accessFlags := 26, slot := 1, constantValue := 0 }, { name := "$assertionsDisabled", type := .boolean, accessFlags := 4120, slot := 2, constantValue := 0 }]
  methods := #[k3m0, k3m1]
  instanceTypes := #[]
  staticTypes := #[.int, .int, .boolean]
  resolved := Array.replicate 1029 none
  statics := none }

def pool4 : Array CpInfo := pool [(1, u "java/lang/Cloneable"), (0, .class_ 1), (0, u "java/lang/Object"), (0, .class_ 3)] 3

/-- java/lang/Cloneable -/
def k4 : Class := { plain "java/lang/Cloneable" (some 0) with
  accessFlags := 1537
  interfaces := #[]
  cf := some (fileOf pool4 2 #[] #[] 1537 4 #[] #[])
  fields := #[]
  methods := #[]
  instanceTypes := #[]
  staticTypes := #[]
  resolved := Array.replicate 8 none
  statics := none }

def pool5 : Array CpInfo := pool [(1, u "java/io/Serializable"), (0, .class_ 1), (0, u "java/lang/Object"), (0, .class_ 3)] 3

/-- java/io/Serializable -/
def k5 : Class := { plain "java/io/Serializable" (some 0) with
  accessFlags := 1537
  interfaces := #[]
  cf := some (fileOf pool5 2 #[] #[] 1537 4 #[] #[])
  fields := #[]
  methods := #[]
  instanceTypes := #[]
  staticTypes := #[]
  resolved := Array.replicate 8 none
  statics := none }

/-- the primitive byte -/
def k6 : Class := { plain "byte" none with kind := .primitive 'B', accessFlags := 0x411 }
/-- [B -/
def k7 : Class := { plain "[B" (some 0) with kind := .array 6 .byte, interfaces := #[4, 5], accessFlags := 1041 }

/-- the primitive int -/
def k8 : Class := { plain "int" none with kind := .primitive 'I', accessFlags := 0x411 }
/-- [I -/
def k9 : Class := { plain "[I" (some 0) with kind := .array 8 .int, interfaces := #[4, 5], accessFlags := 1041 }

def heap : Heap := #[]
def classes : Array Class := #[k0, k1, k2, k3, k4, k5, k6, k7, k8, k9]
def interned : List (Array UInt16 × Addr) := []
def slotsUsed : Nat := 0
def theMethod : MethodId := ⟨1, 1⟩
def args0 : Array Value := #[.int 5, .int 7, .int 6, .int 3, .int 1]
def aboutOver (below : List Frame) : State where
  vm := { classes := classes, interned := interned.toArray }
  heap := heap
  slotsUsed := slotsUsed
  threads := #[{ frames := .invoking theMethod args0 :: below }]
def below0 : List Frame := [.native { method := ⟨0, 0⟩, args := #[] }]
def about1 : State := aboutOver below0
def p0 : Program := .bare "" "" ""
def e0 : Env := launch0.env 0 0 0
theorem w_frames : about1.frames = Frame.invoking theMethod args0 :: below0 := rfl
set_option maxRecDepth 65536 in
theorem w_args : argsFit about1.vm theMethod args0 = true := by decide +kernel
set_option maxRecDepth 65536 in
theorem w_heap : heapFits about1 = true := by decide +kernel
set_option maxRecDepth 65536 in
theorem w_runnable : about1.curStatus? = some .runnable := by decide +kernel
set_option maxRecDepth 65536 in
theorem w_alone : about1.alone = true := by decide +kernel
set_option maxRecDepth 65536 in
theorem w_named : about1.methodNamed? x = some theMethod := by decide +kernel
set_option maxRecDepth 65536 in
theorem w_hears : about1.hears theMethod below0 = true := by decide +kernel
set_option maxRecDepth 65536 in
theorem w_ripe : about1.ripe theMethod args0 below0 = true := by decide +kernel
theorem w_running : about1.status = .running := rfl
set_option maxRecDepth 65536 in
theorem w_room : about1.hasRoom e0.platform room_1 = true :=
  launch0.hasRoom_least _ room_1 (by decide +kernel) (by decide +kernel) (by decide +kernel) (by decide +kernel) (by decide +kernel) (by decide +kernel)
theorem allAtoms_all (ts : List Jvm.Cond) (a : Array Jvm.Value) (st : Jvm.State) : (allAtoms ts).before a st = ts.all (fun c => c.before a st) := by
  induction ts with
  | nil => rfl
  | cons c t ih =>
    show (Jvm.Cond.and c (allAtoms t)).before a st = _
    rw [Jvm.Cond.before_and, ih, List.all_cons]
def words1 : List Jvm.Cond := Jvm.Cond.code x code maxLocals ret :: tables_1
/-- a 'code' word, met by the world's own term for the bytes: nothing is compared byte by byte -/
theorem code_word {y : MethodName} {bytes : ByteArray} {mx : Nat} {rt : Option FieldType} {a : Array Value} {s : State} {m : MethodId} {meth : Method} {c : Code} (h1 : s.methodNamed? y = some m) (h2 : s.vm.method? m = some meth) (h3 : meth.code = some c) (h4 : c.code = bytes)
    (h5 : (c.maxLocals == mx && c.exceptionTable.isEmpty && decide (c.maxStack ≤ mostOperands) && decide (meth.sig.returnType = rt) && !meth.locks && decide (parseMethodDescriptor y.desc = some meth.sig)) = true) : (Jvm.Cond.code y bytes mx rt).before a s = true := by
  simp only [Bool.and_eq_true, beq_iff_eq, Bool.not_eq_true', decide_eq_true_eq] at h5
  obtain ⟨⟨⟨⟨⟨g1, g2⟩, g3⟩, g4⟩, g5⟩, g6⟩ := h5
  simp [Cond.before, Cond.holds, Cond.value, h1, h2, h3, h4, g1, g2, g3, g4, g5, g6]
def isCode : Jvm.Cond → Bool
  | .code _ _ _ _ => true
  | _ => false
theorem all_split {L : List Jvm.Cond} {P : Jvm.Cond → Bool} (h1 : L.all (fun c => isCode c || P c) = true) (h2 : ∀ c ∈ L.filter isCode, P c = true) : L.all P = true := by
  refine List.all_eq_true.mpr fun c hc => ?_
  have h := List.all_eq_true.mp h1 c hc
  rcases Bool.eq_false_or_eq_true (isCode c) with hi | hi
  · exact h2 c (List.mem_filter.mpr ⟨hc, hi⟩)
  · simpa [hi] using h
set_option maxRecDepth 65536 in
theorem w_c0 : (Jvm.Cond.code x code maxLocals ret).before args0 about1 = true := code_word (m := ⟨1, 1⟩) (meth := k1m1) (c := k1c1) (by decide +kernel) rfl rfl rfl (by decide +kernel)
set_option maxRecDepth 65536 in
theorem w_c1 : (Jvm.Cond.code ({ cls := "com/example/murmuration/murmuration/search/IndexedSet", name := "<init>", desc := "(I)V" } : Jvm.MethodName) prog_28_method_1_code (2 : Nat) (Option.none : Option Jvm.ClassFile.FieldType)).before args0 about1 = true := code_word (m := ⟨2, 0⟩) (meth := k2m0) (c := k2c0) (by decide +kernel) rfl rfl rfl (by decide +kernel)
set_option maxRecDepth 65536 in
theorem w_c2 : (Jvm.Cond.code ({ cls := "java/lang/Object", name := "<init>", desc := "()V" } : Jvm.MethodName) object_method_1_code (1 : Nat) (Option.none : Option Jvm.ClassFile.FieldType)).before args0 about1 = true := code_word (m := ⟨0, 0⟩) (meth := k0m0) (c := k0c0) (by decide +kernel) rfl rfl rfl (by decide +kernel)
set_option maxRecDepth 65536 in
theorem w_c3 : (Jvm.Cond.code ({ cls := "java/util/Arrays", name := "fill", desc := "([II)V" } : Jvm.MethodName) jdk_65_method_103_code (4 : Nat) (Option.none : Option Jvm.ClassFile.FieldType)).before args0 about1 = true := code_word (m := ⟨3, 1⟩) (meth := k3m1) (c := k3c1) (by decide +kernel) rfl rfl rfl (by decide +kernel)
set_option maxRecDepth 65536 in
theorem w_c4 : (Jvm.Cond.code ({ cls := "com/example/murmuration/murmuration/search/IndexedSet", name := "add", desc := "(I)V" } : Jvm.MethodName) prog_28_method_5_code (2 : Nat) (Option.none : Option Jvm.ClassFile.FieldType)).before args0 about1 = true := code_word (m := ⟨2, 4⟩) (meth := k2m4) (c := k2c4) (by decide +kernel) rfl rfl rfl (by decide +kernel)
set_option maxRecDepth 65536 in
theorem w_c5 : (Jvm.Cond.code ({ cls := "com/example/murmuration/murmuration/search/IndexedSet", name := "size", desc := "()I" } : Jvm.MethodName) prog_28_method_2_code (1 : Nat) (Option.some Jvm.ClassFile.FieldType.int)).before args0 about1 = true := code_word (m := ⟨2, 1⟩) (meth := k2m1) (c := k2c1) (by decide +kernel) rfl rfl rfl (by decide +kernel)
set_option maxRecDepth 65536 in
theorem w_c6 : (Jvm.Cond.code ({ cls := "com/example/murmuration/murmuration/search/IndexedSet", name := "get", desc := "(I)I" } : Jvm.MethodName) prog_28_method_4_code (2 : Nat) (Option.some Jvm.ClassFile.FieldType.int)).before args0 about1 = true := code_word (m := ⟨2, 3⟩) (meth := k2m3) (c := k2c3) (by decide +kernel) rfl rfl rfl (by decide +kernel)
set_option maxRecDepth 65536 in
theorem w_c7 : (Jvm.Cond.code ({ cls := "com/example/murmuration/murmuration/search/IndexedSet", name := "contains", desc := "(I)Z" } : Jvm.MethodName) prog_28_method_3_code (2 : Nat) (Option.some Jvm.ClassFile.FieldType.boolean)).before args0 about1 = true := code_word (m := ⟨2, 2⟩) (meth := k2m2) (c := k2c2) (by decide +kernel) rfl rfl rfl (by decide +kernel)
set_option maxRecDepth 65536 in
theorem w_c8 : (Jvm.Cond.code ({ cls := "com/example/murmuration/murmuration/search/IndexedSet", name := "remove", desc := "(I)V" } : Jvm.MethodName) prog_28_method_6_code (4 : Nat) (Option.none : Option Jvm.ClassFile.FieldType)).before args0 about1 = true := code_word (m := ⟨2, 5⟩) (meth := k2m5) (c := k2c5) (by decide +kernel) rfl rfl rfl (by decide +kernel)
def codes1 : List Jvm.Cond := [Jvm.Cond.code x code maxLocals ret, Jvm.Cond.code ({ cls := "com/example/murmuration/murmuration/search/IndexedSet", name := "<init>", desc := "(I)V" } : Jvm.MethodName) prog_28_method_1_code (2 : Nat) (Option.none : Option Jvm.ClassFile.FieldType), Jvm.Cond.code ({ cls := "java/lang/Object", name := "<init>", desc := "()V" } : Jvm.MethodName) object_method_1_code (1 : Nat) (Option.none : Option Jvm.ClassFile.FieldType), Jvm.Cond.code ({ cls := "java/util/Arrays", name := "fill", desc := "([II)V" } : Jvm.MethodName) jdk_65_method_103_code (4 : Nat) (Option.none : Option Jvm.ClassFile.FieldType), Jvm.Cond.code ({ cls := "com/example/murmuration/murmuration/search/IndexedSet", name := "add", desc := "(I)V" } : Jvm.MethodName) prog_28_method_5_code (2 : Nat) (Option.none : Option Jvm.ClassFile.FieldType), Jvm.Cond.code ({ cls := "com/example/murmuration/murmuration/search/IndexedSet", name := "size", desc := "()I" } : Jvm.MethodName) prog_28_method_2_code (1 : Nat) (Option.some Jvm.ClassFile.FieldType.int), Jvm.Cond.code ({ cls := "com/example/murmuration/murmuration/search/IndexedSet", name := "get", desc := "(I)I" } : Jvm.MethodName) prog_28_method_4_code (2 : Nat) (Option.some Jvm.ClassFile.FieldType.int), Jvm.Cond.code ({ cls := "com/example/murmuration/murmuration/search/IndexedSet", name := "contains", desc := "(I)Z" } : Jvm.MethodName) prog_28_method_3_code (2 : Nat) (Option.some Jvm.ClassFile.FieldType.boolean), Jvm.Cond.code ({ cls := "com/example/murmuration/murmuration/search/IndexedSet", name := "remove", desc := "(I)V" } : Jvm.MethodName) prog_28_method_6_code (4 : Nat) (Option.none : Option Jvm.ClassFile.FieldType)]
set_option maxRecDepth 65536 in
theorem codes_eq : words1.filter isCode = codes1 := rfl
theorem w_codes : ∀ c ∈ words1.filter isCode, c.before args0 about1 = true := by
  rw [codes_eq]
  intro c hc
  simp only [codes1, List.mem_cons, List.not_mem_nil, or_false] at hc
  rcases hc with rfl | rfl | rfl | rfl | rfl | rfl | rfl | rfl | rfl
  · exact w_c0
  · exact w_c1
  · exact w_c2
  · exact w_c3
  · exact w_c4
  · exact w_c5
  · exact w_c6
  · exact w_c7
  · exact w_c8
set_option maxRecDepth 65536 in
theorem w_t1 : (words1.take 24).all (fun c => isCode c || c.before args0 about1) = true := by decide +kernel
set_option maxRecDepth 65536 in
theorem w_t2 : (words1.drop 24).all (fun c => isCode c || c.before args0 about1) = true := by decide +kernel
theorem w_tables : (allAtoms (Jvm.Cond.code x code maxLocals ret :: tables_1)).before args0 about1 = true := by
  rw [allAtoms_all]
  show words1.all (fun c => c.before args0 about1) = true
  refine all_split ?_ w_codes
  rw [← List.take_append_drop 24 words1, List.all_append, w_t1, w_t2]
  rfl
set_option maxRecDepth 65536 in
theorem w_case : (Jvm.Cond.and given_1 narrow_1).before args0 about1 = true := by decide +kernel
theorem w_applies : (headSpec (Jvm.Cond.code x code maxLocals ret :: tables_1) room_1).applies x e0.platform about1 = true :=
  (Spec.applies_iff w_frames).mpr ⟨w_running, w_runnable, w_alone, w_named, w_hears, w_ripe, w_room, w_tables⟩
theorem atStart : AtStart classFile x code maxLocals ret World_1 tables_1 room_1 Calls_1 rest_1 Pre_1 launch0 p0 e0 about1 theMethod args0 below0 :=
  ⟨lists_1, trivial, launch0.admits_env _ _ _, launch0.least_env, fairChoices_fair.cas, fairChoices_fair.clock, w_frames, w_args, w_heap, w_applies, trivial, trivial, w_case⟩
end start1
theorem witness_1 : WitnessClaimed_1 := ⟨start1.p0, start1.e0, start1.about1, start1.theMethod, start1.args0, start1.below0, start1.atStart⟩
end Jvm.Pilot.@@N@@
