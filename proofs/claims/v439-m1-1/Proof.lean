import JvmDerived
import JvmDerived.Pilot.@@N@@Statement
import JvmDerived.Pilot.@@N@@Code
set_option linter.unusedVariables false
set_option linter.unusedSimpArgs false
namespace Jvm.Pilot.@@N@@
open Jvm Jvm.ClassFile Sem Op Lib Jvm.Free Jvm.Stand Jvm.LawKit Jvm.RoadKit Bundle Jvm.Pilot.@@N@@.Jvm.D
section Own
variable {p : Program} {l : Launch} {e : Env} {R : Room} {s : State} {m : MethodId} {args : Array Value} {below : List Frame} {meth : Method} {c : Code} {Z : State} {a0 : Array Value} {n0 : Nat} {Q : Option Value → Heap → Prop} {Kf : State → Outcome → Prop} {h : Heap} {k q : Nat} {own nm : String} {bytes : ByteArray} {maxL : Nat} {ret : Option FieldType} {pc pc' pc1 pc2 : Nat} {Ls Ls' : Array Slot} {rest : List Value}
/-- how a run of the body ends: it returns, nothing old is written, and Q holds of what is returned and of the heap -/
def own_K (below : List Frame) (R : Room) (s : State) (n0 : Nat) (Q : Option Value → Heap → Prop) (t : State) (o : Outcome) : Prop :=
  t.status = .running ∧ Ended t below o ∧ ∃ v L, o = .returned v ∧ (Fr n0 L ∧ Q v t.heap) ∧ FrameEnd s o t L R.cells R.slots
/-- from the frame g, with the heap h, k cells and q slots made so far: the run ends as own_K says -/
def own_Run (p : Program) (l : Launch) (e : Env) (R : Room) (s : State) (m : MethodId) (args : Array Value) (below : List Frame) (meth : Method) (c : Code) (n0 : Nat) (Kf : State → Outcome → Prop) (h : Heap) (k q : Nat) (g : JFrame) : Prop :=
  ∀ (T : State) (locs : List Loc), Stand p l e R s m args below meth c T locs k q → T.heap = h → Fr n0 locs → ∃ t o, Steps p.tables e below (T.setTop g) t ∧ Kf t o
/-- what stands fast through a body -/
def own_Ctx (p : Program) (s : State) (m : MethodId) (meth : Method) (c : Code) (Z : State) (own nm : String) (bytes : ByteArray) (maxL : Nat) (ret : Option FieldType) : Prop :=
  p.tables.exec = Jvm.exec ∧ Z.Warmed39 s.vm ∧ s.vm.findClass own = some m.cls ∧ c.code = bytes ∧ c.maxLocals = maxL ∧ meth.sig.returnType = ret ∧ meth.locks = false ∧ meth.name = nm
theorem own_Ctx.g_x (C : own_Ctx p s m meth c Z own nm bytes maxL ret) : p.tables.exec = Jvm.exec := C.1
theorem own_Ctx.g_z (C : own_Ctx p s m meth c Z own nm bytes maxL ret) : Z.Warmed39 s.vm := C.2.1
theorem own_Ctx.g_own (C : own_Ctx p s m meth c Z own nm bytes maxL ret) : s.vm.findClass own = some m.cls := C.2.2.1
theorem own_Ctx.g_by (C : own_Ctx p s m meth c Z own nm bytes maxL ret) : c.code = bytes := C.2.2.2.1
theorem own_Ctx.g_ml (C : own_Ctx p s m meth c Z own nm bytes maxL ret) : c.maxLocals = maxL := C.2.2.2.2.1
theorem own_Ctx.g_rt (C : own_Ctx p s m meth c Z own nm bytes maxL ret) : meth.sig.returnType = ret := C.2.2.2.2.2.1
theorem own_Ctx.g_lk (C : own_Ctx p s m meth c Z own nm bytes maxL ret) : meth.locks = false := C.2.2.2.2.2.2.1
theorem own_Ctx.g_nm (C : own_Ctx p s m meth c Z own nm bytes maxL ret) : meth.name = nm := C.2.2.2.2.2.2.2
/-- a method's contract: called with these arguments at the heap h, it returns as Q says -/
def own_Met (l : Launch) (Z : State) (n0 : Nat) (y : MethodName) (bytes : ByteArray) (maxL : Nat) (ret : Option FieldType) (rm : Room) (ws : List Jvm.Cond) (as' : Array Value) (h : Heap) (Q : Option Value → Heap → Prop) : Prop :=
  MetFree l y (head1 (Jvm.Cond.code y bytes maxL ret :: ws) rm) (fun a U => a = as' ∧ Z.Warmed39 U.vm ∧ U.heap = h) (fun _ _ _ _ _ => True) (fun _ U o U' => ∃ v L, o = .returned v ∧ (Fr n0 L ∧ Q v U'.heap) ∧ FrameEnd U o U' L rm.cells rm.slots)
theorem own_met {y : MethodName} {rm : Room} {ws : List Jvm.Cond} {as' : Array Value} (hn : plainName y.cls = true) (Ls : Array Slot) (hef : ∀ m : MethodId, entryFrame m as' maxL = mkF m 0 Ls [])
    (body : ∀ (p : Program) (e : Env) (s : State) (m : MethodId) (below : List Frame) (meth : Method) (c : Code), own_Ctx p s m meth c Z y.cls y.name bytes maxL ret → own_Run p l e rm s m as' below meth c n0 (own_K below rm s n0 Q) h 0 0 (mkF m 0 Ls [])) :
    own_Met l Z n0 y bytes maxL ret rm ws as' h Q := by
  refine MetFree.of_bodySF (plainFor_of_name hn) hisR ?_
  intro p e s m args below meth c s₁ Bd hml0 hP hK
  obtain ⟨rfl, hZ, hh⟩ := hP
  have C : own_Ctx p s m meth c Z y.cls y.name bytes maxL ret := ⟨Bd.exec, hZ, findClass_of_methodNamed Bd.named, Bd.bytes, hml0, Bd.returns, BodyLoose.notSynchronized Bd, (name_of_methodNamed Bd.named Bd.method).1⟩
  obtain ⟨t, o, h1, h2, h3, h4⟩ := body p e s m below meth c C s₁ [] (Stand.of_body Bd) (by rw [← hh, Bd.state]; rfl) (Fr.nil n0)
  exact ⟨t, o, castTop (hef m) h1, h2, h3, h4⟩
theorem own_st {g g' : JFrame} (h1 : ∀ (T : State) (locs : List Loc), Stand p l e R s m args below meth c T locs k q → T.heap = h → ∀ target, Steps p.tables e below (T.setTop g') target → Steps p.tables e below (T.setTop g) target) (r : own_Run p l e R s m args below meth c n0 Kf h k q g') : own_Run p l e R s m args below meth c n0 Kf h k q g := fun T locs X eT N => by
  obtain ⟨t, o, h2, h3⟩ := r T locs X eT N
  exact ⟨t, o, h1 T locs X eT t h2, h3⟩
theorem own_more {k' q' : Nat} {g : JFrame} (hk : k ≤ k') (hq : q ≤ q') (r : own_Run p l e R s m args below meth c n0 Kf h k' q' g) : own_Run p l e R s m args below meth c n0 Kf h k q g := fun T locs X eT N => r T locs (X.more hk hq) eT N
theorem own_iloadN (C : own_Ctx p s m meth c Z own nm bytes maxL ret) {i : Fin 4} {v : Int32} (hd : decode bytes pc = .ok (.iload_n i, 1)) (hp : pc + 1 = pc') (hl : Ls[i.val]? = some (.val (.int v))) (r : own_Run p l e R s m args below meth c n0 Kf h k q (mkF m pc' Ls (.int v :: rest))) : own_Run p l e R s m args below meth c n0 Kf h k q (mkF m pc Ls (rest)) :=
  own_st (fun T locs X eT t kk => by subst hp; exact Jvm.Free.XS.iloadN X.here C.g_x rfl (hb C.g_by hd) hl kk) r
theorem own_iload (C : own_Ctx p s m meth c Z own nm bytes maxL ret) {i : Nat} {v : Int32} (hd : decode bytes pc = .ok (.iload i, 2)) (hp : pc + 2 = pc') (hl : Ls[i]? = some (.val (.int v))) (r : own_Run p l e R s m args below meth c n0 Kf h k q (mkF m pc' Ls (.int v :: rest))) : own_Run p l e R s m args below meth c n0 Kf h k q (mkF m pc Ls (rest)) :=
  own_st (fun T locs X eT t kk => by subst hp; exact Jvm.Free.XS.iload X.here C.g_x rfl (hb C.g_by hd) hl kk) r
theorem own_lloadN (C : own_Ctx p s m meth c Z own nm bytes maxL ret) {i : Fin 4} {v : Int64} (hd : decode bytes pc = .ok (.lload_n i, 1)) (hp : pc + 1 = pc') (hl : Ls[i.val]? = some (.val (.long v))) (r : own_Run p l e R s m args below meth c n0 Kf h k q (mkF m pc' Ls (.long v :: rest))) : own_Run p l e R s m args below meth c n0 Kf h k q (mkF m pc Ls (rest)) :=
  own_st (fun T locs X eT t kk => by subst hp; exact Jvm.Free.XT.lloadN X.here C.g_x rfl (hb C.g_by hd) hl kk) r
theorem own_lload (C : own_Ctx p s m meth c Z own nm bytes maxL ret) {i : Nat} {v : Int64} (hd : decode bytes pc = .ok (.lload i, 2)) (hp : pc + 2 = pc') (hl : Ls[i]? = some (.val (.long v))) (r : own_Run p l e R s m args below meth c n0 Kf h k q (mkF m pc' Ls (.long v :: rest))) : own_Run p l e R s m args below meth c n0 Kf h k q (mkF m pc Ls (rest)) :=
  own_st (fun T locs X eT t kk => by subst hp; exact Jvm.Free.XT.lload X.here C.g_x rfl (hb C.g_by hd) hl kk) r
theorem own_aloadN (C : own_Ctx p s m meth c Z own nm bytes maxL ret) {i : Fin 4} {v : Value} (hd : decode bytes pc = .ok (.aload_n i, 1)) (hp : pc + 1 = pc') (hl : Ls[i.val]? = some (.val v)) (hv : v.isRef = true) (r : own_Run p l e R s m args below meth c n0 Kf h k q (mkF m pc' Ls (v :: rest))) : own_Run p l e R s m args below meth c n0 Kf h k q (mkF m pc Ls (rest)) :=
  own_st (fun T locs X eT t kk => by subst hp; exact Jvm.Free.XS.aloadN X.here C.g_x rfl (hb C.g_by hd) hl hv kk) r
theorem own_aload (C : own_Ctx p s m meth c Z own nm bytes maxL ret) {i : Nat} {v : Value} (hd : decode bytes pc = .ok (.aload i, 2)) (hp : pc + 2 = pc') (hl : Ls[i]? = some (.val v)) (hv : v.isRef = true) (r : own_Run p l e R s m args below meth c n0 Kf h k q (mkF m pc' Ls (v :: rest))) : own_Run p l e R s m args below meth c n0 Kf h k q (mkF m pc Ls (rest)) :=
  own_st (fun T locs X eT t kk => by subst hp; exact Jvm.Free.XS.aload X.here C.g_x rfl (hb C.g_by hd) hl hv kk) r
theorem own_istoreN (C : own_Ctx p s m meth c Z own nm bytes maxL ret) {i : Fin 4} {v : Int32} (hd : decode bytes pc = .ok (.istore_n i, 1)) (hp : pc + 1 = pc') (hl : storeLocals Ls i.val (.int v) = some Ls') (r : own_Run p l e R s m args below meth c n0 Kf h k q (mkF m pc' Ls' (rest))) : own_Run p l e R s m args below meth c n0 Kf h k q (mkF m pc Ls (.int v :: rest)) :=
  own_st (fun T locs X eT t kk => by subst hp; exact Jvm.Free.XS.istoreN X.here C.g_x rfl (hb C.g_by hd) rfl hl kk) r
theorem own_istore (C : own_Ctx p s m meth c Z own nm bytes maxL ret) {i : Nat} {v : Int32} (hd : decode bytes pc = .ok (.istore i, 2)) (hp : pc + 2 = pc') (hl : storeLocals Ls i (.int v) = some Ls') (r : own_Run p l e R s m args below meth c n0 Kf h k q (mkF m pc' Ls' (rest))) : own_Run p l e R s m args below meth c n0 Kf h k q (mkF m pc Ls (.int v :: rest)) :=
  own_st (fun T locs X eT t kk => by subst hp; exact Jvm.Free.XS.istore X.here C.g_x rfl (hb C.g_by hd) rfl hl kk) r
theorem own_lstoreN (C : own_Ctx p s m meth c Z own nm bytes maxL ret) {i : Fin 4} {v : Int64} (hd : decode bytes pc = .ok (.lstore_n i, 1)) (hp : pc + 1 = pc') (hl : storeLocals Ls i.val (.long v) = some Ls') (r : own_Run p l e R s m args below meth c n0 Kf h k q (mkF m pc' Ls' (rest))) : own_Run p l e R s m args below meth c n0 Kf h k q (mkF m pc Ls (.long v :: rest)) :=
  own_st (fun T locs X eT t kk => by subst hp; exact Jvm.Free.XT.lstoreN X.here C.g_x rfl (hb C.g_by hd) rfl hl kk) r
theorem own_lstore (C : own_Ctx p s m meth c Z own nm bytes maxL ret) {i : Nat} {v : Int64} (hd : decode bytes pc = .ok (.lstore i, 2)) (hp : pc + 2 = pc') (hl : storeLocals Ls i (.long v) = some Ls') (r : own_Run p l e R s m args below meth c n0 Kf h k q (mkF m pc' Ls' (rest))) : own_Run p l e R s m args below meth c n0 Kf h k q (mkF m pc Ls (.long v :: rest)) :=
  own_st (fun T locs X eT t kk => by subst hp; exact Jvm.Free.XT.lstore X.here C.g_x rfl (hb C.g_by hd) rfl hl kk) r
theorem own_astoreN (C : own_Ctx p s m meth c Z own nm bytes maxL ret) {i : Fin 4} {v : Value} (hd : decode bytes pc = .ok (.astore_n i, 1)) (hp : pc + 1 = pc') (hv : v.isRef = true) (hl : storeLocals Ls i.val v = some Ls') (r : own_Run p l e R s m args below meth c n0 Kf h k q (mkF m pc' Ls' (rest))) : own_Run p l e R s m args below meth c n0 Kf h k q (mkF m pc Ls (v :: rest)) :=
  own_st (fun T locs X eT t kk => by subst hp; exact Jvm.Free.XS.astoreN X.here C.g_x rfl (hb C.g_by hd) rfl hv hl kk) r
theorem own_astore (C : own_Ctx p s m meth c Z own nm bytes maxL ret) {i : Nat} {v : Value} (hd : decode bytes pc = .ok (.astore i, 2)) (hp : pc + 2 = pc') (hv : v.isRef = true) (hl : storeLocals Ls i v = some Ls') (r : own_Run p l e R s m args below meth c n0 Kf h k q (mkF m pc' Ls' (rest))) : own_Run p l e R s m args below meth c n0 Kf h k q (mkF m pc Ls (v :: rest)) :=
  own_st (fun T locs X eT t kk => by subst hp; exact Jvm.Free.XS.astore X.here C.g_x rfl (hb C.g_by hd) rfl hv hl kk) r
theorem own_iinc (C : own_Ctx p s m meth c Z own nm bytes maxL ret) {i : Nat} {cst : Int} {v w : Int32} (hd : decode bytes pc = .ok (.iinc i cst, 3)) (hp : pc + 3 = pc') (hv : Int32.ofInt cst = w) (hl : Ls[i]? = some (.val (.int v))) (hl' : storeLocals Ls i (.int (v + w)) = some Ls') (r : own_Run p l e R s m args below meth c n0 Kf h k q (mkF m pc' Ls' (rest))) : own_Run p l e R s m args below meth c n0 Kf h k q (mkF m pc Ls (rest)) :=
  own_st (fun T locs X eT t kk => by subst hp; exact Jvm.Free.XT.iincV X.here C.g_x rfl w (hb C.g_by hd) hv hl hl' kk) r
theorem own_iincV (C : own_Ctx p s m meth c Z own nm bytes maxL ret) {i : Nat} {cst : Int} {v w x : Int32} (hd : decode bytes pc = .ok (.iinc i cst, 3)) (hp : pc + 3 = pc') (hv : Int32.ofInt cst = w) (hs : v + w = x) (hl : Ls[i]? = some (.val (.int v))) (hl' : storeLocals Ls i (.int x) = some Ls') (r : own_Run p l e R s m args below meth c n0 Kf h k q (mkF m pc' Ls' (rest))) : own_Run p l e R s m args below meth c n0 Kf h k q (mkF m pc Ls (rest)) :=
  own_st (fun T locs X eT t kk => by subst hp; exact Jvm.Free.XT.iincV X.here C.g_x rfl w (hb C.g_by hd) hv hl (by rw [hs]; exact hl') kk) r
theorem own_iconst (C : own_Ctx p s m meth c Z own nm bytes maxL ret) {i : Int} {v : Int32} (hd : decode bytes pc = .ok (.iconst i, 1)) (hp : pc + 1 = pc') (hv : Int32.ofInt i = v) (r : own_Run p l e R s m args below meth c n0 Kf h k q (mkF m pc' Ls (.int v :: rest))) : own_Run p l e R s m args below meth c n0 Kf h k q (mkF m pc Ls (rest)) :=
  own_st (fun T locs X eT t kk => by subst hp; exact Jvm.Free.XT.iconstV X.here C.g_x rfl v (hb C.g_by hd) hv kk) r
theorem own_bipush (C : own_Ctx p s m meth c Z own nm bytes maxL ret) {i : Int} {v : Int32} (hd : decode bytes pc = .ok (.bipush i, 2)) (hp : pc + 2 = pc') (hv : (Int8.ofInt i).toInt32 = v) (r : own_Run p l e R s m args below meth c n0 Kf h k q (mkF m pc' Ls (.int v :: rest))) : own_Run p l e R s m args below meth c n0 Kf h k q (mkF m pc Ls (rest)) :=
  own_st (fun T locs X eT t kk => by subst hp; exact Jvm.Free.XT.bipushV X.here C.g_x rfl v (hb C.g_by hd) hv kk) r
theorem own_sipush (C : own_Ctx p s m meth c Z own nm bytes maxL ret) {i : Int} {v : Int32} (hd : decode bytes pc = .ok (.sipush i, 3)) (hp : pc + 3 = pc') (hv : (Int16.ofInt i).toInt32 = v) (r : own_Run p l e R s m args below meth c n0 Kf h k q (mkF m pc' Ls (.int v :: rest))) : own_Run p l e R s m args below meth c n0 Kf h k q (mkF m pc Ls (rest)) :=
  own_st (fun T locs X eT t kk => by subst hp; exact Jvm.Free.XT.sipushV X.here C.g_x rfl v (hb C.g_by hd) hv kk) r
theorem own_lconst (C : own_Ctx p s m meth c Z own nm bytes maxL ret) {i : Fin 2} {v : Int64} (hd : decode bytes pc = .ok (.lconst i, 1)) (hp : pc + 1 = pc') (hv : Int64.ofNat i = v) (r : own_Run p l e R s m args below meth c n0 Kf h k q (mkF m pc' Ls (.long v :: rest))) : own_Run p l e R s m args below meth c n0 Kf h k q (mkF m pc Ls (rest)) :=
  own_st (fun T locs X eT t kk => by subst hp; exact Jvm.Free.XT.lconstV X.here C.g_x rfl v (hb C.g_by hd) hv kk) r
theorem own_aconst (C : own_Ctx p s m meth c Z own nm bytes maxL ret)  (hd : decode bytes pc = .ok (.aconst_null, 1)) (hp : pc + 1 = pc')  (r : own_Run p l e R s m args below meth c n0 Kf h k q (mkF m pc' Ls (.null :: rest))) : own_Run p l e R s m args below meth c n0 Kf h k q (mkF m pc Ls (rest)) :=
  own_st (fun T locs X eT t kk => by subst hp; exact Jvm.Free.XS.aconstNull X.here C.g_x rfl (hb C.g_by hd) kk) r
theorem own_ldc (C : own_Ctx p s m meth c Z own nm bytes maxL ret) {i : Nat} {v : Int32} (hd : decode bytes pc = .ok (.ldc i, 2)) (hp : pc + 2 = pc') (hc : (Jvm.Cond.constant own i v).before a0 Z = true) (r : own_Run p l e R s m args below meth c n0 Kf h k q (mkF m pc' Ls (.int v :: rest))) : own_Run p l e R s m args below meth c n0 Kf h k q (mkF m pc Ls (rest)) :=
  own_st (fun T locs X eT t kk => by subst hp; exact X.ldcI C.g_x C.g_own (mvT C.g_z hc) rfl (hb C.g_by hd) kk) r
theorem own_ldc2 (C : own_Ctx p s m meth c Z own nm bytes maxL ret) {i : Nat} {v : Int64} (hd : decode bytes pc = .ok (.ldc2_w i, 3)) (hp : pc + 3 = pc') (hc : (Jvm.Cond.constantLong own i v).before a0 Z = true) (r : own_Run p l e R s m args below meth c n0 Kf h k q (mkF m pc' Ls (.long v :: rest))) : own_Run p l e R s m args below meth c n0 Kf h k q (mkF m pc Ls (rest)) :=
  own_st (fun T locs X eT t kk => by subst hp; exact X.ldc2J C.g_x C.g_own (mvT C.g_z hc) rfl (hb C.g_by hd) kk) r
theorem own_dup (C : own_Ctx p s m meth c Z own nm bytes maxL ret) {v : Value} (hd : decode bytes pc = .ok (.dup, 1)) (hp : pc + 1 = pc') (hc : v.category = 1) (r : own_Run p l e R s m args below meth c n0 Kf h k q (mkF m pc' Ls (v :: v :: rest))) : own_Run p l e R s m args below meth c n0 Kf h k q (mkF m pc Ls (v :: rest)) :=
  own_st (fun T locs X eT t kk => by subst hp; exact Jvm.Free.XS.dup X.here C.g_x rfl (hb C.g_by hd) rfl hc kk) r
theorem own_pop (C : own_Ctx p s m meth c Z own nm bytes maxL ret) {v : Value} (hd : decode bytes pc = .ok (.pop, 1)) (hp : pc + 1 = pc') (hc : v.category = 1) (r : own_Run p l e R s m args below meth c n0 Kf h k q (mkF m pc' Ls (rest))) : own_Run p l e R s m args below meth c n0 Kf h k q (mkF m pc Ls (v :: rest)) :=
  own_st (fun T locs X eT t kk => by subst hp; exact Jvm.Free.XT.pop X.here C.g_x rfl (hb C.g_by hd) rfl hc kk) r
theorem own_dupX1 (C : own_Ctx p s m meth c Z own nm bytes maxL ret) {v w : Value} (hd : decode bytes pc = .ok (.dup_x1, 1)) (hp : pc + 1 = pc') (hc : v.category = 1) (hc' : w.category = 1) (r : own_Run p l e R s m args below meth c n0 Kf h k q (mkF m pc' Ls (v :: w :: v :: rest))) : own_Run p l e R s m args below meth c n0 Kf h k q (mkF m pc Ls (v :: w :: rest)) :=
  own_st (fun T locs X eT t kk => by subst hp; exact Jvm.Free.XT.dupX1 X.here C.g_x rfl (hb C.g_by hd) rfl hc hc' kk) r
theorem own_dup2 (C : own_Ctx p s m meth c Z own nm bytes maxL ret) {v w : Value} (hd : decode bytes pc = .ok (.dup2, 1)) (hp : pc + 1 = pc') (hc : v.category = 1) (hc' : w.category = 1) (r : own_Run p l e R s m args below meth c n0 Kf h k q (mkF m pc' Ls (v :: w :: v :: w :: rest))) : own_Run p l e R s m args below meth c n0 Kf h k q (mkF m pc Ls (v :: w :: rest)) :=
  own_st (fun T locs X eT t kk => by subst hp; exact Jvm.Free.XT.dup2 X.here C.g_x rfl (hb C.g_by hd) rfl hc hc' kk) r
theorem own_iadd (C : own_Ctx p s m meth c Z own nm bytes maxL ret) {x y : Int32} (hd : decode bytes pc = .ok (.iadd, 1)) (hp : pc + 1 = pc')  (r : own_Run p l e R s m args below meth c n0 Kf h k q (mkF m pc' Ls (.int (x + y) :: rest))) : own_Run p l e R s m args below meth c n0 Kf h k q (mkF m pc Ls (.int y :: .int x :: rest)) :=
  own_st (fun T locs X eT t kk => by subst hp; exact Jvm.Free.XS.iadd X.here C.g_x rfl (hb C.g_by hd) rfl kk) r
theorem own_isub (C : own_Ctx p s m meth c Z own nm bytes maxL ret) {x y : Int32} (hd : decode bytes pc = .ok (.isub, 1)) (hp : pc + 1 = pc')  (r : own_Run p l e R s m args below meth c n0 Kf h k q (mkF m pc' Ls (.int (x - y) :: rest))) : own_Run p l e R s m args below meth c n0 Kf h k q (mkF m pc Ls (.int y :: .int x :: rest)) :=
  own_st (fun T locs X eT t kk => by subst hp; exact Jvm.Free.XS.isub X.here C.g_x rfl (hb C.g_by hd) rfl kk) r
theorem own_iand (C : own_Ctx p s m meth c Z own nm bytes maxL ret) {x y : Int32} (hd : decode bytes pc = .ok (.iand, 1)) (hp : pc + 1 = pc')  (r : own_Run p l e R s m args below meth c n0 Kf h k q (mkF m pc' Ls (.int (x &&& y) :: rest))) : own_Run p l e R s m args below meth c n0 Kf h k q (mkF m pc Ls (.int y :: .int x :: rest)) :=
  own_st (fun T locs X eT t kk => by subst hp; exact Jvm.Free.XS.iand X.here C.g_x rfl (hb C.g_by hd) rfl kk) r
theorem own_imul (C : own_Ctx p s m meth c Z own nm bytes maxL ret) {x y : Int32} (hd : decode bytes pc = .ok (.imul, 1)) (hp : pc + 1 = pc')  (r : own_Run p l e R s m args below meth c n0 Kf h k q (mkF m pc' Ls (.int (x * y) :: rest))) : own_Run p l e R s m args below meth c n0 Kf h k q (mkF m pc Ls (.int y :: .int x :: rest)) :=
  own_st (fun T locs X eT t kk => by subst hp; exact Jvm.Free.XS.imul X.here C.g_x rfl (hb C.g_by hd) rfl kk) r
theorem own_ior (C : own_Ctx p s m meth c Z own nm bytes maxL ret) {x y : Int32} (hd : decode bytes pc = .ok (.ior, 1)) (hp : pc + 1 = pc')  (r : own_Run p l e R s m args below meth c n0 Kf h k q (mkF m pc' Ls (.int (x ||| y) :: rest))) : own_Run p l e R s m args below meth c n0 Kf h k q (mkF m pc Ls (.int y :: .int x :: rest)) :=
  own_st (fun T locs X eT t kk => by subst hp; exact Jvm.Free.XT.ior X.here C.g_x rfl (hb C.g_by hd) rfl kk) r
theorem own_ixor (C : own_Ctx p s m meth c Z own nm bytes maxL ret) {x y : Int32} (hd : decode bytes pc = .ok (.ixor, 1)) (hp : pc + 1 = pc')  (r : own_Run p l e R s m args below meth c n0 Kf h k q (mkF m pc' Ls (.int (x ^^^ y) :: rest))) : own_Run p l e R s m args below meth c n0 Kf h k q (mkF m pc Ls (.int y :: .int x :: rest)) :=
  own_st (fun T locs X eT t kk => by subst hp; exact Jvm.Free.XT.ixor X.here C.g_x rfl (hb C.g_by hd) rfl kk) r
theorem own_ishl (C : own_Ctx p s m meth c Z own nm bytes maxL ret) {x y : Int32} (hd : decode bytes pc = .ok (.ishl, 1)) (hp : pc + 1 = pc')  (r : own_Run p l e R s m args below meth c n0 Kf h k q (mkF m pc' Ls (.int (x <<< (y &&& 31)) :: rest))) : own_Run p l e R s m args below meth c n0 Kf h k q (mkF m pc Ls (.int y :: .int x :: rest)) :=
  own_st (fun T locs X eT t kk => by subst hp; exact Jvm.Free.XT.ishl X.here C.g_x rfl (hb C.g_by hd) rfl kk) r
theorem own_ishr (C : own_Ctx p s m meth c Z own nm bytes maxL ret) {x y : Int32} (hd : decode bytes pc = .ok (.ishr, 1)) (hp : pc + 1 = pc')  (r : own_Run p l e R s m args below meth c n0 Kf h k q (mkF m pc' Ls (.int (x >>> (y &&& 31)) :: rest))) : own_Run p l e R s m args below meth c n0 Kf h k q (mkF m pc Ls (.int y :: .int x :: rest)) :=
  own_st (fun T locs X eT t kk => by subst hp; exact Jvm.Free.XT.ishr X.here C.g_x rfl (hb C.g_by hd) rfl kk) r
theorem own_iushr (C : own_Ctx p s m meth c Z own nm bytes maxL ret) {x y : Int32} (hd : decode bytes pc = .ok (.iushr, 1)) (hp : pc + 1 = pc')  (r : own_Run p l e R s m args below meth c n0 Kf h k q (mkF m pc' Ls (.int (Jvm.Free.XT.ushr x y) :: rest))) : own_Run p l e R s m args below meth c n0 Kf h k q (mkF m pc Ls (.int y :: .int x :: rest)) :=
  own_st (fun T locs X eT t kk => by subst hp; exact Jvm.Free.XT.iushr X.here C.g_x rfl (hb C.g_by hd) rfl kk) r
theorem own_irem (C : own_Ctx p s m meth c Z own nm bytes maxL ret) {x y : Int32} (hd : decode bytes pc = .ok (.irem, 1)) (hp : pc + 1 = pc') (hy : y ≠ 0) (r : own_Run p l e R s m args below meth c n0 Kf h k q (mkF m pc' Ls (.int (x % y) :: rest))) : own_Run p l e R s m args below meth c n0 Kf h k q (mkF m pc Ls (.int y :: .int x :: rest)) :=
  own_st (fun T locs X eT t kk => by subst hp; exact iremM X C.g_x rfl (hb C.g_by hd) rfl hy kk) r
theorem own_idivV (C : own_Ctx p s m meth c Z own nm bytes maxL ret) {x y v : Int32} (hd : decode bytes pc = .ok (.idiv, 1)) (hp : pc + 1 = pc') (hy : y ≠ 0) (hv : x / y = v) (r : own_Run p l e R s m args below meth c n0 Kf h k q (mkF m pc' Ls (.int v :: rest))) : own_Run p l e R s m args below meth c n0 Kf h k q (mkF m pc Ls (.int y :: .int x :: rest)) :=
  own_st (fun T locs X eT t kk => by subst hp; exact Jvm.Free.XS.idiv X.here C.g_x rfl (hb C.g_by hd) rfl hy (by rw [hv]; exact kk)) r
theorem own_ineg (C : own_Ctx p s m meth c Z own nm bytes maxL ret) {x : Int32} (hd : decode bytes pc = .ok (.ineg, 1)) (hp : pc + 1 = pc')  (r : own_Run p l e R s m args below meth c n0 Kf h k q (mkF m pc' Ls (.int (-x) :: rest))) : own_Run p l e R s m args below meth c n0 Kf h k q (mkF m pc Ls (.int x :: rest)) :=
  own_st (fun T locs X eT t kk => by subst hp; exact Jvm.Free.XS.ineg X.here C.g_x rfl (hb C.g_by hd) rfl kk) r
theorem own_ladd (C : own_Ctx p s m meth c Z own nm bytes maxL ret) {x y : Int64} (hd : decode bytes pc = .ok (.ladd, 1)) (hp : pc + 1 = pc')  (r : own_Run p l e R s m args below meth c n0 Kf h k q (mkF m pc' Ls (.long (x + y) :: rest))) : own_Run p l e R s m args below meth c n0 Kf h k q (mkF m pc Ls (.long y :: .long x :: rest)) :=
  own_st (fun T locs X eT t kk => by subst hp; exact Jvm.Free.XT.ladd X.here C.g_x rfl (hb C.g_by hd) rfl kk) r
theorem own_lsub (C : own_Ctx p s m meth c Z own nm bytes maxL ret) {x y : Int64} (hd : decode bytes pc = .ok (.lsub, 1)) (hp : pc + 1 = pc')  (r : own_Run p l e R s m args below meth c n0 Kf h k q (mkF m pc' Ls (.long (x - y) :: rest))) : own_Run p l e R s m args below meth c n0 Kf h k q (mkF m pc Ls (.long y :: .long x :: rest)) :=
  own_st (fun T locs X eT t kk => by subst hp; exact Jvm.Free.XT.lsub X.here C.g_x rfl (hb C.g_by hd) rfl kk) r
theorem own_land (C : own_Ctx p s m meth c Z own nm bytes maxL ret) {x y : Int64} (hd : decode bytes pc = .ok (.land, 1)) (hp : pc + 1 = pc')  (r : own_Run p l e R s m args below meth c n0 Kf h k q (mkF m pc' Ls (.long (x &&& y) :: rest))) : own_Run p l e R s m args below meth c n0 Kf h k q (mkF m pc Ls (.long y :: .long x :: rest)) :=
  own_st (fun T locs X eT t kk => by subst hp; exact Jvm.Free.XT.land X.here C.g_x rfl (hb C.g_by hd) rfl kk) r
theorem own_lor (C : own_Ctx p s m meth c Z own nm bytes maxL ret) {x y : Int64} (hd : decode bytes pc = .ok (.lor, 1)) (hp : pc + 1 = pc')  (r : own_Run p l e R s m args below meth c n0 Kf h k q (mkF m pc' Ls (.long (x ||| y) :: rest))) : own_Run p l e R s m args below meth c n0 Kf h k q (mkF m pc Ls (.long y :: .long x :: rest)) :=
  own_st (fun T locs X eT t kk => by subst hp; exact Jvm.Free.XT.lor X.here C.g_x rfl (hb C.g_by hd) rfl kk) r
theorem own_lxor (C : own_Ctx p s m meth c Z own nm bytes maxL ret) {x y : Int64} (hd : decode bytes pc = .ok (.lxor, 1)) (hp : pc + 1 = pc')  (r : own_Run p l e R s m args below meth c n0 Kf h k q (mkF m pc' Ls (.long (x ^^^ y) :: rest))) : own_Run p l e R s m args below meth c n0 Kf h k q (mkF m pc Ls (.long y :: .long x :: rest)) :=
  own_st (fun T locs X eT t kk => by subst hp; exact Jvm.Free.XT.lxor X.here C.g_x rfl (hb C.g_by hd) rfl kk) r
theorem own_lmul (C : own_Ctx p s m meth c Z own nm bytes maxL ret) {x y : Int64} (hd : decode bytes pc = .ok (.lmul, 1)) (hp : pc + 1 = pc')  (r : own_Run p l e R s m args below meth c n0 Kf h k q (mkF m pc' Ls (.long (x * y) :: rest))) : own_Run p l e R s m args below meth c n0 Kf h k q (mkF m pc Ls (.long y :: .long x :: rest)) :=
  own_st (fun T locs X eT t kk => by subst hp; exact Jvm.Free.XT.lmul X.here C.g_x rfl (hb C.g_by hd) rfl kk) r
theorem own_lcmp (C : own_Ctx p s m meth c Z own nm bytes maxL ret) {x y : Int64} (hd : decode bytes pc = .ok (.lcmp, 1)) (hp : pc + 1 = pc')  (r : own_Run p l e R s m args below meth c n0 Kf h k q (mkF m pc' Ls (.int (Jvm.Free.XT.cmpL x y) :: rest))) : own_Run p l e R s m args below meth c n0 Kf h k q (mkF m pc Ls (.long y :: .long x :: rest)) :=
  own_st (fun T locs X eT t kk => by subst hp; exact Jvm.Free.XT.lcmp X.here C.g_x rfl (hb C.g_by hd) rfl kk) r
theorem own_lshl (C : own_Ctx p s m meth c Z own nm bytes maxL ret) {x : Int64} {y : Int32} (hd : decode bytes pc = .ok (.lshl, 1)) (hp : pc + 1 = pc')  (r : own_Run p l e R s m args below meth c n0 Kf h k q (mkF m pc' Ls (.long (x <<< (y.toInt64 &&& 63)) :: rest))) : own_Run p l e R s m args below meth c n0 Kf h k q (mkF m pc Ls (.int y :: .long x :: rest)) :=
  own_st (fun T locs X eT t kk => by subst hp; exact Jvm.Free.XT.lshl X.here C.g_x rfl (hb C.g_by hd) rfl kk) r
theorem own_i2l (C : own_Ctx p s m meth c Z own nm bytes maxL ret) {x : Int32} (hd : decode bytes pc = .ok (.i2l, 1)) (hp : pc + 1 = pc')  (r : own_Run p l e R s m args below meth c n0 Kf h k q (mkF m pc' Ls (.long (x.toInt64) :: rest))) : own_Run p l e R s m args below meth c n0 Kf h k q (mkF m pc Ls (.int x :: rest)) :=
  own_st (fun T locs X eT t kk => by subst hp; exact Jvm.Free.XT.i2l X.here C.g_x rfl (hb C.g_by hd) rfl kk) r
theorem own_l2i (C : own_Ctx p s m meth c Z own nm bytes maxL ret) {x : Int64} (hd : decode bytes pc = .ok (.l2i, 1)) (hp : pc + 1 = pc')  (r : own_Run p l e R s m args below meth c n0 Kf h k q (mkF m pc' Ls (.int (x.toInt32) :: rest))) : own_Run p l e R s m args below meth c n0 Kf h k q (mkF m pc Ls (.long x :: rest)) :=
  own_st (fun T locs X eT t kk => by subst hp; exact Jvm.Free.XT.l2i X.here C.g_x rfl (hb C.g_by hd) rfl kk) r
theorem own_i2b (C : own_Ctx p s m meth c Z own nm bytes maxL ret) {x : Int32} (hd : decode bytes pc = .ok (.i2b, 1)) (hp : pc + 1 = pc')  (r : own_Run p l e R s m args below meth c n0 Kf h k q (mkF m pc' Ls (.int (x.toInt8.toInt32) :: rest))) : own_Run p l e R s m args below meth c n0 Kf h k q (mkF m pc Ls (.int x :: rest)) :=
  own_st (fun T locs X eT t kk => by subst hp; exact Jvm.Free.XT.i2b X.here C.g_x rfl (hb C.g_by hd) rfl kk) r
theorem own_i2c (C : own_Ctx p s m meth c Z own nm bytes maxL ret) {x : Int32} (hd : decode bytes pc = .ok (.i2c, 1)) (hp : pc + 1 = pc')  (r : own_Run p l e R s m args below meth c n0 Kf h k q (mkF m pc' Ls (.int (x.toUInt32.toUInt16.toUInt32.toInt32) :: rest))) : own_Run p l e R s m args below meth c n0 Kf h k q (mkF m pc Ls (.int x :: rest)) :=
  own_st (fun T locs X eT t kk => by subst hp; exact Jvm.Free.XT.i2c X.here C.g_x rfl (hb C.g_by hd) rfl kk) r
theorem own_iaddV (C : own_Ctx p s m meth c Z own nm bytes maxL ret) {x y v : Int32} (hd : decode bytes pc = .ok (.iadd, 1)) (hp : pc + 1 = pc') (hv : x + y = v) (r : own_Run p l e R s m args below meth c n0 Kf h k q (mkF m pc' Ls (.int v :: rest))) : own_Run p l e R s m args below meth c n0 Kf h k q (mkF m pc Ls (.int y :: .int x :: rest)) :=
  own_st (fun T locs X eT t kk => by subst hp; exact Jvm.Free.XS.iadd X.here C.g_x rfl (hb C.g_by hd) rfl (by rw [hv]; exact kk)) r
theorem own_isubV (C : own_Ctx p s m meth c Z own nm bytes maxL ret) {x y v : Int32} (hd : decode bytes pc = .ok (.isub, 1)) (hp : pc + 1 = pc') (hv : x - y = v) (r : own_Run p l e R s m args below meth c n0 Kf h k q (mkF m pc' Ls (.int v :: rest))) : own_Run p l e R s m args below meth c n0 Kf h k q (mkF m pc Ls (.int y :: .int x :: rest)) :=
  own_st (fun T locs X eT t kk => by subst hp; exact Jvm.Free.XS.isub X.here C.g_x rfl (hb C.g_by hd) rfl (by rw [hv]; exact kk)) r
theorem own_imulV (C : own_Ctx p s m meth c Z own nm bytes maxL ret) {x y v : Int32} (hd : decode bytes pc = .ok (.imul, 1)) (hp : pc + 1 = pc') (hv : x * y = v) (r : own_Run p l e R s m args below meth c n0 Kf h k q (mkF m pc' Ls (.int v :: rest))) : own_Run p l e R s m args below meth c n0 Kf h k q (mkF m pc Ls (.int y :: .int x :: rest)) :=
  own_st (fun T locs X eT t kk => by subst hp; exact Jvm.Free.XS.imul X.here C.g_x rfl (hb C.g_by hd) rfl (by rw [hv]; exact kk)) r
theorem own_iandV (C : own_Ctx p s m meth c Z own nm bytes maxL ret) {x y v : Int32} (hd : decode bytes pc = .ok (.iand, 1)) (hp : pc + 1 = pc') (hv : x &&& y = v) (r : own_Run p l e R s m args below meth c n0 Kf h k q (mkF m pc' Ls (.int v :: rest))) : own_Run p l e R s m args below meth c n0 Kf h k q (mkF m pc Ls (.int y :: .int x :: rest)) :=
  own_st (fun T locs X eT t kk => by subst hp; exact Jvm.Free.XS.iand X.here C.g_x rfl (hb C.g_by hd) rfl (by rw [hv]; exact kk)) r
theorem own_goto (C : own_Ctx p s m meth c Z own nm bytes maxL ret) {o : Int} {st : List Value} (hd : decode bytes pc = .ok (.goto o, 3)) (ho : (pc : Int) + o = (pc' : Int)) (r : own_Run p l e R s m args below meth c n0 Kf h k q (mkF m pc' Ls st)) : own_Run p l e R s m args below meth c n0 Kf h k q (mkF m pc Ls st) :=
  own_st (fun T locs X eT t kk => Jvm.Free.XS.goto X.here C.g_x rfl (pc0 := pc) (pc' := pc') rfl (hb C.g_by hd) (by omega) (by omega) kk) r
theorem own_ii_eq (C : own_Ctx p s m meth c Z own nm bytes maxL ret) {o : Int} {x y : Int32} (hd : decode bytes pc = .ok (.if_icmp .eq o, 3)) (ho : (pc : Int) + o = (pc1 : Int)) (hp : pc + 3 = pc2) (r1 : x = y → own_Run p l e R s m args below meth c n0 Kf h k q (mkF m pc1 Ls rest)) (r2 : ¬ x = y → own_Run p l e R s m args below meth c n0 Kf h k q (mkF m pc2 Ls rest)) : own_Run p l e R s m args below meth c n0 Kf h k q (mkF m pc Ls (.int y :: .int x :: rest)) := by
  by_cases hc : x = y
  · exact own_st (fun T locs X eT t kk => Jvm.Free.XS.icmpYes X.here C.g_x rfl (pc0 := pc) (pc' := pc1) rfl (hb C.g_by hd) rfl (Jvm.Free.XT.ii_eq_t hc) (by omega) (by omega) kk) (r1 hc)
  · subst hp; exact own_st (fun T locs X eT t kk => Jvm.Free.XS.icmpNo X.here C.g_x rfl (hb C.g_by hd) rfl (Jvm.Free.XT.ii_eq_f hc) kk) (r2 hc)
theorem own_i0_eq (C : own_Ctx p s m meth c Z own nm bytes maxL ret) {o : Int} {x : Int32} (hd : decode bytes pc = .ok (.ifCond .eq o, 3)) (ho : (pc : Int) + o = (pc1 : Int)) (hp : pc + 3 = pc2) (r1 : x = 0 → own_Run p l e R s m args below meth c n0 Kf h k q (mkF m pc1 Ls rest)) (r2 : ¬ x = 0 → own_Run p l e R s m args below meth c n0 Kf h k q (mkF m pc2 Ls rest)) : own_Run p l e R s m args below meth c n0 Kf h k q (mkF m pc Ls (.int x :: rest)) := by
  by_cases hc : x = 0
  · exact own_st (fun T locs X eT t kk => Jvm.Free.XS.ifYes X.here C.g_x rfl (pc0 := pc) (pc' := pc1) rfl (hb C.g_by hd) rfl (Jvm.Free.XT.i0_eq_t hc) (by omega) (by omega) kk) (r1 hc)
  · subst hp; exact own_st (fun T locs X eT t kk => Jvm.Free.XS.ifNo X.here C.g_x rfl (hb C.g_by hd) rfl (Jvm.Free.XT.i0_eq_f hc) kk) (r2 hc)
theorem own_ll_eq (C : own_Ctx p s m meth c Z own nm bytes maxL ret) {o : Int} {x y : Int64} (hd : decode bytes pc = .ok (.ifCond .eq o, 3)) (ho : (pc : Int) + o = (pc1 : Int)) (hp : pc + 3 = pc2) (r1 : x = y → own_Run p l e R s m args below meth c n0 Kf h k q (mkF m pc1 Ls rest)) (r2 : ¬ x = y → own_Run p l e R s m args below meth c n0 Kf h k q (mkF m pc2 Ls rest)) : own_Run p l e R s m args below meth c n0 Kf h k q (mkF m pc Ls (.int (Jvm.Free.XT.cmpL x y) :: rest)) := by
  by_cases hc : x = y
  · exact own_st (fun T locs X eT t kk => Jvm.Free.XS.ifYes X.here C.g_x rfl (pc0 := pc) (pc' := pc1) rfl (hb C.g_by hd) rfl (Jvm.Free.XT.ll_eq_t hc) (by omega) (by omega) kk) (r1 hc)
  · subst hp; exact own_st (fun T locs X eT t kk => Jvm.Free.XS.ifNo X.here C.g_x rfl (hb C.g_by hd) rfl (Jvm.Free.XT.ll_eq_f hc) kk) (r2 hc)
theorem own_ii_ne (C : own_Ctx p s m meth c Z own nm bytes maxL ret) {o : Int} {x y : Int32} (hd : decode bytes pc = .ok (.if_icmp .ne o, 3)) (ho : (pc : Int) + o = (pc1 : Int)) (hp : pc + 3 = pc2) (r1 : ¬ x = y → own_Run p l e R s m args below meth c n0 Kf h k q (mkF m pc1 Ls rest)) (r2 : x = y → own_Run p l e R s m args below meth c n0 Kf h k q (mkF m pc2 Ls rest)) : own_Run p l e R s m args below meth c n0 Kf h k q (mkF m pc Ls (.int y :: .int x :: rest)) := by
  by_cases hc : x = y
  · subst hp; exact own_st (fun T locs X eT t kk => Jvm.Free.XS.icmpNo X.here C.g_x rfl (hb C.g_by hd) rfl (Jvm.Free.XT.ii_ne_f hc) kk) (r2 hc)
  · exact own_st (fun T locs X eT t kk => Jvm.Free.XS.icmpYes X.here C.g_x rfl (pc0 := pc) (pc' := pc1) rfl (hb C.g_by hd) rfl (Jvm.Free.XT.ii_ne_t hc) (by omega) (by omega) kk) (r1 hc)
theorem own_i0_ne (C : own_Ctx p s m meth c Z own nm bytes maxL ret) {o : Int} {x : Int32} (hd : decode bytes pc = .ok (.ifCond .ne o, 3)) (ho : (pc : Int) + o = (pc1 : Int)) (hp : pc + 3 = pc2) (r1 : ¬ x = 0 → own_Run p l e R s m args below meth c n0 Kf h k q (mkF m pc1 Ls rest)) (r2 : x = 0 → own_Run p l e R s m args below meth c n0 Kf h k q (mkF m pc2 Ls rest)) : own_Run p l e R s m args below meth c n0 Kf h k q (mkF m pc Ls (.int x :: rest)) := by
  by_cases hc : x = 0
  · subst hp; exact own_st (fun T locs X eT t kk => Jvm.Free.XS.ifNo X.here C.g_x rfl (hb C.g_by hd) rfl (Jvm.Free.XT.i0_ne_f hc) kk) (r2 hc)
  · exact own_st (fun T locs X eT t kk => Jvm.Free.XS.ifYes X.here C.g_x rfl (pc0 := pc) (pc' := pc1) rfl (hb C.g_by hd) rfl (Jvm.Free.XT.i0_ne_t hc) (by omega) (by omega) kk) (r1 hc)
theorem own_ll_ne (C : own_Ctx p s m meth c Z own nm bytes maxL ret) {o : Int} {x y : Int64} (hd : decode bytes pc = .ok (.ifCond .ne o, 3)) (ho : (pc : Int) + o = (pc1 : Int)) (hp : pc + 3 = pc2) (r1 : ¬ x = y → own_Run p l e R s m args below meth c n0 Kf h k q (mkF m pc1 Ls rest)) (r2 : x = y → own_Run p l e R s m args below meth c n0 Kf h k q (mkF m pc2 Ls rest)) : own_Run p l e R s m args below meth c n0 Kf h k q (mkF m pc Ls (.int (Jvm.Free.XT.cmpL x y) :: rest)) := by
  by_cases hc : x = y
  · subst hp; exact own_st (fun T locs X eT t kk => Jvm.Free.XS.ifNo X.here C.g_x rfl (hb C.g_by hd) rfl (Jvm.Free.XT.ll_ne_f hc) kk) (r2 hc)
  · exact own_st (fun T locs X eT t kk => Jvm.Free.XS.ifYes X.here C.g_x rfl (pc0 := pc) (pc' := pc1) rfl (hb C.g_by hd) rfl (Jvm.Free.XT.ll_ne_t hc) (by omega) (by omega) kk) (r1 hc)
theorem own_ii_lt (C : own_Ctx p s m meth c Z own nm bytes maxL ret) {o : Int} {x y : Int32} (hd : decode bytes pc = .ok (.if_icmp .lt o, 3)) (ho : (pc : Int) + o = (pc1 : Int)) (hp : pc + 3 = pc2) (r1 : x < y → own_Run p l e R s m args below meth c n0 Kf h k q (mkF m pc1 Ls rest)) (r2 : ¬ x < y → own_Run p l e R s m args below meth c n0 Kf h k q (mkF m pc2 Ls rest)) : own_Run p l e R s m args below meth c n0 Kf h k q (mkF m pc Ls (.int y :: .int x :: rest)) := by
  by_cases hc : x < y
  · exact own_st (fun T locs X eT t kk => Jvm.Free.XS.icmpYes X.here C.g_x rfl (pc0 := pc) (pc' := pc1) rfl (hb C.g_by hd) rfl (Jvm.Free.XT.ii_lt_t hc) (by omega) (by omega) kk) (r1 hc)
  · subst hp; exact own_st (fun T locs X eT t kk => Jvm.Free.XS.icmpNo X.here C.g_x rfl (hb C.g_by hd) rfl (Jvm.Free.XT.ii_lt_f hc) kk) (r2 hc)
theorem own_i0_lt (C : own_Ctx p s m meth c Z own nm bytes maxL ret) {o : Int} {x : Int32} (hd : decode bytes pc = .ok (.ifCond .lt o, 3)) (ho : (pc : Int) + o = (pc1 : Int)) (hp : pc + 3 = pc2) (r1 : x < 0 → own_Run p l e R s m args below meth c n0 Kf h k q (mkF m pc1 Ls rest)) (r2 : ¬ x < 0 → own_Run p l e R s m args below meth c n0 Kf h k q (mkF m pc2 Ls rest)) : own_Run p l e R s m args below meth c n0 Kf h k q (mkF m pc Ls (.int x :: rest)) := by
  by_cases hc : x < 0
  · exact own_st (fun T locs X eT t kk => Jvm.Free.XS.ifYes X.here C.g_x rfl (pc0 := pc) (pc' := pc1) rfl (hb C.g_by hd) rfl (Jvm.Free.XT.i0_lt_t hc) (by omega) (by omega) kk) (r1 hc)
  · subst hp; exact own_st (fun T locs X eT t kk => Jvm.Free.XS.ifNo X.here C.g_x rfl (hb C.g_by hd) rfl (Jvm.Free.XT.i0_lt_f hc) kk) (r2 hc)
theorem own_ll_lt (C : own_Ctx p s m meth c Z own nm bytes maxL ret) {o : Int} {x y : Int64} (hd : decode bytes pc = .ok (.ifCond .lt o, 3)) (ho : (pc : Int) + o = (pc1 : Int)) (hp : pc + 3 = pc2) (r1 : x < y → own_Run p l e R s m args below meth c n0 Kf h k q (mkF m pc1 Ls rest)) (r2 : ¬ x < y → own_Run p l e R s m args below meth c n0 Kf h k q (mkF m pc2 Ls rest)) : own_Run p l e R s m args below meth c n0 Kf h k q (mkF m pc Ls (.int (Jvm.Free.XT.cmpL x y) :: rest)) := by
  by_cases hc : x < y
  · exact own_st (fun T locs X eT t kk => Jvm.Free.XS.ifYes X.here C.g_x rfl (pc0 := pc) (pc' := pc1) rfl (hb C.g_by hd) rfl (Jvm.Free.XT.ll_lt_t hc) (by omega) (by omega) kk) (r1 hc)
  · subst hp; exact own_st (fun T locs X eT t kk => Jvm.Free.XS.ifNo X.here C.g_x rfl (hb C.g_by hd) rfl (Jvm.Free.XT.ll_lt_f hc) kk) (r2 hc)
theorem own_ii_ge (C : own_Ctx p s m meth c Z own nm bytes maxL ret) {o : Int} {x y : Int32} (hd : decode bytes pc = .ok (.if_icmp .ge o, 3)) (ho : (pc : Int) + o = (pc1 : Int)) (hp : pc + 3 = pc2) (r1 : ¬ x < y → own_Run p l e R s m args below meth c n0 Kf h k q (mkF m pc1 Ls rest)) (r2 : x < y → own_Run p l e R s m args below meth c n0 Kf h k q (mkF m pc2 Ls rest)) : own_Run p l e R s m args below meth c n0 Kf h k q (mkF m pc Ls (.int y :: .int x :: rest)) := by
  by_cases hc : x < y
  · subst hp; exact own_st (fun T locs X eT t kk => Jvm.Free.XS.icmpNo X.here C.g_x rfl (hb C.g_by hd) rfl (Jvm.Free.XT.ii_ge_f hc) kk) (r2 hc)
  · exact own_st (fun T locs X eT t kk => Jvm.Free.XS.icmpYes X.here C.g_x rfl (pc0 := pc) (pc' := pc1) rfl (hb C.g_by hd) rfl (Jvm.Free.XT.ii_ge_t hc) (by omega) (by omega) kk) (r1 hc)
theorem own_i0_ge (C : own_Ctx p s m meth c Z own nm bytes maxL ret) {o : Int} {x : Int32} (hd : decode bytes pc = .ok (.ifCond .ge o, 3)) (ho : (pc : Int) + o = (pc1 : Int)) (hp : pc + 3 = pc2) (r1 : ¬ x < 0 → own_Run p l e R s m args below meth c n0 Kf h k q (mkF m pc1 Ls rest)) (r2 : x < 0 → own_Run p l e R s m args below meth c n0 Kf h k q (mkF m pc2 Ls rest)) : own_Run p l e R s m args below meth c n0 Kf h k q (mkF m pc Ls (.int x :: rest)) := by
  by_cases hc : x < 0
  · subst hp; exact own_st (fun T locs X eT t kk => Jvm.Free.XS.ifNo X.here C.g_x rfl (hb C.g_by hd) rfl (Jvm.Free.XT.i0_ge_f hc) kk) (r2 hc)
  · exact own_st (fun T locs X eT t kk => Jvm.Free.XS.ifYes X.here C.g_x rfl (pc0 := pc) (pc' := pc1) rfl (hb C.g_by hd) rfl (Jvm.Free.XT.i0_ge_t hc) (by omega) (by omega) kk) (r1 hc)
theorem own_ll_ge (C : own_Ctx p s m meth c Z own nm bytes maxL ret) {o : Int} {x y : Int64} (hd : decode bytes pc = .ok (.ifCond .ge o, 3)) (ho : (pc : Int) + o = (pc1 : Int)) (hp : pc + 3 = pc2) (r1 : ¬ x < y → own_Run p l e R s m args below meth c n0 Kf h k q (mkF m pc1 Ls rest)) (r2 : x < y → own_Run p l e R s m args below meth c n0 Kf h k q (mkF m pc2 Ls rest)) : own_Run p l e R s m args below meth c n0 Kf h k q (mkF m pc Ls (.int (Jvm.Free.XT.cmpL x y) :: rest)) := by
  by_cases hc : x < y
  · subst hp; exact own_st (fun T locs X eT t kk => Jvm.Free.XS.ifNo X.here C.g_x rfl (hb C.g_by hd) rfl (Jvm.Free.XT.ll_ge_f hc) kk) (r2 hc)
  · exact own_st (fun T locs X eT t kk => Jvm.Free.XS.ifYes X.here C.g_x rfl (pc0 := pc) (pc' := pc1) rfl (hb C.g_by hd) rfl (Jvm.Free.XT.ll_ge_t hc) (by omega) (by omega) kk) (r1 hc)
theorem own_ii_gt (C : own_Ctx p s m meth c Z own nm bytes maxL ret) {o : Int} {x y : Int32} (hd : decode bytes pc = .ok (.if_icmp .gt o, 3)) (ho : (pc : Int) + o = (pc1 : Int)) (hp : pc + 3 = pc2) (r1 : y < x → own_Run p l e R s m args below meth c n0 Kf h k q (mkF m pc1 Ls rest)) (r2 : ¬ y < x → own_Run p l e R s m args below meth c n0 Kf h k q (mkF m pc2 Ls rest)) : own_Run p l e R s m args below meth c n0 Kf h k q (mkF m pc Ls (.int y :: .int x :: rest)) := by
  by_cases hc : y < x
  · exact own_st (fun T locs X eT t kk => Jvm.Free.XS.icmpYes X.here C.g_x rfl (pc0 := pc) (pc' := pc1) rfl (hb C.g_by hd) rfl (Jvm.Free.XT.ii_gt_t hc) (by omega) (by omega) kk) (r1 hc)
  · subst hp; exact own_st (fun T locs X eT t kk => Jvm.Free.XS.icmpNo X.here C.g_x rfl (hb C.g_by hd) rfl (Jvm.Free.XT.ii_gt_f hc) kk) (r2 hc)
theorem own_i0_gt (C : own_Ctx p s m meth c Z own nm bytes maxL ret) {o : Int} {x : Int32} (hd : decode bytes pc = .ok (.ifCond .gt o, 3)) (ho : (pc : Int) + o = (pc1 : Int)) (hp : pc + 3 = pc2) (r1 : 0 < x → own_Run p l e R s m args below meth c n0 Kf h k q (mkF m pc1 Ls rest)) (r2 : ¬ 0 < x → own_Run p l e R s m args below meth c n0 Kf h k q (mkF m pc2 Ls rest)) : own_Run p l e R s m args below meth c n0 Kf h k q (mkF m pc Ls (.int x :: rest)) := by
  by_cases hc : 0 < x
  · exact own_st (fun T locs X eT t kk => Jvm.Free.XS.ifYes X.here C.g_x rfl (pc0 := pc) (pc' := pc1) rfl (hb C.g_by hd) rfl (Jvm.Free.XT.i0_gt_t hc) (by omega) (by omega) kk) (r1 hc)
  · subst hp; exact own_st (fun T locs X eT t kk => Jvm.Free.XS.ifNo X.here C.g_x rfl (hb C.g_by hd) rfl (Jvm.Free.XT.i0_gt_f hc) kk) (r2 hc)
theorem own_ll_gt (C : own_Ctx p s m meth c Z own nm bytes maxL ret) {o : Int} {x y : Int64} (hd : decode bytes pc = .ok (.ifCond .gt o, 3)) (ho : (pc : Int) + o = (pc1 : Int)) (hp : pc + 3 = pc2) (r1 : y < x → own_Run p l e R s m args below meth c n0 Kf h k q (mkF m pc1 Ls rest)) (r2 : ¬ y < x → own_Run p l e R s m args below meth c n0 Kf h k q (mkF m pc2 Ls rest)) : own_Run p l e R s m args below meth c n0 Kf h k q (mkF m pc Ls (.int (Jvm.Free.XT.cmpL x y) :: rest)) := by
  by_cases hc : y < x
  · exact own_st (fun T locs X eT t kk => Jvm.Free.XS.ifYes X.here C.g_x rfl (pc0 := pc) (pc' := pc1) rfl (hb C.g_by hd) rfl (Jvm.Free.XT.ll_gt_t hc) (by omega) (by omega) kk) (r1 hc)
  · subst hp; exact own_st (fun T locs X eT t kk => Jvm.Free.XS.ifNo X.here C.g_x rfl (hb C.g_by hd) rfl (Jvm.Free.XT.ll_gt_f hc) kk) (r2 hc)
theorem own_ii_le (C : own_Ctx p s m meth c Z own nm bytes maxL ret) {o : Int} {x y : Int32} (hd : decode bytes pc = .ok (.if_icmp .le o, 3)) (ho : (pc : Int) + o = (pc1 : Int)) (hp : pc + 3 = pc2) (r1 : ¬ y < x → own_Run p l e R s m args below meth c n0 Kf h k q (mkF m pc1 Ls rest)) (r2 : y < x → own_Run p l e R s m args below meth c n0 Kf h k q (mkF m pc2 Ls rest)) : own_Run p l e R s m args below meth c n0 Kf h k q (mkF m pc Ls (.int y :: .int x :: rest)) := by
  by_cases hc : y < x
  · subst hp; exact own_st (fun T locs X eT t kk => Jvm.Free.XS.icmpNo X.here C.g_x rfl (hb C.g_by hd) rfl (Jvm.Free.XT.ii_le_f hc) kk) (r2 hc)
  · exact own_st (fun T locs X eT t kk => Jvm.Free.XS.icmpYes X.here C.g_x rfl (pc0 := pc) (pc' := pc1) rfl (hb C.g_by hd) rfl (Jvm.Free.XT.ii_le_t hc) (by omega) (by omega) kk) (r1 hc)
theorem own_i0_le (C : own_Ctx p s m meth c Z own nm bytes maxL ret) {o : Int} {x : Int32} (hd : decode bytes pc = .ok (.ifCond .le o, 3)) (ho : (pc : Int) + o = (pc1 : Int)) (hp : pc + 3 = pc2) (r1 : ¬ 0 < x → own_Run p l e R s m args below meth c n0 Kf h k q (mkF m pc1 Ls rest)) (r2 : 0 < x → own_Run p l e R s m args below meth c n0 Kf h k q (mkF m pc2 Ls rest)) : own_Run p l e R s m args below meth c n0 Kf h k q (mkF m pc Ls (.int x :: rest)) := by
  by_cases hc : 0 < x
  · subst hp; exact own_st (fun T locs X eT t kk => Jvm.Free.XS.ifNo X.here C.g_x rfl (hb C.g_by hd) rfl (Jvm.Free.XT.i0_le_f hc) kk) (r2 hc)
  · exact own_st (fun T locs X eT t kk => Jvm.Free.XS.ifYes X.here C.g_x rfl (pc0 := pc) (pc' := pc1) rfl (hb C.g_by hd) rfl (Jvm.Free.XT.i0_le_t hc) (by omega) (by omega) kk) (r1 hc)
theorem own_ll_le (C : own_Ctx p s m meth c Z own nm bytes maxL ret) {o : Int} {x y : Int64} (hd : decode bytes pc = .ok (.ifCond .le o, 3)) (ho : (pc : Int) + o = (pc1 : Int)) (hp : pc + 3 = pc2) (r1 : ¬ y < x → own_Run p l e R s m args below meth c n0 Kf h k q (mkF m pc1 Ls rest)) (r2 : y < x → own_Run p l e R s m args below meth c n0 Kf h k q (mkF m pc2 Ls rest)) : own_Run p l e R s m args below meth c n0 Kf h k q (mkF m pc Ls (.int (Jvm.Free.XT.cmpL x y) :: rest)) := by
  by_cases hc : y < x
  · subst hp; exact own_st (fun T locs X eT t kk => Jvm.Free.XS.ifNo X.here C.g_x rfl (hb C.g_by hd) rfl (Jvm.Free.XT.ll_le_f hc) kk) (r2 hc)
  · exact own_st (fun T locs X eT t kk => Jvm.Free.XS.ifYes X.here C.g_x rfl (pc0 := pc) (pc' := pc1) rfl (hb C.g_by hd) rfl (Jvm.Free.XT.ll_le_t hc) (by omega) (by omega) kk) (r1 hc)
theorem own_aa_eq (C : own_Ctx p s m meth c Z own nm bytes maxL ret) {o : Int} {x y : Value} (hx1 : x.isRef = true) (hy1 : y.isRef = true) (hd : decode bytes pc = .ok (.if_acmp .eq o, 3)) (ho : (pc : Int) + o = (pc1 : Int)) (hp : pc + 3 = pc2) (r1 : x = y → own_Run p l e R s m args below meth c n0 Kf h k q (mkF m pc1 Ls rest)) (r2 : ¬ x = y → own_Run p l e R s m args below meth c n0 Kf h k q (mkF m pc2 Ls rest)) : own_Run p l e R s m args below meth c n0 Kf h k q (mkF m pc Ls (y :: x :: rest)) := by
  by_cases hc : x = y
  · exact own_st (fun T locs X eT t kk => Jvm.Free.XT.acmpYes X.here C.g_x rfl (pc0 := pc) (pc' := pc1) rfl (hb C.g_by hd) rfl hx1 hy1 (Jvm.Free.XT.aa_eq_t hc) (by omega) (by omega) kk) (r1 hc)
  · subst hp; exact own_st (fun T locs X eT t kk => Jvm.Free.XT.acmpNo X.here C.g_x rfl (hb C.g_by hd) rfl hx1 hy1 (Jvm.Free.XT.aa_eq_f hc) kk) (r2 hc)
theorem own_aa_ne (C : own_Ctx p s m meth c Z own nm bytes maxL ret) {o : Int} {x y : Value} (hx1 : x.isRef = true) (hy1 : y.isRef = true) (hd : decode bytes pc = .ok (.if_acmp .ne o, 3)) (ho : (pc : Int) + o = (pc1 : Int)) (hp : pc + 3 = pc2) (r1 : ¬ x = y → own_Run p l e R s m args below meth c n0 Kf h k q (mkF m pc1 Ls rest)) (r2 : x = y → own_Run p l e R s m args below meth c n0 Kf h k q (mkF m pc2 Ls rest)) : own_Run p l e R s m args below meth c n0 Kf h k q (mkF m pc Ls (y :: x :: rest)) := by
  by_cases hc : x = y
  · subst hp; exact own_st (fun T locs X eT t kk => Jvm.Free.XT.acmpNo X.here C.g_x rfl (hb C.g_by hd) rfl hx1 hy1 (Jvm.Free.XT.aa_ne_f hc) kk) (r2 hc)
  · exact own_st (fun T locs X eT t kk => Jvm.Free.XT.acmpYes X.here C.g_x rfl (pc0 := pc) (pc' := pc1) rfl (hb C.g_by hd) rfl hx1 hy1 (Jvm.Free.XT.aa_ne_t hc) (by omega) (by omega) kk) (r1 hc)
theorem own_nullNo (C : own_Ctx p s m meth c Z own nm bytes maxL ret) {o : Int} {a : Addr} (hd : decode bytes pc = .ok (.ifnull o, 3)) (hp : pc + 3 = pc') (r : own_Run p l e R s m args below meth c n0 Kf h k q (mkF m pc' Ls rest)) : own_Run p l e R s m args below meth c n0 Kf h k q (mkF m pc Ls (.ref a :: rest)) :=
  own_st (fun T locs X eT t kk => by subst hp; exact Jvm.Free.XS.ifnullNo X.here C.g_x rfl (hb C.g_by hd) rfl kk) r
theorem own_getF (C : own_Ctx p s m meth c Z own nm bytes maxL ret) {i : Nat} {O n d : String} {a : Addr} {v : Value} (w : (Jvm.Cond.fieldLink own i O n d).before a0 Z = true) (F : Fld Z h a O n d v) (hd : decode bytes pc = .ok (.getfield i, 3)) (hp : pc + 3 = pc') (r : own_Run p l e R s m args below meth c n0 Kf h k q (mkF m pc' Ls (v :: rest))) : own_Run p l e R s m args below meth c n0 Kf h k q (mkF m pc Ls (.ref a :: rest)) := fun T locs X eT N => by
  subst hp
  obtain ⟨T1, X1, e1, st1⟩ := getF X C.g_x C.g_z C.g_own (host := "") (Or.inl w) Via.refl eT F (g := mkF m pc Ls (.ref a :: rest)) rfl rfl (hb C.g_by hd)
  obtain ⟨t, o, h1, h2⟩ := r T1 locs X1 e1 N
  exact ⟨t, o, st1 _ h1, h2⟩
theorem own_putF (C : own_Ctx p s m meth c Z own nm bytes maxL ret) {i kk : Nat} {O n d K : String} {a : Addr} {v old : Value} {ty : FieldType} (w : (Jvm.Cond.fieldLink own i O n d).before a0 Z = true) (F : Fld Z h a O n d old) (E : Exa Z h a K) (L : (Jvm.Cond.lays K O n d).before a0 Z = true ∨ ((Jvm.Cond.laysFinal K O n d).before a0 Z = true ∧ own = O ∧ nm = "<init>")) (wi : (Jvm.Cond.instantiable K kk).before a0 Z = true) (hty : parseFieldDescriptor d = some ty) (hn : narrow ty v = v) (hf : fits ty v = true) (ga : n0 ≤ a) (hd : decode bytes pc = .ok (.putfield i, 3)) (hp : pc + 3 = pc')
    (r : ∀ h', Wr h h' a (Jvm.RoadKit.slotOf Z O n d) v → own_Run p l e R s m args below meth c n0 Kf h' k q (mkF m pc' Ls rest)) : own_Run p l e R s m args below meth c n0 Kf h k q (mkF m pc Ls (v :: .ref a :: rest)) := fun T locs X eT N => by
  subst hp
  obtain ⟨T1, h1, X1, e1, W1, st1⟩ := putF X C.g_x C.g_z C.g_own (host := "") (Or.inl w) Via.refl eT F E (L.imp id fun x => ⟨x.1, x.2.1, C.g_nm.trans x.2.2⟩) wi hty hn hf (g := mkF m pc Ls (v :: .ref a :: rest)) rfl rfl (hb C.g_by hd)
  obtain ⟨t, o, h2, h3⟩ := r h1 W1 T1 _ X1 e1 (Fr.snoc X1 N ga)
  exact ⟨t, o, st1 _ h2, h3⟩
theorem own_getS (C : own_Ctx p s m meth c Z own nm bytes maxL ret) {i : Nat} {O n d : String} {v : Value} (w : (Jvm.Cond.fieldLink own i O n d).before a0 Z = true) (F : Sta Z h O n d v) (hd : decode bytes pc = .ok (.getstatic i, 3)) (hp : pc + 3 = pc') (r : own_Run p l e R s m args below meth c n0 Kf h k q (mkF m pc' Ls (v :: rest))) : own_Run p l e R s m args below meth c n0 Kf h k q (mkF m pc Ls rest) := fun T locs X eT N => by
  subst hp
  obtain ⟨T1, X1, e1, st1⟩ := getS (host := "") X C.g_x C.g_z C.g_own w Via.refl eT F (g := mkF m pc Ls rest) rfl (hb C.g_by hd)
  obtain ⟨t, o, h1, h2⟩ := r T1 locs X1 e1 N
  exact ⟨t, o, st1 _ h1, h2⟩
theorem own_new (C : own_Ctx p s m meth c Z own nm bytes maxL ret) {i n : Nat} {K : String} (w : (Jvm.Cond.classLink own i K).before a0 Z = true) (wi : (Jvm.Cond.instantiable K n).before a0 Z = true) (wz : (Jvm.Cond.initialized K).before a0 Z = true) (Z0 : n0 ≤ h.size) (hd : decode bytes pc = .ok (.new i, 3)) (hp : pc + 3 = pc') (hc : k + 1 ≤ R.cells) (hs : q + n ≤ R.slots)
    (r : ∀ h' a, a = h.size → n0 ≤ a → n0 ≤ h'.size → Ext h h' → Exa Z h' a K → (∀ {O nm d : String} {ty : FieldType}, Laid Z a0 K O nm d → parseFieldDescriptor d = some ty → Fld Z h' a O nm d (defaultValue ty)) → own_Run p l e R s m args below meth c n0 Kf h' (k + 1) (q + n) (mkF m pc' Ls (.ref a :: rest))) : own_Run p l e R s m args below meth c n0 Kf h k q (mkF m pc Ls rest) := fun T locs X eT N => by
  subst hp
  obtain ⟨T1, h1, X1, e1, E1, A1, D1, -, st1⟩ := newO X C.g_x C.g_z C.g_own w wi wz eT (g := mkF m pc Ls rest) rfl (hb C.g_by hd) hc hs
  obtain ⟨t, o, h2, h3⟩ := r h1 h.size rfl Z0 (Nat.le_trans Z0 E1.1) E1 A1 (fun L ht => D1 L ht) T1 _ X1 e1 N
  exact ⟨t, o, st1 _ h2, h3⟩
theorem own_initO (C : own_Ctx p s m meth c Z own nm bytes maxL ret) {i : Nat} {a : Addr} {W : Nat} (w1 : (Jvm.Cond.methodLink own i Lib.objectInit).before a0 Z = true) (w2 : (Jvm.Cond.instanceMethod Lib.objectInit).before a0 Z = true) (w3 : (Jvm.Cond.code Lib.objectInit ⟨#[0xb1]⟩ 1 none).before a0 Z = true) (hd : decode bytes pc = .ok (.invokespecial i, 3)) (hp : pc + 3 = pc') (hsz : Ls.size = maxL) (hf : 1 ≤ R.frames) (hW : 0 + (rest.map fun v => v.category).sum ≤ W) (hl : W + 12 ≤ R.locals)
    (r : own_Run p l e R s m args below meth c n0 Kf h k q (mkF m pc' Ls rest)) : own_Run p l e R s m args below meth c n0 Kf h k q (mkF m pc Ls (.ref a :: rest)) := fun T locs X eT N => by
  subst hp
  obtain ⟨T1, X1, e1, st1⟩ := initO X C.g_x C.g_z C.g_own w1 w2 w3 eT (g := mkF m pc Ls (.ref a :: rest)) rfl (by rw [C.g_ml]; exact hsz) rfl (hb C.g_by hd) hf (W := W) (by show 2 * 0 + _ ≤ _; exact hW) hl
  obtain ⟨t, o, h1, h2⟩ := r T1 locs X1 e1 N
  exact ⟨t, o, st1 _ h1, h2⟩
theorem own_callN (C : own_Ctx p s m meth c Z own nm bytes maxL ret) {i : Nat} {y : MethodName} {cb : ByteArray} {cm : Nat} {rm : Room} {a : Addr} {argsL : List Value} {Q' : Option Value → Heap → Prop} (W : Nat) (hy1 : y.name = "<init>") (w1 : (Jvm.Cond.methodLink own i y).before a0 Z = true) (w2 : (Jvm.Cond.instanceMethod y).before a0 Z = true) (w3 : (Jvm.Cond.code y cb cm none).before a0 Z = true) (w4 : (Jvm.Cond.initialized y.cls).before a0 Z = true) (hy : y.cls ≠ "java/lang/invoke/MethodHandle" ∧ y.cls ≠ "java/lang/invoke/VarHandle")
    (hM : own_Met l Z n0 y cb cm none rm [] (.ref a :: argsL).toArray h Q') (hf : rm.frames + 1 ≤ R.frames) (hl : W + (cm + 11) + rm.locals ≤ R.locals) (hlen : ∀ sig, parseMethodDescriptor y.desc = some sig → argsL.length = sig.parameters.length) {st : List Value} (hst : st = argsL.reverse ++ .ref a :: rest) (hW : 0 + (rest.map fun v => v.category).sum ≤ W) (hd : decode bytes pc = .ok (.invokespecial i, 3)) (hp : pc + 3 = pc') (hsz : Ls.size = maxL) (hc : k + rm.cells ≤ R.cells) (hs : q + rm.slots ≤ R.slots)
    (r : ∀ v h', Q' v h' → own_Run p l e R s m args below meth c n0 Kf h' (k + rm.cells) (q + rm.slots) (mkF m pc' Ls (v.toList ++ rest))) : own_Run p l e R s m args below meth c n0 Kf h k q (mkF m pc Ls st) := fun T locs X eT N => by
  subst hp
  obtain ⟨v, _, ⟨T1, L1, k1, n1⟩, -, X1, ⟨Lc1, hQ1, l1, y1, z1⟩, st1⟩ := X.specialBack C.g_x (y := y) hy1 C.g_own (mvT C.g_z w1) (mvT C.g_z w2) (mvT C.g_z w3) hy (backOf (W := W) (Q := fun v h L => Fr n0 L ∧ Q' v h) hM C.g_z w3 w4 hf hl) (g := mkF m pc Ls st) rfl (by rw [C.g_ml]; exact hsz) (Steps.refl _) (a := a) (argsL := argsL) (rest := rest) hlen hst (by show 2 * 0 + _ ≤ _; exact hW) (hb C.g_by hd) (fun _ _ => ⟨rfl, eT, hc, hs⟩)
  dsimp only [Pt.U, Pt.locs, Pt.cells, Pt.slots] at X1 l1 y1 z1 st1 hQ1
  subst l1 y1 z1
  obtain ⟨t, o, h2, h3⟩ := r v T1.heap hQ1.2 T1 _ X1 rfl (Fr.app N hQ1.1)
  exact ⟨t, o, st1.trans h2, h3⟩
theorem own_callV (C : own_Ctx p s m meth c Z own nm bytes maxL ret) {i : Nat} {y : MethodName} {cb : ByteArray} {cm : Nat} {cret : Option FieldType} {rm : Room} {a : Addr} {argsL : List Value} {Q' : Option Value → Heap → Prop} (W : Nat) (E : Exa Z h a y.cls) (w1 : (Jvm.Cond.methodLink own i y).before a0 Z = true) (w2 : (Jvm.Cond.declares y).before a0 Z = true) (w3 : (Jvm.Cond.selects y.cls y y).before a0 Z = true) (w4 : (Jvm.Cond.instanceMethod y).before a0 Z = true) (w5 : (Jvm.Cond.code y cb cm cret).before a0 Z = true) (w6 : (Jvm.Cond.initialized y.cls).before a0 Z = true) (hy : y.cls ≠ "java/lang/invoke/MethodHandle" ∧ y.cls ≠ "java/lang/invoke/VarHandle")
    (hM : own_Met l Z n0 y cb cm cret rm [] (.ref a :: argsL).toArray h Q') (hf : rm.frames + 1 ≤ R.frames) (hl : W + (cm + 11) + rm.locals ≤ R.locals) (hlen : ∀ sig, parseMethodDescriptor y.desc = some sig → argsL.length = sig.parameters.length) {st : List Value} (hst : st = argsL.reverse ++ .ref a :: rest) (hW : 0 + (rest.map fun v => v.category).sum ≤ W) (hd : decode bytes pc = .ok (.invokevirtual i, 3)) (hp : pc + 3 = pc') (hsz : Ls.size = maxL) (hc : k + rm.cells ≤ R.cells) (hs : q + rm.slots ≤ R.slots)
    (r : ∀ v h', Q' v h' → own_Run p l e R s m args below meth c n0 Kf h' (k + rm.cells) (q + rm.slots) (mkF m pc' Ls (v.toList ++ rest))) : own_Run p l e R s m args below meth c n0 Kf h k q (mkF m pc Ls st) := fun T locs X eT N => by
  subst hp
  obtain ⟨cq, kq, qa, qb, qc⟩ := isOf C.g_z eT E
  obtain ⟨v, _, ⟨T1, L1, k1, n1⟩, -, X1, ⟨Lc1, hQ1, l1, y1, z1⟩, st1⟩ := X.virtualBack C.g_x (y := y) (z := y) C.g_own (mvT C.g_z w1) (mvT C.g_z w2) (notFace_of_selects (args := #[]) (mvT C.g_z w3)) (mvT C.g_z w3) (mvT C.g_z w4) hy (backOf (W := W) (Q := fun v h L => Fr n0 L ∧ Q' v h) hM C.g_z w5 w6 hf hl) qa qc (g := mkF m pc Ls st) rfl (by rw [C.g_ml]; exact hsz) (Steps.refl _) (argsL := argsL) (rest := rest) hlen hst (by show 2 * 0 + _ ≤ _; exact hW) (hb C.g_by hd) (fun _ _ => ⟨rfl, eT, hc, hs⟩)
  dsimp only [Pt.U, Pt.locs, Pt.cells, Pt.slots] at X1 l1 y1 z1 st1 hQ1
  subst l1 y1 z1
  obtain ⟨t, o, h2, h3⟩ := r v T1.heap hQ1.2 T1 _ X1 rfl (Fr.app N hQ1.1)
  exact ⟨t, o, st1.trans h2, h3⟩
theorem own_callS (C : own_Ctx p s m meth c Z own nm bytes maxL ret) {i : Nat} {y : MethodName} {cb : ByteArray} {cm : Nat} {cret : Option FieldType} {rm : Room} {argsL : List Value} {Q' : Option Value → Heap → Prop} (W : Nat) (w1 : (Jvm.Cond.methodLink own i y).before a0 Z = true) (w2 : (Jvm.Cond.static y).before a0 Z = true) (w3 : (Jvm.Cond.initialized y.cls).before a0 Z = true) (w4 : (Jvm.Cond.code y cb cm cret).before a0 Z = true) (hy : y.cls ≠ "java/lang/invoke/MethodHandle" ∧ y.cls ≠ "java/lang/invoke/VarHandle")
    (hM : own_Met l Z n0 y cb cm cret rm [] argsL.toArray h Q') (hf : rm.frames + 1 ≤ R.frames) (hl : W + (cm + 11) + rm.locals ≤ R.locals) (hlen : ∀ sig, parseMethodDescriptor y.desc = some sig → argsL.length = sig.parameters.length) {st : List Value} (hst : st = argsL.reverse ++ rest) (hW : 0 + (rest.map fun v => v.category).sum ≤ W) (hd : decode bytes pc = .ok (.invokestatic i, 3)) (hp : pc + 3 = pc') (hsz : Ls.size = maxL) (hc : k + rm.cells ≤ R.cells) (hs : q + rm.slots ≤ R.slots)
    (r : ∀ v h', Q' v h' → own_Run p l e R s m args below meth c n0 Kf h' (k + rm.cells) (q + rm.slots) (mkF m pc' Ls (v.toList ++ rest))) : own_Run p l e R s m args below meth c n0 Kf h k q (mkF m pc Ls st) := fun T locs X eT N => by
  subst hp
  obtain ⟨v, _, ⟨T1, L1, k1, n1⟩, -, X1, ⟨Lc1, hQ1, l1, y1, z1⟩, st1⟩ := Jvm.LawKit.callS X C.g_x (y := y) C.g_own (mvT C.g_z w1) (mvT C.g_z w2) (mvT C.g_z w3) (mvT C.g_z w4) hy (backOf (W := W) (Q := fun v h L => Fr n0 L ∧ Q' v h) hM C.g_z w4 w3 hf hl) (g := mkF m pc Ls st) rfl (by rw [C.g_ml]; exact hsz) (argsL := argsL) (rest := rest) hlen hst (by show 2 * 0 + _ ≤ _; exact hW) (hb C.g_by hd) (fun _ _ => ⟨rfl, eT, hc, hs⟩)
  dsimp only [Pt.U, Pt.locs, Pt.cells, Pt.slots] at X1 l1 y1 z1 st1 hQ1
  subst l1 y1 z1
  obtain ⟨t, o, h2, h3⟩ := r v T1.heap hQ1.2 T1 _ X1 rfl (Fr.app N hQ1.1)
  exact ⟨t, o, st1 _ h2, h3⟩
theorem own_callP (C : own_Ctx p s m meth c Z own nm bytes maxL ret) {i nf : Nat} {y : MethodName} {cb : ByteArray} {cm : Nat} {cret : Option FieldType} {rm : Room} {a : Addr} {argsL : List Value} {K : String} {Q' : Option Value → Heap → Prop} (W : Nat) (E : Exa Z h a K) (w1 : (Jvm.Cond.methodLink own i y).before a0 Z = true) (w2 : (Jvm.Cond.instanceMethod y).before a0 Z = true) (w3 : (Jvm.Cond.privateMethod y).before a0 Z = true) (w4 : (Jvm.Cond.instantiable y.cls nf).before a0 Z = true) (w5 : (Jvm.Cond.code y cb cm cret).before a0 Z = true) (w6 : (Jvm.Cond.initialized y.cls).before a0 Z = true) (hy : y.cls ≠ "java/lang/invoke/MethodHandle" ∧ y.cls ≠ "java/lang/invoke/VarHandle")
    (hM : own_Met l Z n0 y cb cm cret rm [] (.ref a :: argsL).toArray h Q') (hf : rm.frames + 1 ≤ R.frames) (hl : W + (cm + 11) + rm.locals ≤ R.locals) (hlen : ∀ sig, parseMethodDescriptor y.desc = some sig → argsL.length = sig.parameters.length) {st : List Value} (hst : st = argsL.reverse ++ .ref a :: rest) (hW : 0 + (rest.map fun v => v.category).sum ≤ W) (hd : decode bytes pc = .ok (.invokevirtual i, 3)) (hp : pc + 3 = pc') (hsz : Ls.size = maxL) (hc : k + rm.cells ≤ R.cells) (hs : q + rm.slots ≤ R.slots)
    (r : ∀ v h', Q' v h' → own_Run p l e R s m args below meth c n0 Kf h' (k + rm.cells) (q + rm.slots) (mkF m pc' Ls (v.toList ++ rest))) : own_Run p l e R s m args below meth c n0 Kf h k q (mkF m pc Ls st) := fun T locs X eT N => by
  subst hp
  have hK := backOf (l := l) (R := R) (p := p) (e := e) (s := s) (below := below) (args := args) (len := 3) (W := W) (Q := fun v h L => Fr n0 L ∧ Q' v h) hM C.g_z w5 w6 hf hl
  obtain ⟨mk, mM, hnamed, hmM, hsta, hab⟩ := Cond.instanceMethod_spec (mvT (args := args) C.g_z w2)
  obtain ⟨mM', cM, hmM', -, -, -, -, -, -, hsig⟩ := Cond.code_spec hnamed (mvT (args := args) C.g_z w5)
  cases hmM.symm.trans hmM'
  obtain ⟨cI, kI, i1, i2, -, i4, -⟩ := Cond.instantiable_spec (mvT (args := args) C.g_z w4)
  cases i1.symm.trans (findClass_of_methodNamed hnamed)
  have hni : kI.isInterface = false := (Bool.or_eq_false_iff.mp i4).1
  obtain ⟨cell, hc1, hc2⟩ := E.cell
  have hsel := selectMethod_private (p := e.platform) (c := cell.cls) hmM (Cond.privateMethod_at (mvP C.g_z w3 (args := #[])) mk mM hnamed hmM)
  obtain ⟨vm1, X1, st1⟩ := X.invokevirtual C.g_x C.g_own (mvT C.g_z w1) hnamed hmM hsta i2 hni hy (a := a) (cell := cell) (by rw [eT]; exact hc1) hc2 hsel hmM hab i2 hni (g := mkF m pc Ls st) rfl (argsL := argsL) (rest := rest) (hlen _ hsig) hst (hb C.g_by hd)
  obtain ⟨v, ⟨T1, L1, k1, n1⟩, X2, ⟨Lc1, hQ1, l1, y1, z1⟩, st2⟩ := hK m meth c ⟨T.setVm vm1, locs, k, q⟩ (mkF m pc Ls rest) (.invokevirtual i) mk (.ref a :: argsL).toArray X1 rfl (by rw [C.g_ml]; exact hsz) (hb C.g_by hd) (by show 2 * 0 + _ ≤ _; exact hW) (X1.named hnamed) ⟨rfl, eT, hc, hs⟩
  dsimp only [Pt.U, Pt.locs, Pt.cells, Pt.slots] at X2 l1 y1 z1 st2 hQ1
  subst l1 y1 z1
  obtain ⟨t, o, h2, h3⟩ := r v T1.heap hQ1.2 T1 _ X2 rfl (Fr.app N hQ1.1)
  exact ⟨t, o, st1 _ fun acts => by rw [doInvoke_state]; exact st2.trans h2, h3⟩
theorem own_ret (C : own_Ctx p s m meth c Z own nm bytes maxL ret) {v : Value} {t : FieldType} {i : Instr} (hret : ret = some t) (hn : narrow t v = v)
    (hi : (i = .ireturn ∧ (t = .int ∨ t = .boolean ∨ t = .byte ∨ t = .char ∨ t = .short) ∧ ∃ z, v = .int z) ∨ (i = .lreturn ∧ t = .long ∧ ∃ z, v = .long z) ∨ (i = .dreturn ∧ t = .double ∧ ∃ z, v = .double z) ∨ (i = .freturn ∧ t = .float ∧ ∃ z, v = .float z) ∨ (i = .areturn ∧ t.isReference = true ∧ v.isRef = true))
    (hd : decode bytes pc = .ok (i, 1)) (hc : k ≤ R.cells) (hs : q ≤ R.slots) (hQ : Q (some v) h) : own_Run p l e R s m args below meth c n0 (own_K below R s n0 Q) h k q (mkF m pc Ls (v :: rest)) := fun T locs X eT N => by
  have hlocks := C.g_lk
  obtain ⟨fs, hr, hrun, hended, hW, hsame⟩ := X.leave (v := some v) (fun hh => by rw [C.g_rt, hret] at hh; cases hh) hlocks
  refine ⟨_, _, retOut X C.g_x (C.g_rt.trans hret) hn hi (hb C.g_by hd) hr, hrun, hended, _, _, rfl, ⟨N, ?_⟩, ⟨_, rfl⟩, hW, hsame.mono hc hs⟩
  show Q (some v) T.heap
  rw [eT]; exact hQ
theorem own_retV (C : own_Ctx p s m meth c Z own nm bytes maxL ret) (hret : ret = none) (hd : decode bytes pc = .ok (.return_, 1)) (hc : k ≤ R.cells) (hs : q ≤ R.slots) (hQ : Q none h) : own_Run p l e R s m args below meth c n0 (own_K below R s n0 Q) h k q (mkF m pc Ls []) := fun T locs X eT N => by
  have hlocks := C.g_lk
  obtain ⟨fs, hr, hrun, hended, hW, hsame⟩ := X.leave (v := none) (fun _ => rfl) hlocks
  refine ⟨_, _, X.returnOut C.g_x (C.g_rt.trans hret) (hb C.g_by hd) hr, hrun, hended, _, _, rfl, ⟨N, ?_⟩, ⟨_, rfl⟩, hW, hsame.mono hc hs⟩
  show Q none T.heap
  rw [eT]; exact hQ
theorem own_refne {a b : Addr} (hn : a ≠ b) : ¬ (Value.ref a = Value.ref b) := fun e => hn (Value.ref.inj e)
theorem own_nb {v : Int32} (hv : v = 0 ∨ v = 1) : narrow .boolean (.int v) = .int v := by rcases hv with rfl | rfl <;> rfl
theorem own_fb {v : Int32} (hv : v = 0 ∨ v = 1) : fits .boolean (.int v) = true := by rcases hv with rfl | rfl <;> rfl
theorem own_join {α : Type} {g : JFrame} (P : α → Prop) (F : α → JFrame) (j : ∀ v, P v → own_Run p l e R s m args below meth c n0 Kf h k q (F v)) (r : (∀ v, P v → own_Run p l e R s m args below meth c n0 Kf h k q (F v)) → own_Run p l e R s m args below meth c n0 Kf h k q g) : own_Run p l e R s m args below meth c n0 Kf h k q g := r j
theorem own_join2 {α β : Type} {g : JFrame} (P : α → β → Prop) (F : α → β → JFrame) (j : ∀ v w, P v w → own_Run p l e R s m args below meth c n0 Kf h k q (F v w)) (r : (∀ v w, P v w → own_Run p l e R s m args below meth c n0 Kf h k q (F v w)) → own_Run p l e R s m args below meth c n0 Kf h k q g) : own_Run p l e R s m args below meth c n0 Kf h k q g := r j
theorem own_join3 {α β γ : Type} {g : JFrame} (P : α → β → γ → Prop) (F : α → β → γ → JFrame) (j : ∀ v w x, P v w x → own_Run p l e R s m args below meth c n0 Kf h k q (F v w x)) (r : (∀ v w x, P v w x → own_Run p l e R s m args below meth c n0 Kf h k q (F v w x)) → own_Run p l e R s m args below meth c n0 Kf h k q g) : own_Run p l e R s m args below meth c n0 Kf h k q g := r j
def own_upd {α : Type} (f : Nat → α) (i : Nat) (x : α) : Nat → α := fun j => if j = i then x else f j
theorem own_upd_eq {α : Type} (f : Nat → α) (i : Nat) (x : α) : own_upd f i x i = x := if_pos rfl
theorem own_upd_ne {α : Type} (f : Nat → α) {i j : Nat} (x : α) (hne : j ≠ i) : own_upd f i x j = f j := if_neg hne
/-- an array: her length, and what each place holds -/
def own_A (Z : State) (h : Heap) (a : Addr) (ty : FieldType) (n : Nat) (f : Nat → Value) : Prop := n < 2 ^ 31 ∧ ∃ cl : Cell, Arr Z h a cl ty ∧ cl.slots.size = n ∧ ∀ j, j < n → cl.slots[j]? = some (f j)
abbrev own_AI (Z : State) (h : Heap) (a : Addr) (n : Nat) (f : Nat → Int32) : Prop := own_A Z h a .int n (fun j => .int (f j))
abbrev own_AB (Z : State) (h : Heap) (a : Addr) (n : Nat) (f : Nat → Int32) : Prop := own_A Z h a .byte n (fun j => .int (f j))
abbrev own_AZ (Z : State) (h : Heap) (a : Addr) (n : Nat) (f : Nat → Int32) : Prop := own_A Z h a .boolean n (fun j => .int (f j))
abbrev own_AJ (Z : State) (h : Heap) (a : Addr) (n : Nat) (f : Nat → Int64) : Prop := own_A Z h a .long n (fun j => .long (f j))
theorem own_A.lt {h : Heap} {a : Addr} {ty : FieldType} {n : Nat} {f : Nat → Value} (V : own_A Z h a ty n f) : a < h.size := by obtain ⟨_, cl, A, _⟩ := V; exact A.lt
theorem own_A.ext {h h' : Heap} {a : Addr} {ty : FieldType} {n : Nat} {f : Nat → Value} (V : own_A Z h a ty n f) (E : Ext h h') : own_A Z h' a ty n f := by obtain ⟨hn, cl, A, r⟩ := V; exact ⟨hn, cl, A.ext E, r⟩
theorem own_A.other {h h' : Heap} {a b : Addr} {sl : Nat} {w : Value} {ty : FieldType} {n : Nat} {f : Nat → Value} (V : own_A Z h b ty n f) (W : Wr h h' a sl w) (hne : b ≠ a) : own_A Z h' b ty n f := by obtain ⟨hn, cl, A, r⟩ := V; exact ⟨hn, cl, A.other W hne, r⟩
theorem own_A.keep {h h' : Heap} {a : Addr} {ws : List Addr} {ty : FieldType} {n : Nat} {f : Nat → Value} (V : own_A Z h a ty n f) (K : Keep h h' ws) (hne : a ∉ ws) : own_A Z h' a ty n f := by obtain ⟨hn, cl, A, r⟩ := V; exact ⟨hn, cl, ⟨K.2.1 a cl A.1 hne, A.2⟩, r⟩
theorem own_A.congr {h : Heap} {a : Addr} {ty : FieldType} {n : Nat} {f g : Nat → Value} (V : own_A Z h a ty n f) (e : ∀ j, j < n → f j = g j) : own_A Z h a ty n g := by obtain ⟨hn, cl, A, S, H⟩ := V; exact ⟨hn, cl, A, S, fun j hj => by rw [← e j hj]; exact H j hj⟩
theorem own_A.set {h h' : Heap} {a : Addr} {i : Nat} {w : Value} {ty : FieldType} {n : Nat} {f : Nat → Value} (V : own_A Z h a ty n f) (W : Wr h h' a i w) (hi : i < n) : own_A Z h' a ty n (own_upd f i w) := by
  obtain ⟨hn, cl, A, S, H⟩ := V
  refine ⟨hn, _, A.same W, by rw [sz_set]; exact S, fun j hj => ?_⟩
  by_cases e : j = i
  · subst e
    rw [own_upd_eq]; simp [Cell.setSlot, S, hj]
  · rw [own_upd_ne _ _ e]
    show (cl.slots.setIfInBounds i w)[j]? = _
    rw [Array.getElem?_setIfInBounds_ne (Ne.symm e)]; exact H j hj
theorem own_nat {j : Int32} {i : Nat} (hj : j.toInt = (i : Int)) : ¬ j < 0 ∧ j.toNatClampNeg = i := by
  have z : (0 : Int32).toInt = 0 := rfl
  refine ⟨?_, ?_⟩
  · rw [Int32.lt_iff_toInt_lt]; omega
  · simp only [Int32.toNatClampNeg]; omega
theorem own_inb {j : Int32} {i : Nat} {cl : Cell} {n : Nat} (hj : j.toInt = (i : Int)) (S : cl.slots.size = n) (hi : i < n) : ¬ (j < 0 ∨ cl.slots.size ≤ j.toNatClampNeg) := by
  obtain ⟨h1, h2⟩ := own_nat hj
  rw [S, h2]; exact fun hh => hh.elim h1 (Nat.not_le.mpr hi)
theorem own_newA (C : own_Ctx p s m meth c Z own nm bytes maxL ret) {aty : ArrayType} (w : (Jvm.Cond.arrayClass (newarray.typeOf aty)).before a0 Z = true) (Z0 : n0 ≤ h.size) (hd : decode bytes pc = .ok (.newarray aty, 2)) (hp : pc + 2 = pc') {n : Int32} {nn cap : Nat} (hn : n.toInt = (nn : Int)) (hcap : nn ≤ cap) (hbig : cap * 8 ≤ 536870912) (hc : k + 1 ≤ R.cells) (hl : q + cap ≤ R.slots)
    (r : ∀ h' a, a = h.size → n0 ≤ a → n0 ≤ h'.size → Ext h h' → own_A Z h' a (newarray.typeOf aty) nn (fun _ => defaultValue (newarray.typeOf aty)) → own_Run p l e R s m args below meth c n0 Kf h' (k + 1) (q + cap) (mkF m pc' Ls (.ref a :: rest))) : own_Run p l e R s m args below meth c n0 Kf h k q (mkF m pc Ls (.int n :: rest)) := fun T locs X eT N => by
  subst hp
  obtain ⟨p1, p2⟩ := own_nat hn
  obtain ⟨T1, h1, cA, X1, e1, E1, A1, st1⟩ := newP X C.g_x C.g_z w eT (g := mkF m pc Ls (.int n :: rest)) rfl (hb C.g_by hd) rfl p1 (cap := cap) (by rw [p2]; exact hcap) hbig hc hl
  have V : own_A Z h1 h.size (newarray.typeOf aty) nn (fun _ => defaultValue (newarray.typeOf aty)) := by
    refine ⟨by have := Int32.toInt_lt n; omega, _, A1, by rw [sz_new, p2], fun j hj => ?_⟩
    simp [newA, p2, hj]
  obtain ⟨t, o, h2, h3⟩ := r h1 h.size rfl Z0 (Nat.le_trans Z0 E1.1) E1 V T1 _ X1 e1 N
  exact ⟨t, o, st1 _ h2, h3⟩
theorem own_newAI (C : own_Ctx p s m meth c Z own nm bytes maxL ret) (w : (Jvm.Cond.arrayClass .int).before a0 Z = true) (Z0 : n0 ≤ h.size) (hd : decode bytes pc = .ok (.newarray .int, 2)) (hp : pc + 2 = pc') {n : Int32} {nn cap : Nat} (hn : n.toInt = (nn : Int)) (hcap : nn ≤ cap) (hbig : cap * 8 ≤ 536870912) (hc : k + 1 ≤ R.cells) (hl : q + cap ≤ R.slots)
    (r : ∀ h' a, a = h.size → n0 ≤ a → n0 ≤ h'.size → Ext h h' → own_AI Z h' a nn (fun _ => (0 : Int32)) → own_Run p l e R s m args below meth c n0 Kf h' (k + 1) (q + cap) (mkF m pc' Ls (.ref a :: rest))) : own_Run p l e R s m args below meth c n0 Kf h k q (mkF m pc Ls (.int n :: rest)) := own_newA C (aty := .int) w Z0 hd hp hn hcap hbig hc hl r
theorem own_stI (C : own_Ctx p s m meth c Z own nm bytes maxL ret) {a : Addr} {n : Nat} {f : Nat → Int32} (V : own_AI Z h a n f) {j : Int32} {i : Nat} {x : Int32} (hj : j.toInt = (i : Int)) (hi : i < n) (ga : n0 ≤ a) (hd : decode bytes pc = .ok (.iastore, 1)) (hp : pc + 1 = pc')
    (r : ∀ h', Wr h h' a i (.int x) → own_AI Z h' a n (own_upd f i x) → own_Run p l e R s m args below meth c n0 Kf h' k q (mkF m pc' Ls rest)) : own_Run p l e R s m args below meth c n0 Kf h k q (mkF m pc Ls (.int x :: .int j :: .ref a :: rest)) := fun T locs X eT N => by
  subst hp
  obtain ⟨p1, p2⟩ := own_nat hj
  obtain ⟨hn, cl, A, S, H⟩ := id V
  obtain ⟨T1, h1, X1, e1, W1, st1⟩ := stI X C.g_x C.g_z eT A (own_inb hj S hi) (g := mkF m pc Ls (.int x :: .int j :: .ref a :: rest)) rfl rfl (hb C.g_by hd)
  have W2 : Wr h h1 a i (.int x) := by rw [← p2]; exact W1
  obtain ⟨t, o, h2, h3⟩ := r h1 W2 ((own_A.set V W2 hi).congr fun j hj => by by_cases e : j = i <;> simp [own_upd, e]) T1 _ X1 e1 (Fr.snoc X1 N ga)
  exact ⟨t, o, st1 _ h2, h3⟩
theorem own_lenI (C : own_Ctx p s m meth c Z own nm bytes maxL ret) {a : Addr} {n : Nat} {f : Nat → Int32} (V : own_AI Z h a n f) (hd : decode bytes pc = .ok (.arraylength, 1)) (hp : pc + 1 = pc') (r : own_Run p l e R s m args below meth c n0 Kf h k q (mkF m pc' Ls (.int (Nat.toInt32 n) :: rest))) : own_Run p l e R s m args below meth c n0 Kf h k q (mkF m pc Ls (.ref a :: rest)) := by
  obtain ⟨hn, cl, A, S, H⟩ := V
  subst hp
  rw [← S] at r
  exact own_st (fun T locs X eT t kk => X.arraylength C.g_x (by rw [eT]; exact A.1) (State.isArrayOf_alike C.g_z.alike A.2.1) (g := mkF m pc Ls (.ref a :: rest)) rfl rfl (hb C.g_by hd) t kk) r
theorem own_ldI (C : own_Ctx p s m meth c Z own nm bytes maxL ret) {a : Addr} {n : Nat} {f : Nat → Int32} (V : own_AI Z h a n f) {j : Int32} {i : Nat} (hj : j.toInt = (i : Int)) (hi : i < n) (hd : decode bytes pc = .ok (.iaload, 1)) (hp : pc + 1 = pc') (r : own_Run p l e R s m args below meth c n0 Kf h k q (mkF m pc' Ls (.int (f i) :: rest))) : own_Run p l e R s m args below meth c n0 Kf h k q (mkF m pc Ls (.int j :: .ref a :: rest)) := by
  obtain ⟨p1, p2⟩ := own_nat hj
  obtain ⟨hn, cl, A, S, H⟩ := V
  subst hp
  exact own_st (fun T locs X eT t kk => X.iaload C.g_x (by rw [eT]; exact A.1) (State.isArrayOf_alike C.g_z.alike A.2.1) A.2.2 (own_inb hj S hi) (by rw [p2]; exact H i hi) (g := mkF m pc Ls (.int j :: .ref a :: rest)) rfl rfl (hb C.g_by hd) t kk) r
theorem own_ldIV (C : own_Ctx p s m meth c Z own nm bytes maxL ret) {a : Addr} {n : Nat} {f : Nat → Int32} (V : own_AI Z h a n f) {j : Int32} {i : Nat} {v : Int32} (hj : j.toInt = (i : Int)) (hi : i < n) (hv : f i = v) (hd : decode bytes pc = .ok (.iaload, 1)) (hp : pc + 1 = pc') (r : own_Run p l e R s m args below meth c n0 Kf h k q (mkF m pc' Ls (.int v :: rest))) : own_Run p l e R s m args below meth c n0 Kf h k q (mkF m pc Ls (.int j :: .ref a :: rest)) := by
  subst hv; exact own_ldI C V hj hi hd hp r
theorem own_newAB (C : own_Ctx p s m meth c Z own nm bytes maxL ret) (w : (Jvm.Cond.arrayClass .byte).before a0 Z = true) (Z0 : n0 ≤ h.size) (hd : decode bytes pc = .ok (.newarray .byte, 2)) (hp : pc + 2 = pc') {n : Int32} {nn cap : Nat} (hn : n.toInt = (nn : Int)) (hcap : nn ≤ cap) (hbig : cap * 8 ≤ 536870912) (hc : k + 1 ≤ R.cells) (hl : q + cap ≤ R.slots)
    (r : ∀ h' a, a = h.size → n0 ≤ a → n0 ≤ h'.size → Ext h h' → own_AB Z h' a nn (fun _ => (0 : Int32)) → own_Run p l e R s m args below meth c n0 Kf h' (k + 1) (q + cap) (mkF m pc' Ls (.ref a :: rest))) : own_Run p l e R s m args below meth c n0 Kf h k q (mkF m pc Ls (.int n :: rest)) := own_newA C (aty := .byte) w Z0 hd hp hn hcap hbig hc hl r
theorem own_stB (C : own_Ctx p s m meth c Z own nm bytes maxL ret) {a : Addr} {n : Nat} {f : Nat → Int32} (V : own_AB Z h a n f) {j : Int32} {i : Nat} {x : Int32} (hj : j.toInt = (i : Int)) (hi : i < n) (ga : n0 ≤ a) (hd : decode bytes pc = .ok (.bastore, 1)) (hp : pc + 1 = pc')
    (r : ∀ h', Wr h h' a i (.int (x.toInt8.toInt32)) → own_AB Z h' a n (own_upd f i (x.toInt8.toInt32)) → own_Run p l e R s m args below meth c n0 Kf h' k q (mkF m pc' Ls rest)) : own_Run p l e R s m args below meth c n0 Kf h k q (mkF m pc Ls (.int x :: .int j :: .ref a :: rest)) := fun T locs X eT N => by
  subst hp
  obtain ⟨p1, p2⟩ := own_nat hj
  obtain ⟨hn, cl, A, S, H⟩ := id V
  obtain ⟨T1, h1, X1, e1, W1, st1⟩ := stB X C.g_x C.g_z eT A (own_inb hj S hi) (g := mkF m pc Ls (.int x :: .int j :: .ref a :: rest)) rfl rfl (hb C.g_by hd)
  have W2 : Wr h h1 a i (.int (x.toInt8.toInt32)) := by rw [← p2]; exact W1
  obtain ⟨t, o, h2, h3⟩ := r h1 W2 ((own_A.set V W2 hi).congr fun j hj => by by_cases e : j = i <;> simp [own_upd, e]) T1 _ X1 e1 (Fr.snoc X1 N ga)
  exact ⟨t, o, st1 _ h2, h3⟩
theorem own_lenB (C : own_Ctx p s m meth c Z own nm bytes maxL ret) {a : Addr} {n : Nat} {f : Nat → Int32} (V : own_AB Z h a n f) (hd : decode bytes pc = .ok (.arraylength, 1)) (hp : pc + 1 = pc') (r : own_Run p l e R s m args below meth c n0 Kf h k q (mkF m pc' Ls (.int (Nat.toInt32 n) :: rest))) : own_Run p l e R s m args below meth c n0 Kf h k q (mkF m pc Ls (.ref a :: rest)) := by
  obtain ⟨hn, cl, A, S, H⟩ := V
  subst hp
  rw [← S] at r
  exact own_st (fun T locs X eT t kk => X.arraylength C.g_x (by rw [eT]; exact A.1) (State.isArrayOf_alike C.g_z.alike A.2.1) (g := mkF m pc Ls (.ref a :: rest)) rfl rfl (hb C.g_by hd) t kk) r
theorem own_ldB (C : own_Ctx p s m meth c Z own nm bytes maxL ret) {a : Addr} {n : Nat} {f : Nat → Int32} (V : own_AB Z h a n f) {j : Int32} {i : Nat} (hj : j.toInt = (i : Int)) (hi : i < n) (hd : decode bytes pc = .ok (.baload, 1)) (hp : pc + 1 = pc') (r : own_Run p l e R s m args below meth c n0 Kf h k q (mkF m pc' Ls (.int (f i) :: rest))) : own_Run p l e R s m args below meth c n0 Kf h k q (mkF m pc Ls (.int j :: .ref a :: rest)) := by
  obtain ⟨p1, p2⟩ := own_nat hj
  obtain ⟨hn, cl, A, S, H⟩ := V
  subst hp
  exact own_st (fun T locs X eT t kk => X.baloadBytes C.g_x (by rw [eT]; exact A.1) (State.isArrayOf_alike C.g_z.alike A.2.1) A.2.2 (own_inb hj S hi) (by rw [p2]; exact H i hi) (g := mkF m pc Ls (.int j :: .ref a :: rest)) rfl rfl (hb C.g_by hd) t kk) r
theorem own_ldBV (C : own_Ctx p s m meth c Z own nm bytes maxL ret) {a : Addr} {n : Nat} {f : Nat → Int32} (V : own_AB Z h a n f) {j : Int32} {i : Nat} {v : Int32} (hj : j.toInt = (i : Int)) (hi : i < n) (hv : f i = v) (hd : decode bytes pc = .ok (.baload, 1)) (hp : pc + 1 = pc') (r : own_Run p l e R s m args below meth c n0 Kf h k q (mkF m pc' Ls (.int v :: rest))) : own_Run p l e R s m args below meth c n0 Kf h k q (mkF m pc Ls (.int j :: .ref a :: rest)) := by
  subst hv; exact own_ldB C V hj hi hd hp r
theorem own_newAZ (C : own_Ctx p s m meth c Z own nm bytes maxL ret) (w : (Jvm.Cond.arrayClass .boolean).before a0 Z = true) (Z0 : n0 ≤ h.size) (hd : decode bytes pc = .ok (.newarray .boolean, 2)) (hp : pc + 2 = pc') {n : Int32} {nn cap : Nat} (hn : n.toInt = (nn : Int)) (hcap : nn ≤ cap) (hbig : cap * 8 ≤ 536870912) (hc : k + 1 ≤ R.cells) (hl : q + cap ≤ R.slots)
    (r : ∀ h' a, a = h.size → n0 ≤ a → n0 ≤ h'.size → Ext h h' → own_AZ Z h' a nn (fun _ => (0 : Int32)) → own_Run p l e R s m args below meth c n0 Kf h' (k + 1) (q + cap) (mkF m pc' Ls (.ref a :: rest))) : own_Run p l e R s m args below meth c n0 Kf h k q (mkF m pc Ls (.int n :: rest)) := own_newA C (aty := .boolean) w Z0 hd hp hn hcap hbig hc hl r
theorem own_stZ (C : own_Ctx p s m meth c Z own nm bytes maxL ret) {a : Addr} {n : Nat} {f : Nat → Int32} (V : own_AZ Z h a n f) {j : Int32} {i : Nat} {x : Int32} (hj : j.toInt = (i : Int)) (hi : i < n) (ga : n0 ≤ a) (hd : decode bytes pc = .ok (.bastore, 1)) (hp : pc + 1 = pc')
    (r : ∀ h', Wr h h' a i (.int (x &&& 1)) → own_AZ Z h' a n (own_upd f i (x &&& 1)) → own_Run p l e R s m args below meth c n0 Kf h' k q (mkF m pc' Ls rest)) : own_Run p l e R s m args below meth c n0 Kf h k q (mkF m pc Ls (.int x :: .int j :: .ref a :: rest)) := fun T locs X eT N => by
  subst hp
  obtain ⟨p1, p2⟩ := own_nat hj
  obtain ⟨hn, cl, A, S, H⟩ := id V
  obtain ⟨T1, h1, X1, e1, W1, st1⟩ := stZ X C.g_x C.g_z eT A (own_inb hj S hi) (g := mkF m pc Ls (.int x :: .int j :: .ref a :: rest)) rfl rfl (hb C.g_by hd)
  have W2 : Wr h h1 a i (.int (x &&& 1)) := by rw [← p2]; exact W1
  obtain ⟨t, o, h2, h3⟩ := r h1 W2 ((own_A.set V W2 hi).congr fun j hj => by by_cases e : j = i <;> simp [own_upd, e]) T1 _ X1 e1 (Fr.snoc X1 N ga)
  exact ⟨t, o, st1 _ h2, h3⟩
theorem own_lenZ (C : own_Ctx p s m meth c Z own nm bytes maxL ret) {a : Addr} {n : Nat} {f : Nat → Int32} (V : own_AZ Z h a n f) (hd : decode bytes pc = .ok (.arraylength, 1)) (hp : pc + 1 = pc') (r : own_Run p l e R s m args below meth c n0 Kf h k q (mkF m pc' Ls (.int (Nat.toInt32 n) :: rest))) : own_Run p l e R s m args below meth c n0 Kf h k q (mkF m pc Ls (.ref a :: rest)) := by
  obtain ⟨hn, cl, A, S, H⟩ := V
  subst hp
  rw [← S] at r
  exact own_st (fun T locs X eT t kk => X.arraylength C.g_x (by rw [eT]; exact A.1) (State.isArrayOf_alike C.g_z.alike A.2.1) (g := mkF m pc Ls (.ref a :: rest)) rfl rfl (hb C.g_by hd) t kk) r
theorem own_newAJ (C : own_Ctx p s m meth c Z own nm bytes maxL ret) (w : (Jvm.Cond.arrayClass .long).before a0 Z = true) (Z0 : n0 ≤ h.size) (hd : decode bytes pc = .ok (.newarray .long, 2)) (hp : pc + 2 = pc') {n : Int32} {nn cap : Nat} (hn : n.toInt = (nn : Int)) (hcap : nn ≤ cap) (hbig : cap * 8 ≤ 536870912) (hc : k + 1 ≤ R.cells) (hl : q + cap ≤ R.slots)
    (r : ∀ h' a, a = h.size → n0 ≤ a → n0 ≤ h'.size → Ext h h' → own_AJ Z h' a nn (fun _ => (0 : Int64)) → own_Run p l e R s m args below meth c n0 Kf h' (k + 1) (q + cap) (mkF m pc' Ls (.ref a :: rest))) : own_Run p l e R s m args below meth c n0 Kf h k q (mkF m pc Ls (.int n :: rest)) := own_newA C (aty := .long) w Z0 hd hp hn hcap hbig hc hl r
theorem own_stJ (C : own_Ctx p s m meth c Z own nm bytes maxL ret) {a : Addr} {n : Nat} {f : Nat → Int64} (V : own_AJ Z h a n f) {j : Int32} {i : Nat} {x : Int64} (hj : j.toInt = (i : Int)) (hi : i < n) (ga : n0 ≤ a) (hd : decode bytes pc = .ok (.lastore, 1)) (hp : pc + 1 = pc')
    (r : ∀ h', Wr h h' a i (.long x) → own_AJ Z h' a n (own_upd f i x) → own_Run p l e R s m args below meth c n0 Kf h' k q (mkF m pc' Ls rest)) : own_Run p l e R s m args below meth c n0 Kf h k q (mkF m pc Ls (.long x :: .int j :: .ref a :: rest)) := fun T locs X eT N => by
  subst hp
  obtain ⟨p1, p2⟩ := own_nat hj
  obtain ⟨hn, cl, A, S, H⟩ := id V
  obtain ⟨T1, h1, X1, e1, W1, st1⟩ := stJ X C.g_x C.g_z eT A (own_inb hj S hi) (g := mkF m pc Ls (.long x :: .int j :: .ref a :: rest)) rfl rfl (hb C.g_by hd)
  have W2 : Wr h h1 a i (.long x) := by rw [← p2]; exact W1
  obtain ⟨t, o, h2, h3⟩ := r h1 W2 ((own_A.set V W2 hi).congr fun j hj => by by_cases e : j = i <;> simp [own_upd, e]) T1 _ X1 e1 (Fr.snoc X1 N ga)
  exact ⟨t, o, st1 _ h2, h3⟩
theorem own_lenJ (C : own_Ctx p s m meth c Z own nm bytes maxL ret) {a : Addr} {n : Nat} {f : Nat → Int64} (V : own_AJ Z h a n f) (hd : decode bytes pc = .ok (.arraylength, 1)) (hp : pc + 1 = pc') (r : own_Run p l e R s m args below meth c n0 Kf h k q (mkF m pc' Ls (.int (Nat.toInt32 n) :: rest))) : own_Run p l e R s m args below meth c n0 Kf h k q (mkF m pc Ls (.ref a :: rest)) := by
  obtain ⟨hn, cl, A, S, H⟩ := V
  subst hp
  rw [← S] at r
  exact own_st (fun T locs X eT t kk => X.arraylength C.g_x (by rw [eT]; exact A.1) (State.isArrayOf_alike C.g_z.alike A.2.1) (g := mkF m pc Ls (.ref a :: rest)) rfl rfl (hb C.g_by hd) t kk) r
end Own

theorem own_succ (i : Nat) : Nat.toInt32 i + (1 : Int32) = Nat.toInt32 (i + 1) := by
  show Int32.ofNat i + Int32.ofNat 1 = Int32.ofNat (i + 1)
  rw [Int32.ofNat_add]
theorem own_ti {i : Nat} (hi : i < 2 ^ 31) : (Nat.toInt32 i).toInt = (i : Int) := len_toInt hi
theorem own_tlt {i n : Nat} (hi : i < 2 ^ 31) (hn : n < 2 ^ 31) : Nat.toInt32 i < Nat.toInt32 n ↔ i < n := by
  rw [Int32.lt_iff_toInt_lt, own_ti hi, own_ti hn]; omega
theorem own_nz {n : Int32} {N : Nat} (hn : n.toInt = (N : Int)) (h0 : 0 < N) : n ≠ 0 := by
  intro e; subst e
  have z : (0 : Int32).toInt = 0 := rfl
  omega
theorem own_pos (p : Int32) : ∃ P : Nat, (p &&& (2147483647 : Int32)).toInt = (P : Int) ∧ P < 2147483648 := by
  have h1 := (Jvm.RoadKit.c_andS p (2147483647 : Int32)).2.2 (by decide)
  have h2 := Int32.toInt_lt (p &&& (2147483647 : Int32))
  exact ⟨(p &&& (2147483647 : Int32)).toInt.toNat, by omega, by omega⟩
theorem own_mod {x n : Int32} {X N : Nat} (hx : x.toInt = (X : Int)) (hn : n.toInt = (N : Int)) (h0 : 0 < N) : (x % n).toInt = ((X % N : Nat) : Int) := by
  have h := Int32.toInt_lt n
  rw [Int32.toInt_mod, hx, hn, Int.tmod_eq_emod_of_nonneg (by omega)]
  rfl
theorem own_rem (p : Int32) {n : Int32} {N : Nat} (hn : n.toInt = (N : Int)) (h0 : 0 < N) : ∃ A : Nat, A < N ∧ ((p &&& (2147483647 : Int32)) % n).toInt = (A : Int) := by
  obtain ⟨P, hP, _⟩ := own_pos p
  exact ⟨P % N, Nat.mod_lt _ h0, own_mod hP hn h0⟩
theorem own_add {x y : Int32} {X Y : Nat} (hx : x.toInt = (X : Int)) (hy : y.toInt = (Y : Int)) (hb : X + Y < 2147483648) : (x + y).toInt = ((X + Y : Nat) : Int) := by
  rw [Jvm.Free.XT.add32 ⟨by rw [hx, hy]; omega, by rw [hx, hy]; omega⟩, hx, hy]; omega
theorem own_sub1 {x : Int32} {X : Nat} (hx : x.toInt = (X : Int)) (h0 : 0 < X) : (x - (1 : Int32)).toInt = ((X - 1 : Nat) : Int) := by
  have h := Int32.toInt_lt x
  have o : (1 : Int32).toInt = 1 := rfl
  rw [Jvm.Free.XT.sub32 ⟨by rw [hx, o]; omega, by rw [hx, o]; omega⟩, hx, o]; omega
theorem own_inj {x y : Int32} {X Y : Nat} (hx : x.toInt = (X : Int)) (hy : y.toInt = (Y : Int)) : x = y ↔ X = Y := by
  rw [← Int32.toInt_inj, hx, hy]; omega
theorem own_low (p m : Int32) (M : Nat) (hm : m.toBitVec.toNat = M) (hM : M < 2147483648) : ∃ P : Nat, P ≤ M ∧ (p &&& m).toInt = (P : Int) := by
  have e : (p &&& m).toBitVec = p.toBitVec &&& m.toBitVec := rfl
  have l : (p &&& m).toBitVec.toNat ≤ M := by rw [e, BitVec.toNat_and, ← hm]; exact Nat.and_le_right
  refine ⟨(p &&& m).toBitVec.toNat, l, ?_⟩
  show (p &&& m).toBitVec.toInt = _
  rw [BitVec.toInt_eq_toNat_cond]; split <;> omega
def own_gr (x sh : Int32) (kk T : Nat) : Int32 := if kk + 1 < T then (((Jvm.Free.XT.ushr x sh) &&& (127 : Int32)) ||| (128 : Int32)).toInt8.toInt32 else ((Jvm.Free.XT.ushr x sh) &&& (127 : Int32)).toInt8.toInt32
def own_rdv (f : Nat → Int32) (q : Nat) : Nat → Int32
  | 0 => 0
  | t + 1 => own_rdv f q t ||| ((f (q + t) &&& (127 : Int32)) <<< (Int32.ofNat (7 * t) &&& 31))
theorem own_klt {k n : Int32} {K T : Nat} (hk : k.toInt = (K : Int)) (hn : n.toInt = (T : Int)) (hT : 1 ≤ T) : k < n - (1 : Int32) ↔ K + 1 < T := by
  rw [Int32.lt_iff_toInt_lt, hk, own_sub1 hn (by omega)]; omega
theorem own_seven (x : Int32) : ∃ P : Fin 128, x &&& (127 : Int32) = Int32.ofNat P.1 := by
  obtain ⟨P, h1, h2⟩ := own_low x 127 127 rfl (by decide)
  refine ⟨⟨P, by omega⟩, ?_⟩
  apply Int32.toInt_inj.mp; rw [h2]; exact (Int32.toInt_ofNat_small (by omega)).symm
theorem own_gr_neg {x sh : Int32} {kk T : Nat} (h : kk + 1 < T) : own_gr x sh kk T < 0 := by
  unfold own_gr; rw [if_pos h]
  obtain ⟨P, e⟩ := own_seven (Jvm.Free.XT.ushr x sh)
  rw [e]; clear e; revert P; decide +kernel
theorem own_gr_pos {x sh : Int32} {kk T : Nat} (h : ¬ kk + 1 < T) : ¬ own_gr x sh kk T < 0 := by
  unfold own_gr; rw [if_neg h]
  obtain ⟨P, e⟩ := own_seven (Jvm.Free.XT.ushr x sh)
  rw [e]; clear e; revert P; decide +kernel
theorem own_gr_127 (x sh : Int32) (kk T : Nat) : own_gr x sh kk T &&& (127 : Int32) = (Jvm.Free.XT.ushr x sh) &&& (127 : Int32) := by
  unfold own_gr
  obtain ⟨P, e⟩ := own_seven (Jvm.Free.XT.ushr x sh)
  rw [e]; clear e
  split
  · revert P; decide +kernel
  · revert P; decide +kernel
theorem own_gr_8 (x sh : Int32) (kk T : Nat) : (own_gr x sh kk T).toInt8.toInt32 = own_gr x sh kk T := by
  unfold own_gr; split <;> simp
theorem own_z : (0 : Int32).toInt = ((0 : Nat) : Int) := rfl
theorem own_us (x : Int32) (k : Nat) (hk : k < 32) : (Jvm.Free.XT.ushr x (Int32.ofNat k)).toBitVec.toNat = x.toBitVec.toNat / 2 ^ k := by
  have key : ∀ k : Fin 32, (Int32.ofNat k.1 &&& 31).toUInt32.toNat = k.1 := by decide
  have e := key ⟨k, hk⟩
  show (x.toUInt32 >>> (Int32.ofNat k &&& 31).toUInt32).toNat = _
  rw [UInt32.toNat_shiftRight, e, Nat.mod_eq_of_lt hk, Nat.shiftRight_eq_div_pow]; rfl
theorem own_sl (a : Int32) (k : Nat) (hk : k < 32) : (a <<< (Int32.ofNat k &&& 31)).toBitVec.toNat = a.toBitVec.toNat * 2 ^ k % 4294967296 := by
  have key : ∀ k : Fin 32, ((Int32.ofNat k.1 &&& 31).toBitVec.smod 32).toNat = k.1 := by decide
  have e := key ⟨k, hk⟩
  rw [Int32.toBitVec_shiftLeft]
  show (a.toBitVec <<< ((Int32.ofNat k &&& 31).toBitVec.smod 32).toNat).toNat = _
  rw [e, BitVec.toNat_shiftLeft, Nat.shiftLeft_eq]
theorem own_step {x y acc : Int32} (t : Nat) (ht : t < 5) (hacc : acc.toBitVec.toNat = x.toBitVec.toNat % 2 ^ (7 * t)) (hy : y &&& (127 : Int32) = Jvm.Free.XT.ushr x (Int32.ofNat (7 * t)) &&& (127 : Int32)) :
    (acc ||| ((y &&& (127 : Int32)) <<< (Int32.ofNat (7 * t) &&& 31))).toBitVec.toNat = x.toBitVec.toNat % 2 ^ (7 * (t + 1)) := by
  have hX : x.toBitVec.toNat < 4294967296 := x.toBitVec.isLt
  have e1 : (y &&& (127 : Int32)).toBitVec.toNat = x.toBitVec.toNat / 2 ^ (7 * t) % 128 := by
    rw [hy]
    show ((Jvm.Free.XT.ushr x (Int32.ofNat (7 * t))).toBitVec &&& 127#32).toNat = _
    rw [BitVec.toNat_and, own_us x (7 * t) (by omega)]; exact Nat.and_two_pow_sub_one_eq_mod _ 7
  have e2 : (acc ||| ((y &&& (127 : Int32)) <<< (Int32.ofNat (7 * t) &&& 31))).toBitVec.toNat = (x.toBitVec.toNat % 2 ^ (7 * t)) ||| (x.toBitVec.toNat / 2 ^ (7 * t) % 128 * 2 ^ (7 * t) % 4294967296) := by
    show (acc.toBitVec ||| ((y &&& (127 : Int32)) <<< (Int32.ofNat (7 * t) &&& 31)).toBitVec).toNat = _
    rw [BitVec.toNat_or, own_sl _ _ (by omega), e1, hacc]
  rw [e2]
  generalize x.toBitVec.toNat = X at *
  have t5 : t = 0 ∨ t = 1 ∨ t = 2 ∨ t = 3 ∨ t = 4 := by omega
  have or_ : ∀ k q : Nat, X % 2 ^ k ||| 2 ^ k * q = 2 ^ k * q + X % 2 ^ k := fun k q => by
    rw [Nat.or_comm, ← Nat.two_pow_add_eq_or_of_lt (Nat.mod_lt _ (Nat.two_pow_pos k))]
  rcases t5 with rfl | rfl | rfl | rfl | rfl
  · rw [show X / 2 ^ (7 * 0) % 128 * 2 ^ (7 * 0) % 4294967296 = 2 ^ (7 * 0) * (X % 128) by omega, or_]; omega
  · rw [show X / 2 ^ (7 * 1) % 128 * 2 ^ (7 * 1) % 4294967296 = 2 ^ (7 * 1) * (X / 128 % 128) by omega, or_]; omega
  · rw [show X / 2 ^ (7 * 2) % 128 * 2 ^ (7 * 2) % 4294967296 = 2 ^ (7 * 2) * (X / 16384 % 128) by omega, or_]; omega
  · rw [show X / 2 ^ (7 * 3) % 128 * 2 ^ (7 * 3) % 4294967296 = 2 ^ (7 * 3) * (X / 2097152 % 128) by omega, or_]; omega
  · rw [show X / 2 ^ (7 * 4) % 128 * 2 ^ (7 * 4) % 4294967296 = 2 ^ (7 * 4) * (X / 268435456) by omega, or_]; omega
theorem own_rt {x : Int32} {T on : Nat} {g : Nat → Int32} (h5 : T ≤ 5) (hv : ∀ i, i < T → g (on + i) = own_gr x (Int32.ofNat (7 * i)) i T) : ∀ t, t ≤ T → (own_rdv g on t).toBitVec.toNat = x.toBitVec.toNat % 2 ^ (7 * t)
  | 0, _ => by
    show 0 = _
    omega
  | t + 1, ht => by
    have ih := own_rt h5 hv t (by omega)
    exact own_step t (by omega) ih (by rw [hv t (by omega)]; exact own_gr_127 _ _ _ _)
theorem own_dec {x : Int32} {T on : Nat} {g : Nat → Int32} (h1 : 1 ≤ T) (h5 : T ≤ 5) (hf : T < 5 → Jvm.Free.XT.ushr x (Int32.ofNat (7 * T)) = 0) (hv : ∀ i, i < T → g (on + i) = own_gr x (Int32.ofNat (7 * i)) i T) : own_rdv g on T = x := by
  apply Int32.toBitVec_inj.mp
  apply BitVec.eq_of_toNat_eq
  rw [own_rt h5 hv T (Nat.le_refl _)]
  have hX : x.toBitVec.toNat < 4294967296 := x.toBitVec.isLt
  apply Nat.mod_eq_of_lt
  by_cases c : T < 5
  · have e := own_us x (7 * T) (by omega)
    rw [hf c] at e
    have e0 : x.toBitVec.toNat / 2 ^ (7 * T) = 0 := e.symm
    exact (Nat.div_eq_zero_iff_lt (Nat.two_pow_pos _)).mp e0
  · have t : T = 5 := by omega
    subst t
    exact Nat.lt_trans hX (by decide)

theorem own_d1_0 : decode method_2_code 0 = .ok (.iload_n 0, 1) := by decide +kernel
theorem own_d1_1 : decode method_2_code 1 = .ok (.bipush 7, 2) := by decide +kernel
theorem own_d1_3 : decode method_2_code 3 = .ok (.iushr, 1) := by decide +kernel
theorem own_d1_4 : decode method_2_code 4 = .ok (.ifCond .ne 5, 3) := by decide +kernel
theorem own_d1_7 : decode method_2_code 7 = .ok (.iconst 1, 1) := by decide +kernel
theorem own_d1_8 : decode method_2_code 8 = .ok (.ireturn, 1) := by decide +kernel
theorem own_d1_9 : decode method_2_code 9 = .ok (.iload_n 0, 1) := by decide +kernel
theorem own_d1_10 : decode method_2_code 10 = .ok (.bipush 14, 2) := by decide +kernel
theorem own_d1_12 : decode method_2_code 12 = .ok (.iushr, 1) := by decide +kernel
theorem own_d1_13 : decode method_2_code 13 = .ok (.ifCond .ne 5, 3) := by decide +kernel
theorem own_d1_16 : decode method_2_code 16 = .ok (.iconst 2, 1) := by decide +kernel
theorem own_d1_17 : decode method_2_code 17 = .ok (.ireturn, 1) := by decide +kernel
theorem own_d1_18 : decode method_2_code 18 = .ok (.iload_n 0, 1) := by decide +kernel
theorem own_d1_19 : decode method_2_code 19 = .ok (.bipush 21, 2) := by decide +kernel
theorem own_d1_21 : decode method_2_code 21 = .ok (.iushr, 1) := by decide +kernel
theorem own_d1_22 : decode method_2_code 22 = .ok (.ifCond .ne 5, 3) := by decide +kernel
theorem own_d1_25 : decode method_2_code 25 = .ok (.iconst 3, 1) := by decide +kernel
theorem own_d1_26 : decode method_2_code 26 = .ok (.ireturn, 1) := by decide +kernel
theorem own_d1_27 : decode method_2_code 27 = .ok (.iload_n 0, 1) := by decide +kernel
theorem own_d1_28 : decode method_2_code 28 = .ok (.bipush 28, 2) := by decide +kernel
theorem own_d1_30 : decode method_2_code 30 = .ok (.iushr, 1) := by decide +kernel
theorem own_d1_31 : decode method_2_code 31 = .ok (.ifCond .ne 5, 3) := by decide +kernel
theorem own_d1_34 : decode method_2_code 34 = .ok (.iconst 4, 1) := by decide +kernel
theorem own_d1_35 : decode method_2_code 35 = .ok (.ireturn, 1) := by decide +kernel
theorem own_d1_36 : decode method_2_code 36 = .ok (.iconst 5, 1) := by decide +kernel
theorem own_d1_37 : decode method_2_code 37 = .ok (.ireturn, 1) := by decide +kernel
theorem own_d2_0 : decode method_4_code 0 = .ok (.aload_n 0, 1) := by decide +kernel
theorem own_d2_1 : decode method_4_code 1 = .ok (.iload_n 1, 1) := by decide +kernel
theorem own_d2_2 : decode method_4_code 2 = .ok (.iload_n 2, 1) := by decide +kernel
theorem own_d2_3 : decode method_4_code 3 = .ok (.iconst 0, 1) := by decide +kernel
theorem own_d2_4 : decode method_4_code 4 = .ok (.iload_n 3, 1) := by decide +kernel
theorem own_d2_5 : decode method_4_code 5 = .ok (.invokestatic 7, 3) := by decide +kernel
theorem own_d2_8 : decode method_4_code 8 = .ok (.bastore, 1) := by decide +kernel
theorem own_d2_9 : decode method_4_code 9 = .ok (.iload_n 3, 1) := by decide +kernel
theorem own_d2_10 : decode method_4_code 10 = .ok (.iconst 1, 1) := by decide +kernel
theorem own_d2_11 : decode method_4_code 11 = .ok (.if_icmp .le 14, 3) := by decide +kernel
theorem own_d2_14 : decode method_4_code 14 = .ok (.aload_n 0, 1) := by decide +kernel
theorem own_d2_15 : decode method_4_code 15 = .ok (.iload_n 1, 1) := by decide +kernel
theorem own_d2_16 : decode method_4_code 16 = .ok (.iconst 1, 1) := by decide +kernel
theorem own_d2_17 : decode method_4_code 17 = .ok (.iadd, 1) := by decide +kernel
theorem own_d2_18 : decode method_4_code 18 = .ok (.iload_n 2, 1) := by decide +kernel
theorem own_d2_19 : decode method_4_code 19 = .ok (.iconst 1, 1) := by decide +kernel
theorem own_d2_20 : decode method_4_code 20 = .ok (.iload_n 3, 1) := by decide +kernel
theorem own_d2_21 : decode method_4_code 21 = .ok (.invokestatic 7, 3) := by decide +kernel
theorem own_d2_24 : decode method_4_code 24 = .ok (.bastore, 1) := by decide +kernel
theorem own_d2_25 : decode method_4_code 25 = .ok (.iload_n 3, 1) := by decide +kernel
theorem own_d2_26 : decode method_4_code 26 = .ok (.iconst 2, 1) := by decide +kernel
theorem own_d2_27 : decode method_4_code 27 = .ok (.if_icmp .le 14, 3) := by decide +kernel
theorem own_d2_30 : decode method_4_code 30 = .ok (.aload_n 0, 1) := by decide +kernel
theorem own_d2_31 : decode method_4_code 31 = .ok (.iload_n 1, 1) := by decide +kernel
theorem own_d2_32 : decode method_4_code 32 = .ok (.iconst 2, 1) := by decide +kernel
theorem own_d2_33 : decode method_4_code 33 = .ok (.iadd, 1) := by decide +kernel
theorem own_d2_34 : decode method_4_code 34 = .ok (.iload_n 2, 1) := by decide +kernel
theorem own_d2_35 : decode method_4_code 35 = .ok (.iconst 2, 1) := by decide +kernel
theorem own_d2_36 : decode method_4_code 36 = .ok (.iload_n 3, 1) := by decide +kernel
theorem own_d2_37 : decode method_4_code 37 = .ok (.invokestatic 7, 3) := by decide +kernel
theorem own_d2_40 : decode method_4_code 40 = .ok (.bastore, 1) := by decide +kernel
theorem own_d2_41 : decode method_4_code 41 = .ok (.iload_n 3, 1) := by decide +kernel
theorem own_d2_42 : decode method_4_code 42 = .ok (.iconst 3, 1) := by decide +kernel
theorem own_d2_43 : decode method_4_code 43 = .ok (.if_icmp .le 14, 3) := by decide +kernel
theorem own_d2_46 : decode method_4_code 46 = .ok (.aload_n 0, 1) := by decide +kernel
theorem own_d2_47 : decode method_4_code 47 = .ok (.iload_n 1, 1) := by decide +kernel
theorem own_d2_48 : decode method_4_code 48 = .ok (.iconst 3, 1) := by decide +kernel
theorem own_d2_49 : decode method_4_code 49 = .ok (.iadd, 1) := by decide +kernel
theorem own_d2_50 : decode method_4_code 50 = .ok (.iload_n 2, 1) := by decide +kernel
theorem own_d2_51 : decode method_4_code 51 = .ok (.iconst 3, 1) := by decide +kernel
theorem own_d2_52 : decode method_4_code 52 = .ok (.iload_n 3, 1) := by decide +kernel
theorem own_d2_53 : decode method_4_code 53 = .ok (.invokestatic 7, 3) := by decide +kernel
theorem own_d2_56 : decode method_4_code 56 = .ok (.bastore, 1) := by decide +kernel
theorem own_d2_57 : decode method_4_code 57 = .ok (.iload_n 3, 1) := by decide +kernel
theorem own_d2_58 : decode method_4_code 58 = .ok (.iconst 4, 1) := by decide +kernel
theorem own_d2_59 : decode method_4_code 59 = .ok (.if_icmp .le 14, 3) := by decide +kernel
theorem own_d2_62 : decode method_4_code 62 = .ok (.aload_n 0, 1) := by decide +kernel
theorem own_d2_63 : decode method_4_code 63 = .ok (.iload_n 1, 1) := by decide +kernel
theorem own_d2_64 : decode method_4_code 64 = .ok (.iconst 4, 1) := by decide +kernel
theorem own_d2_65 : decode method_4_code 65 = .ok (.iadd, 1) := by decide +kernel
theorem own_d2_66 : decode method_4_code 66 = .ok (.iload_n 2, 1) := by decide +kernel
theorem own_d2_67 : decode method_4_code 67 = .ok (.iconst 4, 1) := by decide +kernel
theorem own_d2_68 : decode method_4_code 68 = .ok (.iload_n 3, 1) := by decide +kernel
theorem own_d2_69 : decode method_4_code 69 = .ok (.invokestatic 7, 3) := by decide +kernel
theorem own_d2_72 : decode method_4_code 72 = .ok (.bastore, 1) := by decide +kernel
theorem own_d2_73 : decode method_4_code 73 = .ok (.return_, 1) := by decide +kernel
theorem own_d3_0 : decode method_3_code 0 = .ok (.iload_n 0, 1) := by decide +kernel
theorem own_d3_1 : decode method_3_code 1 = .ok (.bipush 7, 2) := by decide +kernel
theorem own_d3_3 : decode method_3_code 3 = .ok (.iload_n 1, 1) := by decide +kernel
theorem own_d3_4 : decode method_3_code 4 = .ok (.imul, 1) := by decide +kernel
theorem own_d3_5 : decode method_3_code 5 = .ok (.iushr, 1) := by decide +kernel
theorem own_d3_6 : decode method_3_code 6 = .ok (.bipush 127, 2) := by decide +kernel
theorem own_d3_8 : decode method_3_code 8 = .ok (.iand, 1) := by decide +kernel
theorem own_d3_9 : decode method_3_code 9 = .ok (.istore_n 3, 1) := by decide +kernel
theorem own_d3_10 : decode method_3_code 10 = .ok (.iload_n 1, 1) := by decide +kernel
theorem own_d3_11 : decode method_3_code 11 = .ok (.iload_n 2, 1) := by decide +kernel
theorem own_d3_12 : decode method_3_code 12 = .ok (.iconst 1, 1) := by decide +kernel
theorem own_d3_13 : decode method_3_code 13 = .ok (.isub, 1) := by decide +kernel
theorem own_d3_14 : decode method_3_code 14 = .ok (.if_icmp .ge 9, 3) := by decide +kernel
theorem own_d3_17 : decode method_3_code 17 = .ok (.iload_n 3, 1) := by decide +kernel
theorem own_d3_18 : decode method_3_code 18 = .ok (.sipush 128, 3) := by decide +kernel
theorem own_d3_21 : decode method_3_code 21 = .ok (.ior, 1) := by decide +kernel
theorem own_d3_22 : decode method_3_code 22 = .ok (.istore_n 3, 1) := by decide +kernel
theorem own_d3_23 : decode method_3_code 23 = .ok (.iload_n 3, 1) := by decide +kernel
theorem own_d3_24 : decode method_3_code 24 = .ok (.i2b, 1) := by decide +kernel
theorem own_d3_25 : decode method_3_code 25 = .ok (.ireturn, 1) := by decide +kernel
theorem own_d4_0 : decode prog_17_method_1_code 0 = .ok (.aload_n 0, 1) := by decide +kernel
theorem own_d4_1 : decode prog_17_method_1_code 1 = .ok (.invokespecial 1, 3) := by decide +kernel
theorem own_d4_4 : decode prog_17_method_1_code 4 = .ok (.aload_n 0, 1) := by decide +kernel
theorem own_d4_5 : decode prog_17_method_1_code 5 = .ok (.aload_n 1, 1) := by decide +kernel
theorem own_d4_6 : decode prog_17_method_1_code 6 = .ok (.putfield 7, 3) := by decide +kernel
theorem own_d4_9 : decode prog_17_method_1_code 9 = .ok (.return_, 1) := by decide +kernel
theorem own_d6_0 : decode prog_17_method_2_code 0 = .ok (.aload_n 0, 1) := by decide +kernel
theorem own_d6_1 : decode prog_17_method_2_code 1 = .ok (.getfield 13, 3) := by decide +kernel
theorem own_d6_4 : decode prog_17_method_2_code 4 = .ok (.aload_n 0, 1) := by decide +kernel
theorem own_d6_5 : decode prog_17_method_2_code 5 = .ok (.getfield 7, 3) := by decide +kernel
theorem own_d6_8 : decode prog_17_method_2_code 8 = .ok (.arraylength, 1) := by decide +kernel
theorem own_d6_9 : decode prog_17_method_2_code 9 = .ok (.if_icmp .ne 7, 3) := by decide +kernel
theorem own_d6_12 : decode prog_17_method_2_code 12 = .ok (.iconst 1, 1) := by decide +kernel
theorem own_d6_13 : decode prog_17_method_2_code 13 = .ok (.goto 4, 3) := by decide +kernel
theorem own_d6_16 : decode prog_17_method_2_code 16 = .ok (.iconst 0, 1) := by decide +kernel
theorem own_d6_17 : decode prog_17_method_2_code 17 = .ok (.ireturn, 1) := by decide +kernel
theorem own_d7_0 : decode prog_17_method_3_code 0 = .ok (.iconst 0, 1) := by decide +kernel
theorem own_d7_1 : decode prog_17_method_3_code 1 = .ok (.istore_n 1, 1) := by decide +kernel
theorem own_d7_2 : decode prog_17_method_3_code 2 = .ok (.iconst 0, 1) := by decide +kernel
theorem own_d7_3 : decode prog_17_method_3_code 3 = .ok (.istore_n 2, 1) := by decide +kernel
theorem own_d7_4 : decode prog_17_method_3_code 4 = .ok (.aload_n 0, 1) := by decide +kernel
theorem own_d7_5 : decode prog_17_method_3_code 5 = .ok (.getfield 7, 3) := by decide +kernel
theorem own_d7_8 : decode prog_17_method_3_code 8 = .ok (.aload_n 0, 1) := by decide +kernel
theorem own_d7_9 : decode prog_17_method_3_code 9 = .ok (.dup, 1) := by decide +kernel
theorem own_d7_10 : decode prog_17_method_3_code 10 = .ok (.getfield 13, 3) := by decide +kernel
theorem own_d7_13 : decode prog_17_method_3_code 13 = .ok (.dup_x1, 1) := by decide +kernel
theorem own_d7_14 : decode prog_17_method_3_code 14 = .ok (.iconst 1, 1) := by decide +kernel
theorem own_d7_15 : decode prog_17_method_3_code 15 = .ok (.iadd, 1) := by decide +kernel
theorem own_d7_16 : decode prog_17_method_3_code 16 = .ok (.putfield 13, 3) := by decide +kernel
theorem own_d7_19 : decode prog_17_method_3_code 19 = .ok (.baload, 1) := by decide +kernel
theorem own_d7_20 : decode prog_17_method_3_code 20 = .ok (.istore_n 3, 1) := by decide +kernel
theorem own_d7_21 : decode prog_17_method_3_code 21 = .ok (.iload_n 1, 1) := by decide +kernel
theorem own_d7_22 : decode prog_17_method_3_code 22 = .ok (.iload_n 3, 1) := by decide +kernel
theorem own_d7_23 : decode prog_17_method_3_code 23 = .ok (.bipush 127, 2) := by decide +kernel
theorem own_d7_25 : decode prog_17_method_3_code 25 = .ok (.iand, 1) := by decide +kernel
theorem own_d7_26 : decode prog_17_method_3_code 26 = .ok (.iload_n 2, 1) := by decide +kernel
theorem own_d7_27 : decode prog_17_method_3_code 27 = .ok (.ishl, 1) := by decide +kernel
theorem own_d7_28 : decode prog_17_method_3_code 28 = .ok (.ior, 1) := by decide +kernel
theorem own_d7_29 : decode prog_17_method_3_code 29 = .ok (.istore_n 1, 1) := by decide +kernel
theorem own_d7_30 : decode prog_17_method_3_code 30 = .ok (.iinc 2 7, 3) := by decide +kernel
theorem own_d7_33 : decode prog_17_method_3_code 33 = .ok (.iload_n 3, 1) := by decide +kernel
theorem own_d7_34 : decode prog_17_method_3_code 34 = .ok (.ifCond .lt (-30), 3) := by decide +kernel
theorem own_d7_37 : decode prog_17_method_3_code 37 = .ok (.iload_n 1, 1) := by decide +kernel
theorem own_d7_38 : decode prog_17_method_3_code 38 = .ok (.ireturn, 1) := by decide +kernel
theorem own_pn0 : plainName "com/example/words_to_weights/wordstoweights/index/VarIntReaderReadPinLaw" = true := by first | (simp [plainName, overriddenIn]; done) | decide +kernel
theorem own_pn1 : plainName "com/example/words_to_weights/wordstoweights/index/VarIntReader" = true := by first | (simp [plainName, overriddenIn]; done) | decide +kernel
theorem own_pd0 : parseMethodDescriptor "(III)B" = some ⟨[.int, .int, .int], some .byte⟩ := by decide +kernel
theorem own_pd1 : parseMethodDescriptor "(I)I" = some ⟨[.int], some .int⟩ := by decide +kernel
theorem own_pd2 : parseMethodDescriptor "([BIII)V" = some ⟨[(.array .byte), .int, .int, .int], none⟩ := by decide +kernel
theorem own_pd3 : parseMethodDescriptor "([B)V" = some ⟨[(.array .byte)], none⟩ := by decide +kernel
theorem own_pd4 : parseMethodDescriptor "()Z" = some ⟨[], some .boolean⟩ := by decide +kernel
theorem own_pd5 : parseMethodDescriptor "()I" = some ⟨[], some .int⟩ := by decide +kernel
set_option maxRecDepth 65536 in
set_option maxHeartbeats 40000000 in
theorem own_m1 {l : Launch} {Z : State} {a0 : Array Value} (hw : ∀ d ∈ tables_1, d.before a0 Z = true) {n0 : Nat} {ws : List Jvm.Cond} {h : Heap} (x : Int32) :
    own_Met l Z n0 (⟨"com/example/words_to_weights/wordstoweights/index/VarIntReaderReadPinLaw", "len", "(I)I"⟩ : MethodName) method_2_code 1 (some .int) ({ frames := 0, cells := 0, slots := 0, locals := 0 } : Room) ws #[(.int x)] h (fun v h' => ∃ y : Int32, (v = some (.int y)) ∧ (h = h') ∧ (∃ T : Nat, 1 ≤ T ∧ T ≤ 5 ∧ y.toInt = (T : Int) ∧ (T < 5 → Jvm.Free.XT.ushr x (Int32.ofNat (7 * T)) = 0))) := by
  refine own_met own_pn0 #[.val (.int x)] (fun m => by first | (simp [entryFrame, mkF, argsToLocals, Value.category]; done) | rfl) ?_
  intro p_ e_ s_ m_ b_ mt_ c_ C
  replace C : own_Ctx p_ s_ m_ mt_ c_ Z "com/example/words_to_weights/wordstoweights/index/VarIntReaderReadPinLaw" "len" method_2_code 1 (some .int) := C
  refine own_iloadN C (pc' := 1) own_d1_0 rfl rfl ?_
  refine own_bipush C (pc' := 3) (v := (7 : Int32)) own_d1_1 rfl (by decide) ?_
  refine own_iushr C (pc' := 4) own_d1_3 rfl ?_
  refine own_i0_ne C (pc1 := 9) (pc2 := 7) own_d1_4 rfl rfl (fun c1 => ?_) (fun c1 => ?_)
  · skip
    refine own_iloadN C (pc' := 10) own_d1_9 rfl rfl ?_
    refine own_bipush C (pc' := 12) (v := (14 : Int32)) own_d1_10 rfl (by decide) ?_
    refine own_iushr C (pc' := 13) own_d1_12 rfl ?_
    refine own_i0_ne C (pc1 := 18) (pc2 := 16) own_d1_13 rfl rfl (fun c2 => ?_) (fun c2 => ?_)
    · skip
      refine own_iloadN C (pc' := 19) own_d1_18 rfl rfl ?_
      refine own_bipush C (pc' := 21) (v := (21 : Int32)) own_d1_19 rfl (by decide) ?_
      refine own_iushr C (pc' := 22) own_d1_21 rfl ?_
      refine own_i0_ne C (pc1 := 27) (pc2 := 25) own_d1_22 rfl rfl (fun c3 => ?_) (fun c3 => ?_)
      · skip
        refine own_iloadN C (pc' := 28) own_d1_27 rfl rfl ?_
        refine own_bipush C (pc' := 30) (v := (28 : Int32)) own_d1_28 rfl (by decide) ?_
        refine own_iushr C (pc' := 31) own_d1_30 rfl ?_
        refine own_i0_ne C (pc1 := 36) (pc2 := 34) own_d1_31 rfl rfl (fun c4 => ?_) (fun c4 => ?_)
        · skip
          refine own_iconst C (pc' := 37) (v := (5 : Int32)) own_d1_36 rfl (by decide) ?_
          exact own_ret C (t := .int) rfl rfl (Or.inl ⟨rfl, by simp, _, rfl⟩) own_d1_37 (by decide) (by decide) (⟨(5 : Int32), rfl, rfl, ⟨5, by decide, by decide, by decide, (fun hh => absurd hh (by decide))⟩⟩)
        · skip
          refine own_iconst C (pc' := 35) (v := (4 : Int32)) own_d1_34 rfl (by decide) ?_
          exact own_ret C (t := .int) rfl rfl (Or.inl ⟨rfl, by simp, _, rfl⟩) own_d1_35 (by decide) (by decide) (⟨(4 : Int32), rfl, rfl, ⟨4, by decide, by decide, by decide, (fun _ => c4)⟩⟩)
      · skip
        refine own_iconst C (pc' := 26) (v := (3 : Int32)) own_d1_25 rfl (by decide) ?_
        exact own_ret C (t := .int) rfl rfl (Or.inl ⟨rfl, by simp, _, rfl⟩) own_d1_26 (by decide) (by decide) (⟨(3 : Int32), rfl, rfl, ⟨3, by decide, by decide, by decide, (fun _ => c3)⟩⟩)
    · skip
      refine own_iconst C (pc' := 17) (v := (2 : Int32)) own_d1_16 rfl (by decide) ?_
      exact own_ret C (t := .int) rfl rfl (Or.inl ⟨rfl, by simp, _, rfl⟩) own_d1_17 (by decide) (by decide) (⟨(2 : Int32), rfl, rfl, ⟨2, by decide, by decide, by decide, (fun _ => c2)⟩⟩)
  · skip
    refine own_iconst C (pc' := 8) (v := (1 : Int32)) own_d1_7 rfl (by decide) ?_
    exact own_ret C (t := .int) rfl rfl (Or.inl ⟨rfl, by simp, _, rfl⟩) own_d1_8 (by decide) (by decide) (⟨(1 : Int32), rfl, rfl, ⟨1, by decide, by decide, by decide, (fun _ => c1)⟩⟩)
set_option maxRecDepth 65536 in
set_option maxHeartbeats 40000000 in
theorem own_m3 {l : Launch} {Z : State} {a0 : Array Value} (hw : ∀ d ∈ tables_1, d.before a0 Z = true) {n0 : Nat} {ws : List Jvm.Cond} {h : Heap} (x : Int32) (k : Int32) (n : Int32) (sh : Int32) (kk : Nat) (T : Nat) (hk : k.toInt = (kk : Int)) (hn : n.toInt = (T : Int)) (hT : 1 ≤ T) (hm : (7 : Int32) * k = sh) :
    own_Met l Z n0 (⟨"com/example/words_to_weights/wordstoweights/index/VarIntReaderReadPinLaw", "group", "(III)B"⟩ : MethodName) method_3_code 4 (some .byte) ({ frames := 0, cells := 0, slots := 0, locals := 0 } : Room) ws #[(.int x), (.int k), (.int n)] h (fun v h' => (v = some (.int (own_gr x sh kk T))) ∧ (h = h')) := by
  refine own_met own_pn0 #[.val (.int x), .val (.int k), .val (.int n), .unset] (fun m => by first | (simp [entryFrame, mkF, argsToLocals, Value.category]; done) | rfl) ?_
  intro p_ e_ s_ m_ b_ mt_ c_ C
  replace C : own_Ctx p_ s_ m_ mt_ c_ Z "com/example/words_to_weights/wordstoweights/index/VarIntReaderReadPinLaw" "group" method_3_code 4 (some .byte) := C
  refine own_iloadN C (pc' := 1) own_d3_0 rfl rfl ?_
  refine own_bipush C (pc' := 3) (v := (7 : Int32)) own_d3_1 rfl (by decide) ?_
  refine own_iloadN C (pc' := 4) own_d3_3 rfl rfl ?_
  refine own_imul C (pc' := 5) own_d3_4 rfl ?_
  refine own_iushr C (pc' := 6) own_d3_5 rfl ?_
  refine own_bipush C (pc' := 8) (v := (127 : Int32)) own_d3_6 rfl (by decide) ?_
  refine own_iand C (pc' := 9) own_d3_8 rfl ?_
  refine own_istoreN C (pc' := 10) (Ls' := #[.val (.int x), .val (.int k), .val (.int n), .val (.int ((Jvm.Free.XT.ushr x ((7 : Int32) * k)) &&& (127 : Int32)))]) own_d3_9 rfl rfl ?_
  refine own_iloadN C (pc' := 11) own_d3_10 rfl rfl ?_
  refine own_iloadN C (pc' := 12) own_d3_11 rfl rfl ?_
  refine own_iconst C (pc' := 13) (v := (1 : Int32)) own_d3_12 rfl (by decide) ?_
  refine own_isub C (pc' := 14) own_d3_13 rfl ?_
  refine own_ii_ge C (pc1 := 23) (pc2 := 17) own_d3_14 rfl rfl (fun c5 => ?_) (fun c5 => ?_)
  · skip
    refine own_iloadN C (pc' := 24) own_d3_23 rfl rfl ?_
    refine own_i2b C (pc' := 25) own_d3_24 rfl ?_
    exact own_ret C (t := .byte) rfl (Jvm.Free.XT.narrow_b _) (Or.inl ⟨rfl, by simp, _, rfl⟩) own_d3_25 (by decide) (by decide) (⟨by unfold own_gr; rw [← hm, if_neg (by rw [own_klt hk hn hT] at c5; exact c5)], rfl⟩)
  · skip
    refine own_iloadN C (pc' := 18) own_d3_17 rfl rfl ?_
    refine own_sipush C (pc' := 21) (v := (128 : Int32)) own_d3_18 rfl (by decide) ?_
    refine own_ior C (pc' := 22) own_d3_21 rfl ?_
    refine own_istoreN C (pc' := 23) (Ls' := #[.val (.int x), .val (.int k), .val (.int n), .val (.int (((Jvm.Free.XT.ushr x ((7 : Int32) * k)) &&& (127 : Int32)) ||| (128 : Int32)))]) own_d3_22 rfl rfl ?_
    refine own_iloadN C (pc' := 24) own_d3_23 rfl rfl ?_
    refine own_i2b C (pc' := 25) own_d3_24 rfl ?_
    exact own_ret C (t := .byte) rfl (Jvm.Free.XT.narrow_b _) (Or.inl ⟨rfl, by simp, _, rfl⟩) own_d3_25 (by decide) (by decide) (⟨by unfold own_gr; rw [← hm, if_pos (by rw [own_klt hk hn hT] at c5; exact c5)], rfl⟩)
set_option maxRecDepth 65536 in
set_option maxHeartbeats 40000000 in
theorem own_m2 {l : Launch} {Z : State} {a0 : Array Value} (hw : ∀ d ∈ tables_1, d.before a0 Z = true) {n0 : Nat} {ws : List Jvm.Cond} {h : Heap} (ar : Addr) (N : Nat) (f : Nat → Int32) (off : Int32) (on : Nat) (x : Int32) (n : Int32) (T : Nat) (Z0 : n0 ≤ h.size) (f0 : n0 ≤ ar) (f1 : own_AB Z h ar N f) (ho : off.toInt = (on : Int)) (hn : n.toInt = (T : Int)) (hT1 : 1 ≤ T) (hT5 : T ≤ 5) (hoT : on + T ≤ N) :
    own_Met l Z n0 (⟨"com/example/words_to_weights/wordstoweights/index/VarIntReaderReadPinLaw", "put", "([BIII)V"⟩ : MethodName) method_4_code 4 none ({ frames := 1, cells := 0, slots := 0, locals := 17 } : Room) ws #[(.ref ar), (.int off), (.int x), (.int n)] h (fun v h' => ∃ g : Nat → Int32, (v = none) ∧ (Keep h h' [ar]) ∧ (own_AB Z h' ar N g) ∧ (∀ i, i < T → g (on + i) = own_gr x (Int32.ofNat (7 * i)) i T) ∧ (∀ j, (j < on ∨ on + T ≤ j) → g j = f j)) := by
  refine own_met own_pn0 #[.val (.ref ar), .val (.int off), .val (.int x), .val (.int n)] (fun m => by first | (simp [entryFrame, mkF, argsToLocals, Value.category]; done) | rfl) ?_
  intro p_ e_ s_ m_ b_ mt_ c_ C
  replace C : own_Ctx p_ s_ m_ mt_ c_ Z "com/example/words_to_weights/wordstoweights/index/VarIntReaderReadPinLaw" "put" method_4_code 4 none := C
  have K0 : Keep h h [ar] := Keep.refl _ _
  have hN := f1.1
  have t5 : T = 1 ∨ T = 2 ∨ T = 3 ∨ T = 4 ∨ T = 5 := by omega
  rcases t5 with rfl | rfl | rfl | rfl | rfl
  · skip
    obtain rfl : n = (1 : Int32) := Int32.toInt_inj.mp hn
    refine own_aloadN C (pc' := 1) own_d2_0 rfl rfl rfl ?_
    refine own_iloadN C (pc' := 2) own_d2_1 rfl rfl ?_
    refine own_iloadN C (pc' := 3) own_d2_2 rfl rfl ?_
    refine own_iconst C (pc' := 4) (v := (0 : Int32)) own_d2_3 rfl (by decide) ?_
    refine own_iloadN C (pc' := 5) own_d2_4 rfl rfl ?_
    refine own_callS C (pc' := 8) (y := (⟨"com/example/words_to_weights/wordstoweights/index/VarIntReaderReadPinLaw", "group", "(III)B"⟩ : MethodName)) (argsL := [(.int x), (.int (0 : Int32)), (.int (1 : Int32))]) (rest := [(.int off), (.ref ar)]) 2 (hw _ (List.mem_of_getElem? (i := 8) rfl)) (hw _ (List.mem_of_getElem? (i := 9) rfl)) (hw _ (List.mem_of_getElem? (i := 2) rfl)) (hw _ (List.mem_of_getElem? (i := 10) rfl)) (by decide) (own_m3 hw x (0 : Int32) (1 : Int32) (0 : Int32) 0 1   (by decide) (by decide) (by decide) (by decide)) (by decide) (by decide) (lenOf own_pd0 rfl) rfl (Nat.le_of_eq rfl) own_d2_5 rfl rfl (by decide) (by decide) (fun v6 h7 hq8 => ?_)
    obtain ⟨rfl, rfl⟩ := hq8
    show own_Run p_ l e_ _ s_ m_ _ b_ mt_ c_ n0 _ h _ _ (mkF m_ 8 #[.val (.ref ar), .val (.int off), .val (.int x), .val (.int (1 : Int32))] [(.int (own_gr x (0 : Int32) 0 1)), (.int off), (.ref ar)])
    refine own_stB C (pc' := 9) f1 (i := (on + 0)) ho (by omega) f0 own_d2_8 rfl (fun h9 W10 V11 => ?_)
    have Z12 : n0 ≤ h9.size := Nat.le_trans Z0 (Nat.le_of_eq (Wr.size W10).symm)
    have K13 := Keep.wr K0 W10 (Or.inl (List.mem_of_getElem? (i := 0) rfl))
    have F14 : own_AB Z h9 ar N (own_upd f (on + 0) ((own_gr x (0 : Int32) 0 1).toInt8.toInt32)) := V11
    refine own_iloadN C (pc' := 10) own_d2_9 rfl rfl ?_
    refine own_iconst C (pc' := 11) (v := (1 : Int32)) own_d2_10 rfl (by decide) ?_
    refine own_ii_le C (pc1 := 25) (pc2 := 14) own_d2_11 rfl rfl (fun c15 => ?_) (fun c15 => absurd c15 (by decide))
    refine own_iloadN C (pc' := 26) own_d2_25 rfl rfl ?_
    refine own_iconst C (pc' := 27) (v := (2 : Int32)) own_d2_26 rfl (by decide) ?_
    refine own_ii_le C (pc1 := 41) (pc2 := 30) own_d2_27 rfl rfl (fun c16 => ?_) (fun c16 => absurd c16 (by decide))
    refine own_iloadN C (pc' := 42) own_d2_41 rfl rfl ?_
    refine own_iconst C (pc' := 43) (v := (3 : Int32)) own_d2_42 rfl (by decide) ?_
    refine own_ii_le C (pc1 := 57) (pc2 := 46) own_d2_43 rfl rfl (fun c17 => ?_) (fun c17 => absurd c17 (by decide))
    refine own_iloadN C (pc' := 58) own_d2_57 rfl rfl ?_
    refine own_iconst C (pc' := 59) (v := (4 : Int32)) own_d2_58 rfl (by decide) ?_
    refine own_ii_le C (pc1 := 73) (pc2 := 62) own_d2_59 rfl rfl (fun c18 => ?_) (fun c18 => absurd c18 (by decide))
    have PA19 : ∀ i, i < 1 → (own_upd f (on + 0) ((own_gr x (0 : Int32) 0 1).toInt8.toInt32)) (on + i) = own_gr x (Int32.ofNat (7 * i)) i 1 := by
      intro i hi
      have t : i = 0 := by omega
      rcases t with rfl
      · rw [own_upd_eq]; exact own_gr_8 _ _ _ _
    have PB20 : ∀ j, (j < on ∨ on + 1 ≤ j) → (own_upd f (on + 0) ((own_gr x (0 : Int32) 0 1).toInt8.toInt32)) j = f j := by
      intro j hj
      rw [own_upd_ne _ _ (by omega)]
    exact own_retV C rfl own_d2_73 (by decide) (by decide) (⟨(own_upd f (on + 0) ((own_gr x (0 : Int32) 0 1).toInt8.toInt32)), rfl, K13, F14, PA19, PB20⟩)
  · skip
    obtain rfl : n = (2 : Int32) := Int32.toInt_inj.mp hn
    refine own_aloadN C (pc' := 1) own_d2_0 rfl rfl rfl ?_
    refine own_iloadN C (pc' := 2) own_d2_1 rfl rfl ?_
    refine own_iloadN C (pc' := 3) own_d2_2 rfl rfl ?_
    refine own_iconst C (pc' := 4) (v := (0 : Int32)) own_d2_3 rfl (by decide) ?_
    refine own_iloadN C (pc' := 5) own_d2_4 rfl rfl ?_
    refine own_callS C (pc' := 8) (y := (⟨"com/example/words_to_weights/wordstoweights/index/VarIntReaderReadPinLaw", "group", "(III)B"⟩ : MethodName)) (argsL := [(.int x), (.int (0 : Int32)), (.int (2 : Int32))]) (rest := [(.int off), (.ref ar)]) 2 (hw _ (List.mem_of_getElem? (i := 8) rfl)) (hw _ (List.mem_of_getElem? (i := 9) rfl)) (hw _ (List.mem_of_getElem? (i := 2) rfl)) (hw _ (List.mem_of_getElem? (i := 10) rfl)) (by decide) (own_m3 hw x (0 : Int32) (2 : Int32) (0 : Int32) 0 2   (by decide) (by decide) (by decide) (by decide)) (by decide) (by decide) (lenOf own_pd0 rfl) rfl (Nat.le_of_eq rfl) own_d2_5 rfl rfl (by decide) (by decide) (fun v21 h22 hq23 => ?_)
    obtain ⟨rfl, rfl⟩ := hq23
    show own_Run p_ l e_ _ s_ m_ _ b_ mt_ c_ n0 _ h _ _ (mkF m_ 8 #[.val (.ref ar), .val (.int off), .val (.int x), .val (.int (2 : Int32))] [(.int (own_gr x (0 : Int32) 0 2)), (.int off), (.ref ar)])
    refine own_stB C (pc' := 9) f1 (i := (on + 0)) ho (by omega) f0 own_d2_8 rfl (fun h24 W25 V26 => ?_)
    have Z27 : n0 ≤ h24.size := Nat.le_trans Z0 (Nat.le_of_eq (Wr.size W25).symm)
    have K28 := Keep.wr K0 W25 (Or.inl (List.mem_of_getElem? (i := 0) rfl))
    have F29 : own_AB Z h24 ar N (own_upd f (on + 0) ((own_gr x (0 : Int32) 0 2).toInt8.toInt32)) := V26
    refine own_iloadN C (pc' := 10) own_d2_9 rfl rfl ?_
    refine own_iconst C (pc' := 11) (v := (1 : Int32)) own_d2_10 rfl (by decide) ?_
    refine own_ii_le C (pc1 := 25) (pc2 := 14) own_d2_11 rfl rfl (fun c30 => absurd c30 (by decide)) (fun c30 => ?_)
    refine own_aloadN C (pc' := 15) own_d2_14 rfl rfl rfl ?_
    refine own_iloadN C (pc' := 16) own_d2_15 rfl rfl ?_
    refine own_iconst C (pc' := 17) (v := (1 : Int32)) own_d2_16 rfl (by decide) ?_
    refine own_iadd C (pc' := 18) own_d2_17 rfl ?_
    refine own_iloadN C (pc' := 19) own_d2_18 rfl rfl ?_
    refine own_iconst C (pc' := 20) (v := (1 : Int32)) own_d2_19 rfl (by decide) ?_
    refine own_iloadN C (pc' := 21) own_d2_20 rfl rfl ?_
    refine own_callS C (pc' := 24) (y := (⟨"com/example/words_to_weights/wordstoweights/index/VarIntReaderReadPinLaw", "group", "(III)B"⟩ : MethodName)) (argsL := [(.int x), (.int (1 : Int32)), (.int (2 : Int32))]) (rest := [(.int (off + (1 : Int32))), (.ref ar)]) 2 (hw _ (List.mem_of_getElem? (i := 8) rfl)) (hw _ (List.mem_of_getElem? (i := 9) rfl)) (hw _ (List.mem_of_getElem? (i := 2) rfl)) (hw _ (List.mem_of_getElem? (i := 10) rfl)) (by decide) (own_m3 hw x (1 : Int32) (2 : Int32) (7 : Int32) 1 2   (by decide) (by decide) (by decide) (by decide)) (by decide) (by decide) (lenOf own_pd0 rfl) rfl (Nat.le_of_eq rfl) own_d2_21 rfl rfl (by decide) (by decide) (fun v31 h32 hq33 => ?_)
    obtain ⟨rfl, rfl⟩ := hq33
    show own_Run p_ l e_ _ s_ m_ _ b_ mt_ c_ n0 _ h24 _ _ (mkF m_ 24 #[.val (.ref ar), .val (.int off), .val (.int x), .val (.int (2 : Int32))] [(.int (own_gr x (7 : Int32) 1 2)), (.int (off + (1 : Int32))), (.ref ar)])
    refine own_stB C (pc' := 25) F29 (i := (on + 1)) (own_add ho (rfl : (1 : Int32).toInt = ((1 : Nat) : Int)) (by omega)) (by omega) f0 own_d2_24 rfl (fun h34 W35 V36 => ?_)
    have Z37 : n0 ≤ h34.size := Nat.le_trans Z27 (Nat.le_of_eq (Wr.size W35).symm)
    have K38 := Keep.wr K28 W35 (Or.inl (List.mem_of_getElem? (i := 0) rfl))
    have F39 : own_AB Z h34 ar N (own_upd (own_upd f (on + 0) ((own_gr x (0 : Int32) 0 2).toInt8.toInt32)) (on + 1) ((own_gr x (7 : Int32) 1 2).toInt8.toInt32)) := V36
    refine own_iloadN C (pc' := 26) own_d2_25 rfl rfl ?_
    refine own_iconst C (pc' := 27) (v := (2 : Int32)) own_d2_26 rfl (by decide) ?_
    refine own_ii_le C (pc1 := 41) (pc2 := 30) own_d2_27 rfl rfl (fun c40 => ?_) (fun c40 => absurd c40 (by decide))
    refine own_iloadN C (pc' := 42) own_d2_41 rfl rfl ?_
    refine own_iconst C (pc' := 43) (v := (3 : Int32)) own_d2_42 rfl (by decide) ?_
    refine own_ii_le C (pc1 := 57) (pc2 := 46) own_d2_43 rfl rfl (fun c41 => ?_) (fun c41 => absurd c41 (by decide))
    refine own_iloadN C (pc' := 58) own_d2_57 rfl rfl ?_
    refine own_iconst C (pc' := 59) (v := (4 : Int32)) own_d2_58 rfl (by decide) ?_
    refine own_ii_le C (pc1 := 73) (pc2 := 62) own_d2_59 rfl rfl (fun c42 => ?_) (fun c42 => absurd c42 (by decide))
    have PA43 : ∀ i, i < 2 → (own_upd (own_upd f (on + 0) ((own_gr x (0 : Int32) 0 2).toInt8.toInt32)) (on + 1) ((own_gr x (7 : Int32) 1 2).toInt8.toInt32)) (on + i) = own_gr x (Int32.ofNat (7 * i)) i 2 := by
      intro i hi
      have t : i = 0 ∨ i = 1 := by omega
      rcases t with rfl | rfl
      · rw [own_upd_ne _ _ (by omega)]; rw [own_upd_eq]; exact own_gr_8 _ _ _ _
      · rw [own_upd_eq]; exact own_gr_8 _ _ _ _
    have PB44 : ∀ j, (j < on ∨ on + 2 ≤ j) → (own_upd (own_upd f (on + 0) ((own_gr x (0 : Int32) 0 2).toInt8.toInt32)) (on + 1) ((own_gr x (7 : Int32) 1 2).toInt8.toInt32)) j = f j := by
      intro j hj
      rw [own_upd_ne _ _ (by omega), own_upd_ne _ _ (by omega)]
    exact own_retV C rfl own_d2_73 (by decide) (by decide) (⟨(own_upd (own_upd f (on + 0) ((own_gr x (0 : Int32) 0 2).toInt8.toInt32)) (on + 1) ((own_gr x (7 : Int32) 1 2).toInt8.toInt32)), rfl, K38, F39, PA43, PB44⟩)
  · skip
    obtain rfl : n = (3 : Int32) := Int32.toInt_inj.mp hn
    refine own_aloadN C (pc' := 1) own_d2_0 rfl rfl rfl ?_
    refine own_iloadN C (pc' := 2) own_d2_1 rfl rfl ?_
    refine own_iloadN C (pc' := 3) own_d2_2 rfl rfl ?_
    refine own_iconst C (pc' := 4) (v := (0 : Int32)) own_d2_3 rfl (by decide) ?_
    refine own_iloadN C (pc' := 5) own_d2_4 rfl rfl ?_
    refine own_callS C (pc' := 8) (y := (⟨"com/example/words_to_weights/wordstoweights/index/VarIntReaderReadPinLaw", "group", "(III)B"⟩ : MethodName)) (argsL := [(.int x), (.int (0 : Int32)), (.int (3 : Int32))]) (rest := [(.int off), (.ref ar)]) 2 (hw _ (List.mem_of_getElem? (i := 8) rfl)) (hw _ (List.mem_of_getElem? (i := 9) rfl)) (hw _ (List.mem_of_getElem? (i := 2) rfl)) (hw _ (List.mem_of_getElem? (i := 10) rfl)) (by decide) (own_m3 hw x (0 : Int32) (3 : Int32) (0 : Int32) 0 3   (by decide) (by decide) (by decide) (by decide)) (by decide) (by decide) (lenOf own_pd0 rfl) rfl (Nat.le_of_eq rfl) own_d2_5 rfl rfl (by decide) (by decide) (fun v45 h46 hq47 => ?_)
    obtain ⟨rfl, rfl⟩ := hq47
    show own_Run p_ l e_ _ s_ m_ _ b_ mt_ c_ n0 _ h _ _ (mkF m_ 8 #[.val (.ref ar), .val (.int off), .val (.int x), .val (.int (3 : Int32))] [(.int (own_gr x (0 : Int32) 0 3)), (.int off), (.ref ar)])
    refine own_stB C (pc' := 9) f1 (i := (on + 0)) ho (by omega) f0 own_d2_8 rfl (fun h48 W49 V50 => ?_)
    have Z51 : n0 ≤ h48.size := Nat.le_trans Z0 (Nat.le_of_eq (Wr.size W49).symm)
    have K52 := Keep.wr K0 W49 (Or.inl (List.mem_of_getElem? (i := 0) rfl))
    have F53 : own_AB Z h48 ar N (own_upd f (on + 0) ((own_gr x (0 : Int32) 0 3).toInt8.toInt32)) := V50
    refine own_iloadN C (pc' := 10) own_d2_9 rfl rfl ?_
    refine own_iconst C (pc' := 11) (v := (1 : Int32)) own_d2_10 rfl (by decide) ?_
    refine own_ii_le C (pc1 := 25) (pc2 := 14) own_d2_11 rfl rfl (fun c54 => absurd c54 (by decide)) (fun c54 => ?_)
    refine own_aloadN C (pc' := 15) own_d2_14 rfl rfl rfl ?_
    refine own_iloadN C (pc' := 16) own_d2_15 rfl rfl ?_
    refine own_iconst C (pc' := 17) (v := (1 : Int32)) own_d2_16 rfl (by decide) ?_
    refine own_iadd C (pc' := 18) own_d2_17 rfl ?_
    refine own_iloadN C (pc' := 19) own_d2_18 rfl rfl ?_
    refine own_iconst C (pc' := 20) (v := (1 : Int32)) own_d2_19 rfl (by decide) ?_
    refine own_iloadN C (pc' := 21) own_d2_20 rfl rfl ?_
    refine own_callS C (pc' := 24) (y := (⟨"com/example/words_to_weights/wordstoweights/index/VarIntReaderReadPinLaw", "group", "(III)B"⟩ : MethodName)) (argsL := [(.int x), (.int (1 : Int32)), (.int (3 : Int32))]) (rest := [(.int (off + (1 : Int32))), (.ref ar)]) 2 (hw _ (List.mem_of_getElem? (i := 8) rfl)) (hw _ (List.mem_of_getElem? (i := 9) rfl)) (hw _ (List.mem_of_getElem? (i := 2) rfl)) (hw _ (List.mem_of_getElem? (i := 10) rfl)) (by decide) (own_m3 hw x (1 : Int32) (3 : Int32) (7 : Int32) 1 3   (by decide) (by decide) (by decide) (by decide)) (by decide) (by decide) (lenOf own_pd0 rfl) rfl (Nat.le_of_eq rfl) own_d2_21 rfl rfl (by decide) (by decide) (fun v55 h56 hq57 => ?_)
    obtain ⟨rfl, rfl⟩ := hq57
    show own_Run p_ l e_ _ s_ m_ _ b_ mt_ c_ n0 _ h48 _ _ (mkF m_ 24 #[.val (.ref ar), .val (.int off), .val (.int x), .val (.int (3 : Int32))] [(.int (own_gr x (7 : Int32) 1 3)), (.int (off + (1 : Int32))), (.ref ar)])
    refine own_stB C (pc' := 25) F53 (i := (on + 1)) (own_add ho (rfl : (1 : Int32).toInt = ((1 : Nat) : Int)) (by omega)) (by omega) f0 own_d2_24 rfl (fun h58 W59 V60 => ?_)
    have Z61 : n0 ≤ h58.size := Nat.le_trans Z51 (Nat.le_of_eq (Wr.size W59).symm)
    have K62 := Keep.wr K52 W59 (Or.inl (List.mem_of_getElem? (i := 0) rfl))
    have F63 : own_AB Z h58 ar N (own_upd (own_upd f (on + 0) ((own_gr x (0 : Int32) 0 3).toInt8.toInt32)) (on + 1) ((own_gr x (7 : Int32) 1 3).toInt8.toInt32)) := V60
    refine own_iloadN C (pc' := 26) own_d2_25 rfl rfl ?_
    refine own_iconst C (pc' := 27) (v := (2 : Int32)) own_d2_26 rfl (by decide) ?_
    refine own_ii_le C (pc1 := 41) (pc2 := 30) own_d2_27 rfl rfl (fun c64 => absurd c64 (by decide)) (fun c64 => ?_)
    refine own_aloadN C (pc' := 31) own_d2_30 rfl rfl rfl ?_
    refine own_iloadN C (pc' := 32) own_d2_31 rfl rfl ?_
    refine own_iconst C (pc' := 33) (v := (2 : Int32)) own_d2_32 rfl (by decide) ?_
    refine own_iadd C (pc' := 34) own_d2_33 rfl ?_
    refine own_iloadN C (pc' := 35) own_d2_34 rfl rfl ?_
    refine own_iconst C (pc' := 36) (v := (2 : Int32)) own_d2_35 rfl (by decide) ?_
    refine own_iloadN C (pc' := 37) own_d2_36 rfl rfl ?_
    refine own_callS C (pc' := 40) (y := (⟨"com/example/words_to_weights/wordstoweights/index/VarIntReaderReadPinLaw", "group", "(III)B"⟩ : MethodName)) (argsL := [(.int x), (.int (2 : Int32)), (.int (3 : Int32))]) (rest := [(.int (off + (2 : Int32))), (.ref ar)]) 2 (hw _ (List.mem_of_getElem? (i := 8) rfl)) (hw _ (List.mem_of_getElem? (i := 9) rfl)) (hw _ (List.mem_of_getElem? (i := 2) rfl)) (hw _ (List.mem_of_getElem? (i := 10) rfl)) (by decide) (own_m3 hw x (2 : Int32) (3 : Int32) (14 : Int32) 2 3   (by decide) (by decide) (by decide) (by decide)) (by decide) (by decide) (lenOf own_pd0 rfl) rfl (Nat.le_of_eq rfl) own_d2_37 rfl rfl (by decide) (by decide) (fun v65 h66 hq67 => ?_)
    obtain ⟨rfl, rfl⟩ := hq67
    show own_Run p_ l e_ _ s_ m_ _ b_ mt_ c_ n0 _ h58 _ _ (mkF m_ 40 #[.val (.ref ar), .val (.int off), .val (.int x), .val (.int (3 : Int32))] [(.int (own_gr x (14 : Int32) 2 3)), (.int (off + (2 : Int32))), (.ref ar)])
    refine own_stB C (pc' := 41) F63 (i := (on + 2)) (own_add ho (rfl : (2 : Int32).toInt = ((2 : Nat) : Int)) (by omega)) (by omega) f0 own_d2_40 rfl (fun h68 W69 V70 => ?_)
    have Z71 : n0 ≤ h68.size := Nat.le_trans Z61 (Nat.le_of_eq (Wr.size W69).symm)
    have K72 := Keep.wr K62 W69 (Or.inl (List.mem_of_getElem? (i := 0) rfl))
    have F73 : own_AB Z h68 ar N (own_upd (own_upd (own_upd f (on + 0) ((own_gr x (0 : Int32) 0 3).toInt8.toInt32)) (on + 1) ((own_gr x (7 : Int32) 1 3).toInt8.toInt32)) (on + 2) ((own_gr x (14 : Int32) 2 3).toInt8.toInt32)) := V70
    refine own_iloadN C (pc' := 42) own_d2_41 rfl rfl ?_
    refine own_iconst C (pc' := 43) (v := (3 : Int32)) own_d2_42 rfl (by decide) ?_
    refine own_ii_le C (pc1 := 57) (pc2 := 46) own_d2_43 rfl rfl (fun c74 => ?_) (fun c74 => absurd c74 (by decide))
    refine own_iloadN C (pc' := 58) own_d2_57 rfl rfl ?_
    refine own_iconst C (pc' := 59) (v := (4 : Int32)) own_d2_58 rfl (by decide) ?_
    refine own_ii_le C (pc1 := 73) (pc2 := 62) own_d2_59 rfl rfl (fun c75 => ?_) (fun c75 => absurd c75 (by decide))
    have PA76 : ∀ i, i < 3 → (own_upd (own_upd (own_upd f (on + 0) ((own_gr x (0 : Int32) 0 3).toInt8.toInt32)) (on + 1) ((own_gr x (7 : Int32) 1 3).toInt8.toInt32)) (on + 2) ((own_gr x (14 : Int32) 2 3).toInt8.toInt32)) (on + i) = own_gr x (Int32.ofNat (7 * i)) i 3 := by
      intro i hi
      have t : i = 0 ∨ i = 1 ∨ i = 2 := by omega
      rcases t with rfl | rfl | rfl
      · rw [own_upd_ne _ _ (by omega)]; rw [own_upd_ne _ _ (by omega)]; rw [own_upd_eq]; exact own_gr_8 _ _ _ _
      · rw [own_upd_ne _ _ (by omega)]; rw [own_upd_eq]; exact own_gr_8 _ _ _ _
      · rw [own_upd_eq]; exact own_gr_8 _ _ _ _
    have PB77 : ∀ j, (j < on ∨ on + 3 ≤ j) → (own_upd (own_upd (own_upd f (on + 0) ((own_gr x (0 : Int32) 0 3).toInt8.toInt32)) (on + 1) ((own_gr x (7 : Int32) 1 3).toInt8.toInt32)) (on + 2) ((own_gr x (14 : Int32) 2 3).toInt8.toInt32)) j = f j := by
      intro j hj
      rw [own_upd_ne _ _ (by omega), own_upd_ne _ _ (by omega), own_upd_ne _ _ (by omega)]
    exact own_retV C rfl own_d2_73 (by decide) (by decide) (⟨(own_upd (own_upd (own_upd f (on + 0) ((own_gr x (0 : Int32) 0 3).toInt8.toInt32)) (on + 1) ((own_gr x (7 : Int32) 1 3).toInt8.toInt32)) (on + 2) ((own_gr x (14 : Int32) 2 3).toInt8.toInt32)), rfl, K72, F73, PA76, PB77⟩)
  · skip
    obtain rfl : n = (4 : Int32) := Int32.toInt_inj.mp hn
    refine own_aloadN C (pc' := 1) own_d2_0 rfl rfl rfl ?_
    refine own_iloadN C (pc' := 2) own_d2_1 rfl rfl ?_
    refine own_iloadN C (pc' := 3) own_d2_2 rfl rfl ?_
    refine own_iconst C (pc' := 4) (v := (0 : Int32)) own_d2_3 rfl (by decide) ?_
    refine own_iloadN C (pc' := 5) own_d2_4 rfl rfl ?_
    refine own_callS C (pc' := 8) (y := (⟨"com/example/words_to_weights/wordstoweights/index/VarIntReaderReadPinLaw", "group", "(III)B"⟩ : MethodName)) (argsL := [(.int x), (.int (0 : Int32)), (.int (4 : Int32))]) (rest := [(.int off), (.ref ar)]) 2 (hw _ (List.mem_of_getElem? (i := 8) rfl)) (hw _ (List.mem_of_getElem? (i := 9) rfl)) (hw _ (List.mem_of_getElem? (i := 2) rfl)) (hw _ (List.mem_of_getElem? (i := 10) rfl)) (by decide) (own_m3 hw x (0 : Int32) (4 : Int32) (0 : Int32) 0 4   (by decide) (by decide) (by decide) (by decide)) (by decide) (by decide) (lenOf own_pd0 rfl) rfl (Nat.le_of_eq rfl) own_d2_5 rfl rfl (by decide) (by decide) (fun v78 h79 hq80 => ?_)
    obtain ⟨rfl, rfl⟩ := hq80
    show own_Run p_ l e_ _ s_ m_ _ b_ mt_ c_ n0 _ h _ _ (mkF m_ 8 #[.val (.ref ar), .val (.int off), .val (.int x), .val (.int (4 : Int32))] [(.int (own_gr x (0 : Int32) 0 4)), (.int off), (.ref ar)])
    refine own_stB C (pc' := 9) f1 (i := (on + 0)) ho (by omega) f0 own_d2_8 rfl (fun h81 W82 V83 => ?_)
    have Z84 : n0 ≤ h81.size := Nat.le_trans Z0 (Nat.le_of_eq (Wr.size W82).symm)
    have K85 := Keep.wr K0 W82 (Or.inl (List.mem_of_getElem? (i := 0) rfl))
    have F86 : own_AB Z h81 ar N (own_upd f (on + 0) ((own_gr x (0 : Int32) 0 4).toInt8.toInt32)) := V83
    refine own_iloadN C (pc' := 10) own_d2_9 rfl rfl ?_
    refine own_iconst C (pc' := 11) (v := (1 : Int32)) own_d2_10 rfl (by decide) ?_
    refine own_ii_le C (pc1 := 25) (pc2 := 14) own_d2_11 rfl rfl (fun c87 => absurd c87 (by decide)) (fun c87 => ?_)
    refine own_aloadN C (pc' := 15) own_d2_14 rfl rfl rfl ?_
    refine own_iloadN C (pc' := 16) own_d2_15 rfl rfl ?_
    refine own_iconst C (pc' := 17) (v := (1 : Int32)) own_d2_16 rfl (by decide) ?_
    refine own_iadd C (pc' := 18) own_d2_17 rfl ?_
    refine own_iloadN C (pc' := 19) own_d2_18 rfl rfl ?_
    refine own_iconst C (pc' := 20) (v := (1 : Int32)) own_d2_19 rfl (by decide) ?_
    refine own_iloadN C (pc' := 21) own_d2_20 rfl rfl ?_
    refine own_callS C (pc' := 24) (y := (⟨"com/example/words_to_weights/wordstoweights/index/VarIntReaderReadPinLaw", "group", "(III)B"⟩ : MethodName)) (argsL := [(.int x), (.int (1 : Int32)), (.int (4 : Int32))]) (rest := [(.int (off + (1 : Int32))), (.ref ar)]) 2 (hw _ (List.mem_of_getElem? (i := 8) rfl)) (hw _ (List.mem_of_getElem? (i := 9) rfl)) (hw _ (List.mem_of_getElem? (i := 2) rfl)) (hw _ (List.mem_of_getElem? (i := 10) rfl)) (by decide) (own_m3 hw x (1 : Int32) (4 : Int32) (7 : Int32) 1 4   (by decide) (by decide) (by decide) (by decide)) (by decide) (by decide) (lenOf own_pd0 rfl) rfl (Nat.le_of_eq rfl) own_d2_21 rfl rfl (by decide) (by decide) (fun v88 h89 hq90 => ?_)
    obtain ⟨rfl, rfl⟩ := hq90
    show own_Run p_ l e_ _ s_ m_ _ b_ mt_ c_ n0 _ h81 _ _ (mkF m_ 24 #[.val (.ref ar), .val (.int off), .val (.int x), .val (.int (4 : Int32))] [(.int (own_gr x (7 : Int32) 1 4)), (.int (off + (1 : Int32))), (.ref ar)])
    refine own_stB C (pc' := 25) F86 (i := (on + 1)) (own_add ho (rfl : (1 : Int32).toInt = ((1 : Nat) : Int)) (by omega)) (by omega) f0 own_d2_24 rfl (fun h91 W92 V93 => ?_)
    have Z94 : n0 ≤ h91.size := Nat.le_trans Z84 (Nat.le_of_eq (Wr.size W92).symm)
    have K95 := Keep.wr K85 W92 (Or.inl (List.mem_of_getElem? (i := 0) rfl))
    have F96 : own_AB Z h91 ar N (own_upd (own_upd f (on + 0) ((own_gr x (0 : Int32) 0 4).toInt8.toInt32)) (on + 1) ((own_gr x (7 : Int32) 1 4).toInt8.toInt32)) := V93
    refine own_iloadN C (pc' := 26) own_d2_25 rfl rfl ?_
    refine own_iconst C (pc' := 27) (v := (2 : Int32)) own_d2_26 rfl (by decide) ?_
    refine own_ii_le C (pc1 := 41) (pc2 := 30) own_d2_27 rfl rfl (fun c97 => absurd c97 (by decide)) (fun c97 => ?_)
    refine own_aloadN C (pc' := 31) own_d2_30 rfl rfl rfl ?_
    refine own_iloadN C (pc' := 32) own_d2_31 rfl rfl ?_
    refine own_iconst C (pc' := 33) (v := (2 : Int32)) own_d2_32 rfl (by decide) ?_
    refine own_iadd C (pc' := 34) own_d2_33 rfl ?_
    refine own_iloadN C (pc' := 35) own_d2_34 rfl rfl ?_
    refine own_iconst C (pc' := 36) (v := (2 : Int32)) own_d2_35 rfl (by decide) ?_
    refine own_iloadN C (pc' := 37) own_d2_36 rfl rfl ?_
    refine own_callS C (pc' := 40) (y := (⟨"com/example/words_to_weights/wordstoweights/index/VarIntReaderReadPinLaw", "group", "(III)B"⟩ : MethodName)) (argsL := [(.int x), (.int (2 : Int32)), (.int (4 : Int32))]) (rest := [(.int (off + (2 : Int32))), (.ref ar)]) 2 (hw _ (List.mem_of_getElem? (i := 8) rfl)) (hw _ (List.mem_of_getElem? (i := 9) rfl)) (hw _ (List.mem_of_getElem? (i := 2) rfl)) (hw _ (List.mem_of_getElem? (i := 10) rfl)) (by decide) (own_m3 hw x (2 : Int32) (4 : Int32) (14 : Int32) 2 4   (by decide) (by decide) (by decide) (by decide)) (by decide) (by decide) (lenOf own_pd0 rfl) rfl (Nat.le_of_eq rfl) own_d2_37 rfl rfl (by decide) (by decide) (fun v98 h99 hq100 => ?_)
    obtain ⟨rfl, rfl⟩ := hq100
    show own_Run p_ l e_ _ s_ m_ _ b_ mt_ c_ n0 _ h91 _ _ (mkF m_ 40 #[.val (.ref ar), .val (.int off), .val (.int x), .val (.int (4 : Int32))] [(.int (own_gr x (14 : Int32) 2 4)), (.int (off + (2 : Int32))), (.ref ar)])
    refine own_stB C (pc' := 41) F96 (i := (on + 2)) (own_add ho (rfl : (2 : Int32).toInt = ((2 : Nat) : Int)) (by omega)) (by omega) f0 own_d2_40 rfl (fun h101 W102 V103 => ?_)
    have Z104 : n0 ≤ h101.size := Nat.le_trans Z94 (Nat.le_of_eq (Wr.size W102).symm)
    have K105 := Keep.wr K95 W102 (Or.inl (List.mem_of_getElem? (i := 0) rfl))
    have F106 : own_AB Z h101 ar N (own_upd (own_upd (own_upd f (on + 0) ((own_gr x (0 : Int32) 0 4).toInt8.toInt32)) (on + 1) ((own_gr x (7 : Int32) 1 4).toInt8.toInt32)) (on + 2) ((own_gr x (14 : Int32) 2 4).toInt8.toInt32)) := V103
    refine own_iloadN C (pc' := 42) own_d2_41 rfl rfl ?_
    refine own_iconst C (pc' := 43) (v := (3 : Int32)) own_d2_42 rfl (by decide) ?_
    refine own_ii_le C (pc1 := 57) (pc2 := 46) own_d2_43 rfl rfl (fun c107 => absurd c107 (by decide)) (fun c107 => ?_)
    refine own_aloadN C (pc' := 47) own_d2_46 rfl rfl rfl ?_
    refine own_iloadN C (pc' := 48) own_d2_47 rfl rfl ?_
    refine own_iconst C (pc' := 49) (v := (3 : Int32)) own_d2_48 rfl (by decide) ?_
    refine own_iadd C (pc' := 50) own_d2_49 rfl ?_
    refine own_iloadN C (pc' := 51) own_d2_50 rfl rfl ?_
    refine own_iconst C (pc' := 52) (v := (3 : Int32)) own_d2_51 rfl (by decide) ?_
    refine own_iloadN C (pc' := 53) own_d2_52 rfl rfl ?_
    refine own_callS C (pc' := 56) (y := (⟨"com/example/words_to_weights/wordstoweights/index/VarIntReaderReadPinLaw", "group", "(III)B"⟩ : MethodName)) (argsL := [(.int x), (.int (3 : Int32)), (.int (4 : Int32))]) (rest := [(.int (off + (3 : Int32))), (.ref ar)]) 2 (hw _ (List.mem_of_getElem? (i := 8) rfl)) (hw _ (List.mem_of_getElem? (i := 9) rfl)) (hw _ (List.mem_of_getElem? (i := 2) rfl)) (hw _ (List.mem_of_getElem? (i := 10) rfl)) (by decide) (own_m3 hw x (3 : Int32) (4 : Int32) (21 : Int32) 3 4   (by decide) (by decide) (by decide) (by decide)) (by decide) (by decide) (lenOf own_pd0 rfl) rfl (Nat.le_of_eq rfl) own_d2_53 rfl rfl (by decide) (by decide) (fun v108 h109 hq110 => ?_)
    obtain ⟨rfl, rfl⟩ := hq110
    show own_Run p_ l e_ _ s_ m_ _ b_ mt_ c_ n0 _ h101 _ _ (mkF m_ 56 #[.val (.ref ar), .val (.int off), .val (.int x), .val (.int (4 : Int32))] [(.int (own_gr x (21 : Int32) 3 4)), (.int (off + (3 : Int32))), (.ref ar)])
    refine own_stB C (pc' := 57) F106 (i := (on + 3)) (own_add ho (rfl : (3 : Int32).toInt = ((3 : Nat) : Int)) (by omega)) (by omega) f0 own_d2_56 rfl (fun h111 W112 V113 => ?_)
    have Z114 : n0 ≤ h111.size := Nat.le_trans Z104 (Nat.le_of_eq (Wr.size W112).symm)
    have K115 := Keep.wr K105 W112 (Or.inl (List.mem_of_getElem? (i := 0) rfl))
    have F116 : own_AB Z h111 ar N (own_upd (own_upd (own_upd (own_upd f (on + 0) ((own_gr x (0 : Int32) 0 4).toInt8.toInt32)) (on + 1) ((own_gr x (7 : Int32) 1 4).toInt8.toInt32)) (on + 2) ((own_gr x (14 : Int32) 2 4).toInt8.toInt32)) (on + 3) ((own_gr x (21 : Int32) 3 4).toInt8.toInt32)) := V113
    refine own_iloadN C (pc' := 58) own_d2_57 rfl rfl ?_
    refine own_iconst C (pc' := 59) (v := (4 : Int32)) own_d2_58 rfl (by decide) ?_
    refine own_ii_le C (pc1 := 73) (pc2 := 62) own_d2_59 rfl rfl (fun c117 => ?_) (fun c117 => absurd c117 (by decide))
    have PA118 : ∀ i, i < 4 → (own_upd (own_upd (own_upd (own_upd f (on + 0) ((own_gr x (0 : Int32) 0 4).toInt8.toInt32)) (on + 1) ((own_gr x (7 : Int32) 1 4).toInt8.toInt32)) (on + 2) ((own_gr x (14 : Int32) 2 4).toInt8.toInt32)) (on + 3) ((own_gr x (21 : Int32) 3 4).toInt8.toInt32)) (on + i) = own_gr x (Int32.ofNat (7 * i)) i 4 := by
      intro i hi
      have t : i = 0 ∨ i = 1 ∨ i = 2 ∨ i = 3 := by omega
      rcases t with rfl | rfl | rfl | rfl
      · rw [own_upd_ne _ _ (by omega)]; rw [own_upd_ne _ _ (by omega)]; rw [own_upd_ne _ _ (by omega)]; rw [own_upd_eq]; exact own_gr_8 _ _ _ _
      · rw [own_upd_ne _ _ (by omega)]; rw [own_upd_ne _ _ (by omega)]; rw [own_upd_eq]; exact own_gr_8 _ _ _ _
      · rw [own_upd_ne _ _ (by omega)]; rw [own_upd_eq]; exact own_gr_8 _ _ _ _
      · rw [own_upd_eq]; exact own_gr_8 _ _ _ _
    have PB119 : ∀ j, (j < on ∨ on + 4 ≤ j) → (own_upd (own_upd (own_upd (own_upd f (on + 0) ((own_gr x (0 : Int32) 0 4).toInt8.toInt32)) (on + 1) ((own_gr x (7 : Int32) 1 4).toInt8.toInt32)) (on + 2) ((own_gr x (14 : Int32) 2 4).toInt8.toInt32)) (on + 3) ((own_gr x (21 : Int32) 3 4).toInt8.toInt32)) j = f j := by
      intro j hj
      rw [own_upd_ne _ _ (by omega), own_upd_ne _ _ (by omega), own_upd_ne _ _ (by omega), own_upd_ne _ _ (by omega)]
    exact own_retV C rfl own_d2_73 (by decide) (by decide) (⟨(own_upd (own_upd (own_upd (own_upd f (on + 0) ((own_gr x (0 : Int32) 0 4).toInt8.toInt32)) (on + 1) ((own_gr x (7 : Int32) 1 4).toInt8.toInt32)) (on + 2) ((own_gr x (14 : Int32) 2 4).toInt8.toInt32)) (on + 3) ((own_gr x (21 : Int32) 3 4).toInt8.toInt32)), rfl, K115, F116, PA118, PB119⟩)
  · skip
    obtain rfl : n = (5 : Int32) := Int32.toInt_inj.mp hn
    refine own_aloadN C (pc' := 1) own_d2_0 rfl rfl rfl ?_
    refine own_iloadN C (pc' := 2) own_d2_1 rfl rfl ?_
    refine own_iloadN C (pc' := 3) own_d2_2 rfl rfl ?_
    refine own_iconst C (pc' := 4) (v := (0 : Int32)) own_d2_3 rfl (by decide) ?_
    refine own_iloadN C (pc' := 5) own_d2_4 rfl rfl ?_
    refine own_callS C (pc' := 8) (y := (⟨"com/example/words_to_weights/wordstoweights/index/VarIntReaderReadPinLaw", "group", "(III)B"⟩ : MethodName)) (argsL := [(.int x), (.int (0 : Int32)), (.int (5 : Int32))]) (rest := [(.int off), (.ref ar)]) 2 (hw _ (List.mem_of_getElem? (i := 8) rfl)) (hw _ (List.mem_of_getElem? (i := 9) rfl)) (hw _ (List.mem_of_getElem? (i := 2) rfl)) (hw _ (List.mem_of_getElem? (i := 10) rfl)) (by decide) (own_m3 hw x (0 : Int32) (5 : Int32) (0 : Int32) 0 5   (by decide) (by decide) (by decide) (by decide)) (by decide) (by decide) (lenOf own_pd0 rfl) rfl (Nat.le_of_eq rfl) own_d2_5 rfl rfl (by decide) (by decide) (fun v120 h121 hq122 => ?_)
    obtain ⟨rfl, rfl⟩ := hq122
    show own_Run p_ l e_ _ s_ m_ _ b_ mt_ c_ n0 _ h _ _ (mkF m_ 8 #[.val (.ref ar), .val (.int off), .val (.int x), .val (.int (5 : Int32))] [(.int (own_gr x (0 : Int32) 0 5)), (.int off), (.ref ar)])
    refine own_stB C (pc' := 9) f1 (i := (on + 0)) ho (by omega) f0 own_d2_8 rfl (fun h123 W124 V125 => ?_)
    have Z126 : n0 ≤ h123.size := Nat.le_trans Z0 (Nat.le_of_eq (Wr.size W124).symm)
    have K127 := Keep.wr K0 W124 (Or.inl (List.mem_of_getElem? (i := 0) rfl))
    have F128 : own_AB Z h123 ar N (own_upd f (on + 0) ((own_gr x (0 : Int32) 0 5).toInt8.toInt32)) := V125
    refine own_iloadN C (pc' := 10) own_d2_9 rfl rfl ?_
    refine own_iconst C (pc' := 11) (v := (1 : Int32)) own_d2_10 rfl (by decide) ?_
    refine own_ii_le C (pc1 := 25) (pc2 := 14) own_d2_11 rfl rfl (fun c129 => absurd c129 (by decide)) (fun c129 => ?_)
    refine own_aloadN C (pc' := 15) own_d2_14 rfl rfl rfl ?_
    refine own_iloadN C (pc' := 16) own_d2_15 rfl rfl ?_
    refine own_iconst C (pc' := 17) (v := (1 : Int32)) own_d2_16 rfl (by decide) ?_
    refine own_iadd C (pc' := 18) own_d2_17 rfl ?_
    refine own_iloadN C (pc' := 19) own_d2_18 rfl rfl ?_
    refine own_iconst C (pc' := 20) (v := (1 : Int32)) own_d2_19 rfl (by decide) ?_
    refine own_iloadN C (pc' := 21) own_d2_20 rfl rfl ?_
    refine own_callS C (pc' := 24) (y := (⟨"com/example/words_to_weights/wordstoweights/index/VarIntReaderReadPinLaw", "group", "(III)B"⟩ : MethodName)) (argsL := [(.int x), (.int (1 : Int32)), (.int (5 : Int32))]) (rest := [(.int (off + (1 : Int32))), (.ref ar)]) 2 (hw _ (List.mem_of_getElem? (i := 8) rfl)) (hw _ (List.mem_of_getElem? (i := 9) rfl)) (hw _ (List.mem_of_getElem? (i := 2) rfl)) (hw _ (List.mem_of_getElem? (i := 10) rfl)) (by decide) (own_m3 hw x (1 : Int32) (5 : Int32) (7 : Int32) 1 5   (by decide) (by decide) (by decide) (by decide)) (by decide) (by decide) (lenOf own_pd0 rfl) rfl (Nat.le_of_eq rfl) own_d2_21 rfl rfl (by decide) (by decide) (fun v130 h131 hq132 => ?_)
    obtain ⟨rfl, rfl⟩ := hq132
    show own_Run p_ l e_ _ s_ m_ _ b_ mt_ c_ n0 _ h123 _ _ (mkF m_ 24 #[.val (.ref ar), .val (.int off), .val (.int x), .val (.int (5 : Int32))] [(.int (own_gr x (7 : Int32) 1 5)), (.int (off + (1 : Int32))), (.ref ar)])
    refine own_stB C (pc' := 25) F128 (i := (on + 1)) (own_add ho (rfl : (1 : Int32).toInt = ((1 : Nat) : Int)) (by omega)) (by omega) f0 own_d2_24 rfl (fun h133 W134 V135 => ?_)
    have Z136 : n0 ≤ h133.size := Nat.le_trans Z126 (Nat.le_of_eq (Wr.size W134).symm)
    have K137 := Keep.wr K127 W134 (Or.inl (List.mem_of_getElem? (i := 0) rfl))
    have F138 : own_AB Z h133 ar N (own_upd (own_upd f (on + 0) ((own_gr x (0 : Int32) 0 5).toInt8.toInt32)) (on + 1) ((own_gr x (7 : Int32) 1 5).toInt8.toInt32)) := V135
    refine own_iloadN C (pc' := 26) own_d2_25 rfl rfl ?_
    refine own_iconst C (pc' := 27) (v := (2 : Int32)) own_d2_26 rfl (by decide) ?_
    refine own_ii_le C (pc1 := 41) (pc2 := 30) own_d2_27 rfl rfl (fun c139 => absurd c139 (by decide)) (fun c139 => ?_)
    refine own_aloadN C (pc' := 31) own_d2_30 rfl rfl rfl ?_
    refine own_iloadN C (pc' := 32) own_d2_31 rfl rfl ?_
    refine own_iconst C (pc' := 33) (v := (2 : Int32)) own_d2_32 rfl (by decide) ?_
    refine own_iadd C (pc' := 34) own_d2_33 rfl ?_
    refine own_iloadN C (pc' := 35) own_d2_34 rfl rfl ?_
    refine own_iconst C (pc' := 36) (v := (2 : Int32)) own_d2_35 rfl (by decide) ?_
    refine own_iloadN C (pc' := 37) own_d2_36 rfl rfl ?_
    refine own_callS C (pc' := 40) (y := (⟨"com/example/words_to_weights/wordstoweights/index/VarIntReaderReadPinLaw", "group", "(III)B"⟩ : MethodName)) (argsL := [(.int x), (.int (2 : Int32)), (.int (5 : Int32))]) (rest := [(.int (off + (2 : Int32))), (.ref ar)]) 2 (hw _ (List.mem_of_getElem? (i := 8) rfl)) (hw _ (List.mem_of_getElem? (i := 9) rfl)) (hw _ (List.mem_of_getElem? (i := 2) rfl)) (hw _ (List.mem_of_getElem? (i := 10) rfl)) (by decide) (own_m3 hw x (2 : Int32) (5 : Int32) (14 : Int32) 2 5   (by decide) (by decide) (by decide) (by decide)) (by decide) (by decide) (lenOf own_pd0 rfl) rfl (Nat.le_of_eq rfl) own_d2_37 rfl rfl (by decide) (by decide) (fun v140 h141 hq142 => ?_)
    obtain ⟨rfl, rfl⟩ := hq142
    show own_Run p_ l e_ _ s_ m_ _ b_ mt_ c_ n0 _ h133 _ _ (mkF m_ 40 #[.val (.ref ar), .val (.int off), .val (.int x), .val (.int (5 : Int32))] [(.int (own_gr x (14 : Int32) 2 5)), (.int (off + (2 : Int32))), (.ref ar)])
    refine own_stB C (pc' := 41) F138 (i := (on + 2)) (own_add ho (rfl : (2 : Int32).toInt = ((2 : Nat) : Int)) (by omega)) (by omega) f0 own_d2_40 rfl (fun h143 W144 V145 => ?_)
    have Z146 : n0 ≤ h143.size := Nat.le_trans Z136 (Nat.le_of_eq (Wr.size W144).symm)
    have K147 := Keep.wr K137 W144 (Or.inl (List.mem_of_getElem? (i := 0) rfl))
    have F148 : own_AB Z h143 ar N (own_upd (own_upd (own_upd f (on + 0) ((own_gr x (0 : Int32) 0 5).toInt8.toInt32)) (on + 1) ((own_gr x (7 : Int32) 1 5).toInt8.toInt32)) (on + 2) ((own_gr x (14 : Int32) 2 5).toInt8.toInt32)) := V145
    refine own_iloadN C (pc' := 42) own_d2_41 rfl rfl ?_
    refine own_iconst C (pc' := 43) (v := (3 : Int32)) own_d2_42 rfl (by decide) ?_
    refine own_ii_le C (pc1 := 57) (pc2 := 46) own_d2_43 rfl rfl (fun c149 => absurd c149 (by decide)) (fun c149 => ?_)
    refine own_aloadN C (pc' := 47) own_d2_46 rfl rfl rfl ?_
    refine own_iloadN C (pc' := 48) own_d2_47 rfl rfl ?_
    refine own_iconst C (pc' := 49) (v := (3 : Int32)) own_d2_48 rfl (by decide) ?_
    refine own_iadd C (pc' := 50) own_d2_49 rfl ?_
    refine own_iloadN C (pc' := 51) own_d2_50 rfl rfl ?_
    refine own_iconst C (pc' := 52) (v := (3 : Int32)) own_d2_51 rfl (by decide) ?_
    refine own_iloadN C (pc' := 53) own_d2_52 rfl rfl ?_
    refine own_callS C (pc' := 56) (y := (⟨"com/example/words_to_weights/wordstoweights/index/VarIntReaderReadPinLaw", "group", "(III)B"⟩ : MethodName)) (argsL := [(.int x), (.int (3 : Int32)), (.int (5 : Int32))]) (rest := [(.int (off + (3 : Int32))), (.ref ar)]) 2 (hw _ (List.mem_of_getElem? (i := 8) rfl)) (hw _ (List.mem_of_getElem? (i := 9) rfl)) (hw _ (List.mem_of_getElem? (i := 2) rfl)) (hw _ (List.mem_of_getElem? (i := 10) rfl)) (by decide) (own_m3 hw x (3 : Int32) (5 : Int32) (21 : Int32) 3 5   (by decide) (by decide) (by decide) (by decide)) (by decide) (by decide) (lenOf own_pd0 rfl) rfl (Nat.le_of_eq rfl) own_d2_53 rfl rfl (by decide) (by decide) (fun v150 h151 hq152 => ?_)
    obtain ⟨rfl, rfl⟩ := hq152
    show own_Run p_ l e_ _ s_ m_ _ b_ mt_ c_ n0 _ h143 _ _ (mkF m_ 56 #[.val (.ref ar), .val (.int off), .val (.int x), .val (.int (5 : Int32))] [(.int (own_gr x (21 : Int32) 3 5)), (.int (off + (3 : Int32))), (.ref ar)])
    refine own_stB C (pc' := 57) F148 (i := (on + 3)) (own_add ho (rfl : (3 : Int32).toInt = ((3 : Nat) : Int)) (by omega)) (by omega) f0 own_d2_56 rfl (fun h153 W154 V155 => ?_)
    have Z156 : n0 ≤ h153.size := Nat.le_trans Z146 (Nat.le_of_eq (Wr.size W154).symm)
    have K157 := Keep.wr K147 W154 (Or.inl (List.mem_of_getElem? (i := 0) rfl))
    have F158 : own_AB Z h153 ar N (own_upd (own_upd (own_upd (own_upd f (on + 0) ((own_gr x (0 : Int32) 0 5).toInt8.toInt32)) (on + 1) ((own_gr x (7 : Int32) 1 5).toInt8.toInt32)) (on + 2) ((own_gr x (14 : Int32) 2 5).toInt8.toInt32)) (on + 3) ((own_gr x (21 : Int32) 3 5).toInt8.toInt32)) := V155
    refine own_iloadN C (pc' := 58) own_d2_57 rfl rfl ?_
    refine own_iconst C (pc' := 59) (v := (4 : Int32)) own_d2_58 rfl (by decide) ?_
    refine own_ii_le C (pc1 := 73) (pc2 := 62) own_d2_59 rfl rfl (fun c159 => absurd c159 (by decide)) (fun c159 => ?_)
    refine own_aloadN C (pc' := 63) own_d2_62 rfl rfl rfl ?_
    refine own_iloadN C (pc' := 64) own_d2_63 rfl rfl ?_
    refine own_iconst C (pc' := 65) (v := (4 : Int32)) own_d2_64 rfl (by decide) ?_
    refine own_iadd C (pc' := 66) own_d2_65 rfl ?_
    refine own_iloadN C (pc' := 67) own_d2_66 rfl rfl ?_
    refine own_iconst C (pc' := 68) (v := (4 : Int32)) own_d2_67 rfl (by decide) ?_
    refine own_iloadN C (pc' := 69) own_d2_68 rfl rfl ?_
    refine own_callS C (pc' := 72) (y := (⟨"com/example/words_to_weights/wordstoweights/index/VarIntReaderReadPinLaw", "group", "(III)B"⟩ : MethodName)) (argsL := [(.int x), (.int (4 : Int32)), (.int (5 : Int32))]) (rest := [(.int (off + (4 : Int32))), (.ref ar)]) 2 (hw _ (List.mem_of_getElem? (i := 8) rfl)) (hw _ (List.mem_of_getElem? (i := 9) rfl)) (hw _ (List.mem_of_getElem? (i := 2) rfl)) (hw _ (List.mem_of_getElem? (i := 10) rfl)) (by decide) (own_m3 hw x (4 : Int32) (5 : Int32) (28 : Int32) 4 5   (by decide) (by decide) (by decide) (by decide)) (by decide) (by decide) (lenOf own_pd0 rfl) rfl (Nat.le_of_eq rfl) own_d2_69 rfl rfl (by decide) (by decide) (fun v160 h161 hq162 => ?_)
    obtain ⟨rfl, rfl⟩ := hq162
    show own_Run p_ l e_ _ s_ m_ _ b_ mt_ c_ n0 _ h153 _ _ (mkF m_ 72 #[.val (.ref ar), .val (.int off), .val (.int x), .val (.int (5 : Int32))] [(.int (own_gr x (28 : Int32) 4 5)), (.int (off + (4 : Int32))), (.ref ar)])
    refine own_stB C (pc' := 73) F158 (i := (on + 4)) (own_add ho (rfl : (4 : Int32).toInt = ((4 : Nat) : Int)) (by omega)) (by omega) f0 own_d2_72 rfl (fun h163 W164 V165 => ?_)
    have Z166 : n0 ≤ h163.size := Nat.le_trans Z156 (Nat.le_of_eq (Wr.size W164).symm)
    have K167 := Keep.wr K157 W164 (Or.inl (List.mem_of_getElem? (i := 0) rfl))
    have F168 : own_AB Z h163 ar N (own_upd (own_upd (own_upd (own_upd (own_upd f (on + 0) ((own_gr x (0 : Int32) 0 5).toInt8.toInt32)) (on + 1) ((own_gr x (7 : Int32) 1 5).toInt8.toInt32)) (on + 2) ((own_gr x (14 : Int32) 2 5).toInt8.toInt32)) (on + 3) ((own_gr x (21 : Int32) 3 5).toInt8.toInt32)) (on + 4) ((own_gr x (28 : Int32) 4 5).toInt8.toInt32)) := V165
    have PA169 : ∀ i, i < 5 → (own_upd (own_upd (own_upd (own_upd (own_upd f (on + 0) ((own_gr x (0 : Int32) 0 5).toInt8.toInt32)) (on + 1) ((own_gr x (7 : Int32) 1 5).toInt8.toInt32)) (on + 2) ((own_gr x (14 : Int32) 2 5).toInt8.toInt32)) (on + 3) ((own_gr x (21 : Int32) 3 5).toInt8.toInt32)) (on + 4) ((own_gr x (28 : Int32) 4 5).toInt8.toInt32)) (on + i) = own_gr x (Int32.ofNat (7 * i)) i 5 := by
      intro i hi
      have t : i = 0 ∨ i = 1 ∨ i = 2 ∨ i = 3 ∨ i = 4 := by omega
      rcases t with rfl | rfl | rfl | rfl | rfl
      · rw [own_upd_ne _ _ (by omega)]; rw [own_upd_ne _ _ (by omega)]; rw [own_upd_ne _ _ (by omega)]; rw [own_upd_ne _ _ (by omega)]; rw [own_upd_eq]; exact own_gr_8 _ _ _ _
      · rw [own_upd_ne _ _ (by omega)]; rw [own_upd_ne _ _ (by omega)]; rw [own_upd_ne _ _ (by omega)]; rw [own_upd_eq]; exact own_gr_8 _ _ _ _
      · rw [own_upd_ne _ _ (by omega)]; rw [own_upd_ne _ _ (by omega)]; rw [own_upd_eq]; exact own_gr_8 _ _ _ _
      · rw [own_upd_ne _ _ (by omega)]; rw [own_upd_eq]; exact own_gr_8 _ _ _ _
      · rw [own_upd_eq]; exact own_gr_8 _ _ _ _
    have PB170 : ∀ j, (j < on ∨ on + 5 ≤ j) → (own_upd (own_upd (own_upd (own_upd (own_upd f (on + 0) ((own_gr x (0 : Int32) 0 5).toInt8.toInt32)) (on + 1) ((own_gr x (7 : Int32) 1 5).toInt8.toInt32)) (on + 2) ((own_gr x (14 : Int32) 2 5).toInt8.toInt32)) (on + 3) ((own_gr x (21 : Int32) 3 5).toInt8.toInt32)) (on + 4) ((own_gr x (28 : Int32) 4 5).toInt8.toInt32)) j = f j := by
      intro j hj
      rw [own_upd_ne _ _ (by omega), own_upd_ne _ _ (by omega), own_upd_ne _ _ (by omega), own_upd_ne _ _ (by omega), own_upd_ne _ _ (by omega)]
    exact own_retV C rfl own_d2_73 (by decide) (by decide) (⟨(own_upd (own_upd (own_upd (own_upd (own_upd f (on + 0) ((own_gr x (0 : Int32) 0 5).toInt8.toInt32)) (on + 1) ((own_gr x (7 : Int32) 1 5).toInt8.toInt32)) (on + 2) ((own_gr x (14 : Int32) 2 5).toInt8.toInt32)) (on + 3) ((own_gr x (21 : Int32) 3 5).toInt8.toInt32)) (on + 4) ((own_gr x (28 : Int32) 4 5).toInt8.toInt32)), rfl, K167, F168, PA169, PB170⟩)
set_option maxRecDepth 65536 in
set_option maxHeartbeats 40000000 in
theorem own_m4 {l : Launch} {Z : State} {a0 : Array Value} (hw : ∀ d ∈ tables_1, d.before a0 Z = true) {n0 : Nat} {ws : List Jvm.Cond} {h : Heap} (a : Addr) (ar : Addr) (Z0 : n0 ≤ h.size) (f0 : Exa Z h a "com/example/words_to_weights/wordstoweights/index/VarIntReader") (f1 : n0 ≤ a) (f2 : Fld Z h a "com/example/words_to_weights/wordstoweights/index/VarIntReader" "bytes" "[B" .null) (f3 : Fld Z h a "com/example/words_to_weights/wordstoweights/index/VarIntReader" "position" "I" (.int (0 : Int32))) :
    own_Met l Z n0 (⟨"com/example/words_to_weights/wordstoweights/index/VarIntReader", "<init>", "([B)V"⟩ : MethodName) prog_17_method_1_code 2 none ({ frames := 1, cells := 0, slots := 0, locals := 12 } : Room) ws #[(.ref a), (.ref ar)] h (fun v h' => (v = none) ∧ (Keep h h' [a]) ∧ (Exa Z h' a "com/example/words_to_weights/wordstoweights/index/VarIntReader") ∧ (Fld Z h' a "com/example/words_to_weights/wordstoweights/index/VarIntReader" "bytes" "[B" (.ref ar)) ∧ (Fld Z h' a "com/example/words_to_weights/wordstoweights/index/VarIntReader" "position" "I" (.int (0 : Int32)))) := by
  refine own_met own_pn1 #[.val (.ref a), .val (.ref ar)] (fun m => by first | (simp [entryFrame, mkF, argsToLocals, Value.category]; done) | rfl) ?_
  intro p_ e_ s_ m_ b_ mt_ c_ C
  replace C : own_Ctx p_ s_ m_ mt_ c_ Z "com/example/words_to_weights/wordstoweights/index/VarIntReader" "<init>" prog_17_method_1_code 2 none := C
  have K0 : Keep h h [a] := Keep.refl _ _
  refine own_aloadN C (pc' := 1) own_d4_0 rfl rfl rfl ?_
  refine own_initO C (pc' := 4) (W := 0) (hw _ (List.mem_of_getElem? (i := 17) rfl)) (hw _ (List.mem_of_getElem? (i := 18) rfl)) (hw _ (List.mem_of_getElem? (i := 19) rfl)) own_d4_1 rfl rfl (by decide) (Nat.le_of_eq rfl) (by decide) ?_
  refine own_aloadN C (pc' := 5) own_d4_4 rfl rfl rfl ?_
  refine own_aloadN C (pc' := 6) own_d4_5 rfl rfl rfl ?_
  refine own_putF C (pc' := 9) (hw _ (List.mem_of_getElem? (i := 20) rfl)) f2 f0 (Or.inr ⟨(hw _ (List.mem_of_getElem? (i := 21) rfl)), rfl, rfl⟩) (hw _ (List.mem_of_getElem? (i := 12) rfl)) (ty := (.array .byte)) (by decide) rfl rfl f1 own_d4_6 rfl (fun h171 W172 => ?_)
  have Z173 : n0 ≤ h171.size := Nat.le_trans Z0 (Nat.le_of_eq (Wr.size W172).symm)
  have K174 := Keep.wr K0 W172 (Or.inl (List.mem_of_getElem? (i := 0) rfl))
  have F175 : Exa Z h171 a "com/example/words_to_weights/wordstoweights/index/VarIntReader" := Exa.wr W172 f0
  have F176 : Fld Z h171 a "com/example/words_to_weights/wordstoweights/index/VarIntReader" "bytes" "[B" (.ref ar) := Fld.same W172 f2
  have F177 : Fld Z h171 a "com/example/words_to_weights/wordstoweights/index/VarIntReader" "position" "I" (.int (0 : Int32)) := Fld.other W172 f3 (Or.inr (slot_ne (Or.inl (hw _ (List.mem_of_getElem? (i := 28) rfl))) (Or.inr (hw _ (List.mem_of_getElem? (i := 21) rfl))) (by decide) (t := .int) (t' := (.array .byte)) (by decide) (by decide)))
  exact own_retV C rfl own_d4_9 (by decide) (by decide) (⟨rfl, K174, F175, F176, F177⟩)
set_option maxRecDepth 65536 in
set_option maxHeartbeats 40000000 in
theorem own_m6 {l : Launch} {Z : State} {a0 : Array Value} (hw : ∀ d ∈ tables_1, d.before a0 Z = true) {n0 : Nat} {ws : List Jvm.Cond} {h : Heap} (a : Addr) (ar : Addr) (n : Nat) (f : Nat → Int32) (p : Int32) (b : Int32) (Z0 : n0 ≤ h.size) (f0 : Fld Z h a "com/example/words_to_weights/wordstoweights/index/VarIntReader" "position" "I" (.int p)) (f1 : Fld Z h a "com/example/words_to_weights/wordstoweights/index/VarIntReader" "bytes" "[B" (.ref ar)) (f2 : own_AB Z h ar n f) (hb : (if p = (Nat.toInt32 n) then (1 : Int32) else (0 : Int32)) = b) :
    own_Met l Z n0 (⟨"com/example/words_to_weights/wordstoweights/index/VarIntReader", "atEnd", "()Z"⟩ : MethodName) prog_17_method_2_code 1 (some .boolean) ({ frames := 0, cells := 0, slots := 0, locals := 0 } : Room) ws #[(.ref a)] h (fun v h' => (v = some (.int b)) ∧ (h = h')) := by
  refine own_met own_pn1 #[.val (.ref a)] (fun m => by first | (simp [entryFrame, mkF, argsToLocals, Value.category]; done) | rfl) ?_
  intro p_ e_ s_ m_ b_ mt_ c_ C
  replace C : own_Ctx p_ s_ m_ mt_ c_ Z "com/example/words_to_weights/wordstoweights/index/VarIntReader" "atEnd" prog_17_method_2_code 1 (some .boolean) := C
  refine own_aloadN C (pc' := 1) own_d6_0 rfl rfl rfl ?_
  refine own_getF C (pc' := 4) (hw _ (List.mem_of_getElem? (i := 27) rfl)) f0 own_d6_1 rfl ?_
  refine own_aloadN C (pc' := 5) own_d6_4 rfl rfl rfl ?_
  refine own_getF C (pc' := 8) (hw _ (List.mem_of_getElem? (i := 20) rfl)) f1 own_d6_5 rfl ?_
  refine own_lenB C (pc' := 9) f2 own_d6_8 rfl ?_
  refine own_ii_ne C (pc1 := 16) (pc2 := 12) own_d6_9 rfl rfl (fun c178 => ?_) (fun c178 => ?_)
  · skip
    refine own_iconst C (pc' := 17) (v := (0 : Int32)) own_d6_16 rfl (by decide) ?_
    exact own_ret C (t := .boolean) rfl rfl (Or.inl ⟨rfl, by simp, _, rfl⟩) own_d6_17 (by decide) (by decide) (⟨by rw [← hb, if_neg c178], rfl⟩)
  · skip
    refine own_iconst C (pc' := 13) (v := (1 : Int32)) own_d6_12 rfl (by decide) ?_
    refine own_goto C (pc' := 17) own_d6_13 rfl ?_
    exact own_ret C (t := .boolean) rfl rfl (Or.inl ⟨rfl, by simp, _, rfl⟩) own_d6_17 (by decide) (by decide) (⟨by rw [← hb, if_pos c178], rfl⟩)
set_option maxRecDepth 65536 in
set_option maxHeartbeats 40000000 in
theorem own_m7 {l : Launch} {Z : State} {a0 : Array Value} (hw : ∀ d ∈ tables_1, d.before a0 Z = true) {n0 : Nat} {ws : List Jvm.Cond} {h : Heap} (a : Addr) (ar : Addr) (n : Nat) (f : Nat → Int32) (p : Int32) (pn : Nat) (T : Nat) (Z0 : n0 ≤ h.size) (f0 : Exa Z h a "com/example/words_to_weights/wordstoweights/index/VarIntReader") (f1 : n0 ≤ a) (f2 : a ≠ ar) (f3 : Fld Z h a "com/example/words_to_weights/wordstoweights/index/VarIntReader" "bytes" "[B" (.ref ar)) (f4 : Fld Z h a "com/example/words_to_weights/wordstoweights/index/VarIntReader" "position" "I" (.int p)) (f5 : own_AB Z h ar n f) (hp : p.toInt = (pn : Int)) (hT1 : 1 ≤ T) (hT5 : T ≤ 5) (hpT : pn + T ≤ n) (hs : ∀ i, i + 1 < T → f (pn + i) < 0) (hl : ¬ f (pn + (T - 1)) < 0) :
    own_Met l Z n0 (⟨"com/example/words_to_weights/wordstoweights/index/VarIntReader", "read", "()I"⟩ : MethodName) prog_17_method_3_code 4 (some .int) ({ frames := 0, cells := 0, slots := 0, locals := 0 } : Room) ws #[(.ref a)] h (fun v h' => ∃ y : Int32, (v = some (.int (own_rdv f pn T))) ∧ (Keep h h' [a]) ∧ (Exa Z h' a "com/example/words_to_weights/wordstoweights/index/VarIntReader") ∧ (Fld Z h' a "com/example/words_to_weights/wordstoweights/index/VarIntReader" "bytes" "[B" (.ref ar)) ∧ (Fld Z h' a "com/example/words_to_weights/wordstoweights/index/VarIntReader" "position" "I" (.int y)) ∧ (y.toInt = ((pn + T : Nat) : Int))) := by
  refine own_met own_pn1 #[.val (.ref a), .unset, .unset, .unset] (fun m => by first | (simp [entryFrame, mkF, argsToLocals, Value.category]; done) | rfl) ?_
  intro p_ e_ s_ m_ b_ mt_ c_ C
  replace C : own_Ctx p_ s_ m_ mt_ c_ Z "com/example/words_to_weights/wordstoweights/index/VarIntReader" "read" prog_17_method_3_code 4 (some .int) := C
  have K0 : Keep h h [a] := Keep.refl _ _
  have hN := f5.1
  have t5 : T = 1 ∨ T = 2 ∨ T = 3 ∨ T = 4 ∨ T = 5 := by omega
  rcases t5 with rfl | rfl | rfl | rfl | rfl
  · skip
    have hP0 : p.toInt = ((pn + 0 : Nat) : Int) := hp
    have hP1 : (p + (1 : Int32)).toInt = ((pn + 1 : Nat) : Int) := own_add (X := pn + 0) (Y := 1) hP0 rfl (by omega)
    have s0 : ¬ f (pn + 0) < 0 := hl
    refine own_iconst C (pc' := 1) (v := (0 : Int32)) own_d7_0 rfl (by decide) ?_
    refine own_istoreN C (pc' := 2) (Ls' := #[.val (.ref a), .val (.int (0 : Int32)), .unset, .unset]) own_d7_1 rfl rfl ?_
    refine own_iconst C (pc' := 3) (v := (0 : Int32)) own_d7_2 rfl (by decide) ?_
    refine own_istoreN C (pc' := 4) (Ls' := #[.val (.ref a), .val (.int (0 : Int32)), .val (.int (0 : Int32)), .unset]) own_d7_3 rfl rfl ?_
    refine own_aloadN C (pc' := 5) own_d7_4 rfl rfl rfl ?_
    refine own_getF C (pc' := 8) (hw _ (List.mem_of_getElem? (i := 20) rfl)) f3 own_d7_5 rfl ?_
    refine own_aloadN C (pc' := 9) own_d7_8 rfl rfl rfl ?_
    refine own_dup C (pc' := 10) own_d7_9 rfl rfl ?_
    refine own_getF C (pc' := 13) (hw _ (List.mem_of_getElem? (i := 27) rfl)) f4 own_d7_10 rfl ?_
    refine own_dupX1 C (pc' := 14) own_d7_13 rfl rfl rfl ?_
    refine own_iconst C (pc' := 15) (v := (1 : Int32)) own_d7_14 rfl (by decide) ?_
    refine own_iadd C (pc' := 16) own_d7_15 rfl ?_
    refine own_putF C (pc' := 19) (hw _ (List.mem_of_getElem? (i := 27) rfl)) f4 f0 (Or.inl (hw _ (List.mem_of_getElem? (i := 28) rfl))) (hw _ (List.mem_of_getElem? (i := 12) rfl)) (ty := .int) (by decide) rfl rfl f1 own_d7_16 rfl (fun h179 W180 => ?_)
    have Z181 : n0 ≤ h179.size := Nat.le_trans Z0 (Nat.le_of_eq (Wr.size W180).symm)
    have K182 := Keep.wr K0 W180 (Or.inl (List.mem_of_getElem? (i := 0) rfl))
    have F183 : Exa Z h179 a "com/example/words_to_weights/wordstoweights/index/VarIntReader" := Exa.wr W180 f0
    have F184 : Fld Z h179 a "com/example/words_to_weights/wordstoweights/index/VarIntReader" "bytes" "[B" (.ref ar) := Fld.other W180 f3 (Or.inr (slot_ne (Or.inr (hw _ (List.mem_of_getElem? (i := 21) rfl))) (Or.inl (hw _ (List.mem_of_getElem? (i := 28) rfl))) (by decide) (t := (.array .byte)) (t' := .int) (by decide) (by decide)))
    have F185 : Fld Z h179 a "com/example/words_to_weights/wordstoweights/index/VarIntReader" "position" "I" (.int (p + (1 : Int32))) := Fld.same W180 f4
    have F186 : own_AB Z h179 ar n f := own_A.other f5 W180 (Ne.symm f2)
    refine own_ldB C (pc' := 20) F186 (i := (pn + 0)) hP0 (by omega) own_d7_19 rfl ?_
    refine own_istoreN C (pc' := 21) (Ls' := #[.val (.ref a), .val (.int (0 : Int32)), .val (.int (0 : Int32)), .val (.int (f (pn + 0)))]) own_d7_20 rfl rfl ?_
    refine own_iloadN C (pc' := 22) own_d7_21 rfl rfl ?_
    refine own_iloadN C (pc' := 23) own_d7_22 rfl rfl ?_
    refine own_bipush C (pc' := 25) (v := (127 : Int32)) own_d7_23 rfl (by decide) ?_
    refine own_iand C (pc' := 26) own_d7_25 rfl ?_
    refine own_iloadN C (pc' := 27) own_d7_26 rfl rfl ?_
    refine own_ishl C (pc' := 28) own_d7_27 rfl ?_
    refine own_ior C (pc' := 29) own_d7_28 rfl ?_
    refine own_istoreN C (pc' := 30) (Ls' := #[.val (.ref a), .val (.int ((0 : Int32) ||| (((f (pn + 0)) &&& (127 : Int32)) <<< ((0 : Int32) &&& 31)))), .val (.int (0 : Int32)), .val (.int (f (pn + 0)))]) own_d7_29 rfl rfl ?_
    refine own_iincV C (pc' := 33) (w := (7 : Int32)) (x := (7 : Int32)) (Ls' := #[.val (.ref a), .val (.int ((0 : Int32) ||| (((f (pn + 0)) &&& (127 : Int32)) <<< ((0 : Int32) &&& 31)))), .val (.int (7 : Int32)), .val (.int (f (pn + 0)))]) own_d7_30 rfl (by decide) (by decide) rfl rfl ?_
    refine own_iloadN C (pc' := 34) own_d7_33 rfl rfl ?_
    refine own_i0_lt C (pc1 := 4) (pc2 := 37) own_d7_34 rfl rfl (fun c187 => absurd c187 s0) (fun c187 => ?_)
    refine own_iloadN C (pc' := 38) own_d7_37 rfl rfl ?_
    exact own_ret C (t := .int) rfl rfl (Or.inl ⟨rfl, by simp, _, rfl⟩) own_d7_38 (by decide) (by decide) (⟨(p + (1 : Int32)), rfl, K182, F183, F184, F185, hP1⟩)
  · skip
    have hP0 : p.toInt = ((pn + 0 : Nat) : Int) := hp
    have hP1 : (p + (1 : Int32)).toInt = ((pn + 1 : Nat) : Int) := own_add (X := pn + 0) (Y := 1) hP0 rfl (by omega)
    have hP2 : ((p + (1 : Int32)) + (1 : Int32)).toInt = ((pn + 2 : Nat) : Int) := own_add (X := pn + 1) (Y := 1) hP1 rfl (by omega)
    have s0 : f (pn + 0) < 0 := hs 0 (by decide)
    have s1 : ¬ f (pn + 1) < 0 := hl
    refine own_iconst C (pc' := 1) (v := (0 : Int32)) own_d7_0 rfl (by decide) ?_
    refine own_istoreN C (pc' := 2) (Ls' := #[.val (.ref a), .val (.int (0 : Int32)), .unset, .unset]) own_d7_1 rfl rfl ?_
    refine own_iconst C (pc' := 3) (v := (0 : Int32)) own_d7_2 rfl (by decide) ?_
    refine own_istoreN C (pc' := 4) (Ls' := #[.val (.ref a), .val (.int (0 : Int32)), .val (.int (0 : Int32)), .unset]) own_d7_3 rfl rfl ?_
    refine own_aloadN C (pc' := 5) own_d7_4 rfl rfl rfl ?_
    refine own_getF C (pc' := 8) (hw _ (List.mem_of_getElem? (i := 20) rfl)) f3 own_d7_5 rfl ?_
    refine own_aloadN C (pc' := 9) own_d7_8 rfl rfl rfl ?_
    refine own_dup C (pc' := 10) own_d7_9 rfl rfl ?_
    refine own_getF C (pc' := 13) (hw _ (List.mem_of_getElem? (i := 27) rfl)) f4 own_d7_10 rfl ?_
    refine own_dupX1 C (pc' := 14) own_d7_13 rfl rfl rfl ?_
    refine own_iconst C (pc' := 15) (v := (1 : Int32)) own_d7_14 rfl (by decide) ?_
    refine own_iadd C (pc' := 16) own_d7_15 rfl ?_
    refine own_putF C (pc' := 19) (hw _ (List.mem_of_getElem? (i := 27) rfl)) f4 f0 (Or.inl (hw _ (List.mem_of_getElem? (i := 28) rfl))) (hw _ (List.mem_of_getElem? (i := 12) rfl)) (ty := .int) (by decide) rfl rfl f1 own_d7_16 rfl (fun h188 W189 => ?_)
    have Z190 : n0 ≤ h188.size := Nat.le_trans Z0 (Nat.le_of_eq (Wr.size W189).symm)
    have K191 := Keep.wr K0 W189 (Or.inl (List.mem_of_getElem? (i := 0) rfl))
    have F192 : Exa Z h188 a "com/example/words_to_weights/wordstoweights/index/VarIntReader" := Exa.wr W189 f0
    have F193 : Fld Z h188 a "com/example/words_to_weights/wordstoweights/index/VarIntReader" "bytes" "[B" (.ref ar) := Fld.other W189 f3 (Or.inr (slot_ne (Or.inr (hw _ (List.mem_of_getElem? (i := 21) rfl))) (Or.inl (hw _ (List.mem_of_getElem? (i := 28) rfl))) (by decide) (t := (.array .byte)) (t' := .int) (by decide) (by decide)))
    have F194 : Fld Z h188 a "com/example/words_to_weights/wordstoweights/index/VarIntReader" "position" "I" (.int (p + (1 : Int32))) := Fld.same W189 f4
    have F195 : own_AB Z h188 ar n f := own_A.other f5 W189 (Ne.symm f2)
    refine own_ldB C (pc' := 20) F195 (i := (pn + 0)) hP0 (by omega) own_d7_19 rfl ?_
    refine own_istoreN C (pc' := 21) (Ls' := #[.val (.ref a), .val (.int (0 : Int32)), .val (.int (0 : Int32)), .val (.int (f (pn + 0)))]) own_d7_20 rfl rfl ?_
    refine own_iloadN C (pc' := 22) own_d7_21 rfl rfl ?_
    refine own_iloadN C (pc' := 23) own_d7_22 rfl rfl ?_
    refine own_bipush C (pc' := 25) (v := (127 : Int32)) own_d7_23 rfl (by decide) ?_
    refine own_iand C (pc' := 26) own_d7_25 rfl ?_
    refine own_iloadN C (pc' := 27) own_d7_26 rfl rfl ?_
    refine own_ishl C (pc' := 28) own_d7_27 rfl ?_
    refine own_ior C (pc' := 29) own_d7_28 rfl ?_
    refine own_istoreN C (pc' := 30) (Ls' := #[.val (.ref a), .val (.int ((0 : Int32) ||| (((f (pn + 0)) &&& (127 : Int32)) <<< ((0 : Int32) &&& 31)))), .val (.int (0 : Int32)), .val (.int (f (pn + 0)))]) own_d7_29 rfl rfl ?_
    refine own_iincV C (pc' := 33) (w := (7 : Int32)) (x := (7 : Int32)) (Ls' := #[.val (.ref a), .val (.int ((0 : Int32) ||| (((f (pn + 0)) &&& (127 : Int32)) <<< ((0 : Int32) &&& 31)))), .val (.int (7 : Int32)), .val (.int (f (pn + 0)))]) own_d7_30 rfl (by decide) (by decide) rfl rfl ?_
    refine own_iloadN C (pc' := 34) own_d7_33 rfl rfl ?_
    refine own_i0_lt C (pc1 := 4) (pc2 := 37) own_d7_34 rfl rfl (fun c196 => ?_) (fun c196 => absurd c196 (not_not_intro s0))
    refine own_aloadN C (pc' := 5) own_d7_4 rfl rfl rfl ?_
    refine own_getF C (pc' := 8) (hw _ (List.mem_of_getElem? (i := 20) rfl)) F193 own_d7_5 rfl ?_
    refine own_aloadN C (pc' := 9) own_d7_8 rfl rfl rfl ?_
    refine own_dup C (pc' := 10) own_d7_9 rfl rfl ?_
    refine own_getF C (pc' := 13) (hw _ (List.mem_of_getElem? (i := 27) rfl)) F194 own_d7_10 rfl ?_
    refine own_dupX1 C (pc' := 14) own_d7_13 rfl rfl rfl ?_
    refine own_iconst C (pc' := 15) (v := (1 : Int32)) own_d7_14 rfl (by decide) ?_
    refine own_iadd C (pc' := 16) own_d7_15 rfl ?_
    refine own_putF C (pc' := 19) (hw _ (List.mem_of_getElem? (i := 27) rfl)) F194 F192 (Or.inl (hw _ (List.mem_of_getElem? (i := 28) rfl))) (hw _ (List.mem_of_getElem? (i := 12) rfl)) (ty := .int) (by decide) rfl rfl f1 own_d7_16 rfl (fun h197 W198 => ?_)
    have Z199 : n0 ≤ h197.size := Nat.le_trans Z190 (Nat.le_of_eq (Wr.size W198).symm)
    have K200 := Keep.wr K191 W198 (Or.inl (List.mem_of_getElem? (i := 0) rfl))
    have F201 : Exa Z h197 a "com/example/words_to_weights/wordstoweights/index/VarIntReader" := Exa.wr W198 F192
    have F202 : Fld Z h197 a "com/example/words_to_weights/wordstoweights/index/VarIntReader" "bytes" "[B" (.ref ar) := Fld.other W198 F193 (Or.inr (slot_ne (Or.inr (hw _ (List.mem_of_getElem? (i := 21) rfl))) (Or.inl (hw _ (List.mem_of_getElem? (i := 28) rfl))) (by decide) (t := (.array .byte)) (t' := .int) (by decide) (by decide)))
    have F203 : Fld Z h197 a "com/example/words_to_weights/wordstoweights/index/VarIntReader" "position" "I" (.int ((p + (1 : Int32)) + (1 : Int32))) := Fld.same W198 F194
    have F204 : own_AB Z h197 ar n f := own_A.other F195 W198 (Ne.symm f2)
    refine own_ldB C (pc' := 20) F204 (i := (pn + 1)) hP1 (by omega) own_d7_19 rfl ?_
    refine own_istoreN C (pc' := 21) (Ls' := #[.val (.ref a), .val (.int ((0 : Int32) ||| (((f (pn + 0)) &&& (127 : Int32)) <<< ((0 : Int32) &&& 31)))), .val (.int (7 : Int32)), .val (.int (f (pn + 1)))]) own_d7_20 rfl rfl ?_
    refine own_iloadN C (pc' := 22) own_d7_21 rfl rfl ?_
    refine own_iloadN C (pc' := 23) own_d7_22 rfl rfl ?_
    refine own_bipush C (pc' := 25) (v := (127 : Int32)) own_d7_23 rfl (by decide) ?_
    refine own_iand C (pc' := 26) own_d7_25 rfl ?_
    refine own_iloadN C (pc' := 27) own_d7_26 rfl rfl ?_
    refine own_ishl C (pc' := 28) own_d7_27 rfl ?_
    refine own_ior C (pc' := 29) own_d7_28 rfl ?_
    refine own_istoreN C (pc' := 30) (Ls' := #[.val (.ref a), .val (.int (((0 : Int32) ||| (((f (pn + 0)) &&& (127 : Int32)) <<< ((0 : Int32) &&& 31))) ||| (((f (pn + 1)) &&& (127 : Int32)) <<< ((7 : Int32) &&& 31)))), .val (.int (7 : Int32)), .val (.int (f (pn + 1)))]) own_d7_29 rfl rfl ?_
    refine own_iincV C (pc' := 33) (w := (7 : Int32)) (x := (14 : Int32)) (Ls' := #[.val (.ref a), .val (.int (((0 : Int32) ||| (((f (pn + 0)) &&& (127 : Int32)) <<< ((0 : Int32) &&& 31))) ||| (((f (pn + 1)) &&& (127 : Int32)) <<< ((7 : Int32) &&& 31)))), .val (.int (14 : Int32)), .val (.int (f (pn + 1)))]) own_d7_30 rfl (by decide) (by decide) rfl rfl ?_
    refine own_iloadN C (pc' := 34) own_d7_33 rfl rfl ?_
    refine own_i0_lt C (pc1 := 4) (pc2 := 37) own_d7_34 rfl rfl (fun c205 => absurd c205 s1) (fun c205 => ?_)
    refine own_iloadN C (pc' := 38) own_d7_37 rfl rfl ?_
    exact own_ret C (t := .int) rfl rfl (Or.inl ⟨rfl, by simp, _, rfl⟩) own_d7_38 (by decide) (by decide) (⟨((p + (1 : Int32)) + (1 : Int32)), rfl, K200, F201, F202, F203, hP2⟩)
  · skip
    have hP0 : p.toInt = ((pn + 0 : Nat) : Int) := hp
    have hP1 : (p + (1 : Int32)).toInt = ((pn + 1 : Nat) : Int) := own_add (X := pn + 0) (Y := 1) hP0 rfl (by omega)
    have hP2 : ((p + (1 : Int32)) + (1 : Int32)).toInt = ((pn + 2 : Nat) : Int) := own_add (X := pn + 1) (Y := 1) hP1 rfl (by omega)
    have hP3 : (((p + (1 : Int32)) + (1 : Int32)) + (1 : Int32)).toInt = ((pn + 3 : Nat) : Int) := own_add (X := pn + 2) (Y := 1) hP2 rfl (by omega)
    have s0 : f (pn + 0) < 0 := hs 0 (by decide)
    have s1 : f (pn + 1) < 0 := hs 1 (by decide)
    have s2 : ¬ f (pn + 2) < 0 := hl
    refine own_iconst C (pc' := 1) (v := (0 : Int32)) own_d7_0 rfl (by decide) ?_
    refine own_istoreN C (pc' := 2) (Ls' := #[.val (.ref a), .val (.int (0 : Int32)), .unset, .unset]) own_d7_1 rfl rfl ?_
    refine own_iconst C (pc' := 3) (v := (0 : Int32)) own_d7_2 rfl (by decide) ?_
    refine own_istoreN C (pc' := 4) (Ls' := #[.val (.ref a), .val (.int (0 : Int32)), .val (.int (0 : Int32)), .unset]) own_d7_3 rfl rfl ?_
    refine own_aloadN C (pc' := 5) own_d7_4 rfl rfl rfl ?_
    refine own_getF C (pc' := 8) (hw _ (List.mem_of_getElem? (i := 20) rfl)) f3 own_d7_5 rfl ?_
    refine own_aloadN C (pc' := 9) own_d7_8 rfl rfl rfl ?_
    refine own_dup C (pc' := 10) own_d7_9 rfl rfl ?_
    refine own_getF C (pc' := 13) (hw _ (List.mem_of_getElem? (i := 27) rfl)) f4 own_d7_10 rfl ?_
    refine own_dupX1 C (pc' := 14) own_d7_13 rfl rfl rfl ?_
    refine own_iconst C (pc' := 15) (v := (1 : Int32)) own_d7_14 rfl (by decide) ?_
    refine own_iadd C (pc' := 16) own_d7_15 rfl ?_
    refine own_putF C (pc' := 19) (hw _ (List.mem_of_getElem? (i := 27) rfl)) f4 f0 (Or.inl (hw _ (List.mem_of_getElem? (i := 28) rfl))) (hw _ (List.mem_of_getElem? (i := 12) rfl)) (ty := .int) (by decide) rfl rfl f1 own_d7_16 rfl (fun h206 W207 => ?_)
    have Z208 : n0 ≤ h206.size := Nat.le_trans Z0 (Nat.le_of_eq (Wr.size W207).symm)
    have K209 := Keep.wr K0 W207 (Or.inl (List.mem_of_getElem? (i := 0) rfl))
    have F210 : Exa Z h206 a "com/example/words_to_weights/wordstoweights/index/VarIntReader" := Exa.wr W207 f0
    have F211 : Fld Z h206 a "com/example/words_to_weights/wordstoweights/index/VarIntReader" "bytes" "[B" (.ref ar) := Fld.other W207 f3 (Or.inr (slot_ne (Or.inr (hw _ (List.mem_of_getElem? (i := 21) rfl))) (Or.inl (hw _ (List.mem_of_getElem? (i := 28) rfl))) (by decide) (t := (.array .byte)) (t' := .int) (by decide) (by decide)))
    have F212 : Fld Z h206 a "com/example/words_to_weights/wordstoweights/index/VarIntReader" "position" "I" (.int (p + (1 : Int32))) := Fld.same W207 f4
    have F213 : own_AB Z h206 ar n f := own_A.other f5 W207 (Ne.symm f2)
    refine own_ldB C (pc' := 20) F213 (i := (pn + 0)) hP0 (by omega) own_d7_19 rfl ?_
    refine own_istoreN C (pc' := 21) (Ls' := #[.val (.ref a), .val (.int (0 : Int32)), .val (.int (0 : Int32)), .val (.int (f (pn + 0)))]) own_d7_20 rfl rfl ?_
    refine own_iloadN C (pc' := 22) own_d7_21 rfl rfl ?_
    refine own_iloadN C (pc' := 23) own_d7_22 rfl rfl ?_
    refine own_bipush C (pc' := 25) (v := (127 : Int32)) own_d7_23 rfl (by decide) ?_
    refine own_iand C (pc' := 26) own_d7_25 rfl ?_
    refine own_iloadN C (pc' := 27) own_d7_26 rfl rfl ?_
    refine own_ishl C (pc' := 28) own_d7_27 rfl ?_
    refine own_ior C (pc' := 29) own_d7_28 rfl ?_
    refine own_istoreN C (pc' := 30) (Ls' := #[.val (.ref a), .val (.int ((0 : Int32) ||| (((f (pn + 0)) &&& (127 : Int32)) <<< ((0 : Int32) &&& 31)))), .val (.int (0 : Int32)), .val (.int (f (pn + 0)))]) own_d7_29 rfl rfl ?_
    refine own_iincV C (pc' := 33) (w := (7 : Int32)) (x := (7 : Int32)) (Ls' := #[.val (.ref a), .val (.int ((0 : Int32) ||| (((f (pn + 0)) &&& (127 : Int32)) <<< ((0 : Int32) &&& 31)))), .val (.int (7 : Int32)), .val (.int (f (pn + 0)))]) own_d7_30 rfl (by decide) (by decide) rfl rfl ?_
    refine own_iloadN C (pc' := 34) own_d7_33 rfl rfl ?_
    refine own_i0_lt C (pc1 := 4) (pc2 := 37) own_d7_34 rfl rfl (fun c214 => ?_) (fun c214 => absurd c214 (not_not_intro s0))
    refine own_aloadN C (pc' := 5) own_d7_4 rfl rfl rfl ?_
    refine own_getF C (pc' := 8) (hw _ (List.mem_of_getElem? (i := 20) rfl)) F211 own_d7_5 rfl ?_
    refine own_aloadN C (pc' := 9) own_d7_8 rfl rfl rfl ?_
    refine own_dup C (pc' := 10) own_d7_9 rfl rfl ?_
    refine own_getF C (pc' := 13) (hw _ (List.mem_of_getElem? (i := 27) rfl)) F212 own_d7_10 rfl ?_
    refine own_dupX1 C (pc' := 14) own_d7_13 rfl rfl rfl ?_
    refine own_iconst C (pc' := 15) (v := (1 : Int32)) own_d7_14 rfl (by decide) ?_
    refine own_iadd C (pc' := 16) own_d7_15 rfl ?_
    refine own_putF C (pc' := 19) (hw _ (List.mem_of_getElem? (i := 27) rfl)) F212 F210 (Or.inl (hw _ (List.mem_of_getElem? (i := 28) rfl))) (hw _ (List.mem_of_getElem? (i := 12) rfl)) (ty := .int) (by decide) rfl rfl f1 own_d7_16 rfl (fun h215 W216 => ?_)
    have Z217 : n0 ≤ h215.size := Nat.le_trans Z208 (Nat.le_of_eq (Wr.size W216).symm)
    have K218 := Keep.wr K209 W216 (Or.inl (List.mem_of_getElem? (i := 0) rfl))
    have F219 : Exa Z h215 a "com/example/words_to_weights/wordstoweights/index/VarIntReader" := Exa.wr W216 F210
    have F220 : Fld Z h215 a "com/example/words_to_weights/wordstoweights/index/VarIntReader" "bytes" "[B" (.ref ar) := Fld.other W216 F211 (Or.inr (slot_ne (Or.inr (hw _ (List.mem_of_getElem? (i := 21) rfl))) (Or.inl (hw _ (List.mem_of_getElem? (i := 28) rfl))) (by decide) (t := (.array .byte)) (t' := .int) (by decide) (by decide)))
    have F221 : Fld Z h215 a "com/example/words_to_weights/wordstoweights/index/VarIntReader" "position" "I" (.int ((p + (1 : Int32)) + (1 : Int32))) := Fld.same W216 F212
    have F222 : own_AB Z h215 ar n f := own_A.other F213 W216 (Ne.symm f2)
    refine own_ldB C (pc' := 20) F222 (i := (pn + 1)) hP1 (by omega) own_d7_19 rfl ?_
    refine own_istoreN C (pc' := 21) (Ls' := #[.val (.ref a), .val (.int ((0 : Int32) ||| (((f (pn + 0)) &&& (127 : Int32)) <<< ((0 : Int32) &&& 31)))), .val (.int (7 : Int32)), .val (.int (f (pn + 1)))]) own_d7_20 rfl rfl ?_
    refine own_iloadN C (pc' := 22) own_d7_21 rfl rfl ?_
    refine own_iloadN C (pc' := 23) own_d7_22 rfl rfl ?_
    refine own_bipush C (pc' := 25) (v := (127 : Int32)) own_d7_23 rfl (by decide) ?_
    refine own_iand C (pc' := 26) own_d7_25 rfl ?_
    refine own_iloadN C (pc' := 27) own_d7_26 rfl rfl ?_
    refine own_ishl C (pc' := 28) own_d7_27 rfl ?_
    refine own_ior C (pc' := 29) own_d7_28 rfl ?_
    refine own_istoreN C (pc' := 30) (Ls' := #[.val (.ref a), .val (.int (((0 : Int32) ||| (((f (pn + 0)) &&& (127 : Int32)) <<< ((0 : Int32) &&& 31))) ||| (((f (pn + 1)) &&& (127 : Int32)) <<< ((7 : Int32) &&& 31)))), .val (.int (7 : Int32)), .val (.int (f (pn + 1)))]) own_d7_29 rfl rfl ?_
    refine own_iincV C (pc' := 33) (w := (7 : Int32)) (x := (14 : Int32)) (Ls' := #[.val (.ref a), .val (.int (((0 : Int32) ||| (((f (pn + 0)) &&& (127 : Int32)) <<< ((0 : Int32) &&& 31))) ||| (((f (pn + 1)) &&& (127 : Int32)) <<< ((7 : Int32) &&& 31)))), .val (.int (14 : Int32)), .val (.int (f (pn + 1)))]) own_d7_30 rfl (by decide) (by decide) rfl rfl ?_
    refine own_iloadN C (pc' := 34) own_d7_33 rfl rfl ?_
    refine own_i0_lt C (pc1 := 4) (pc2 := 37) own_d7_34 rfl rfl (fun c223 => ?_) (fun c223 => absurd c223 (not_not_intro s1))
    refine own_aloadN C (pc' := 5) own_d7_4 rfl rfl rfl ?_
    refine own_getF C (pc' := 8) (hw _ (List.mem_of_getElem? (i := 20) rfl)) F220 own_d7_5 rfl ?_
    refine own_aloadN C (pc' := 9) own_d7_8 rfl rfl rfl ?_
    refine own_dup C (pc' := 10) own_d7_9 rfl rfl ?_
    refine own_getF C (pc' := 13) (hw _ (List.mem_of_getElem? (i := 27) rfl)) F221 own_d7_10 rfl ?_
    refine own_dupX1 C (pc' := 14) own_d7_13 rfl rfl rfl ?_
    refine own_iconst C (pc' := 15) (v := (1 : Int32)) own_d7_14 rfl (by decide) ?_
    refine own_iadd C (pc' := 16) own_d7_15 rfl ?_
    refine own_putF C (pc' := 19) (hw _ (List.mem_of_getElem? (i := 27) rfl)) F221 F219 (Or.inl (hw _ (List.mem_of_getElem? (i := 28) rfl))) (hw _ (List.mem_of_getElem? (i := 12) rfl)) (ty := .int) (by decide) rfl rfl f1 own_d7_16 rfl (fun h224 W225 => ?_)
    have Z226 : n0 ≤ h224.size := Nat.le_trans Z217 (Nat.le_of_eq (Wr.size W225).symm)
    have K227 := Keep.wr K218 W225 (Or.inl (List.mem_of_getElem? (i := 0) rfl))
    have F228 : Exa Z h224 a "com/example/words_to_weights/wordstoweights/index/VarIntReader" := Exa.wr W225 F219
    have F229 : Fld Z h224 a "com/example/words_to_weights/wordstoweights/index/VarIntReader" "bytes" "[B" (.ref ar) := Fld.other W225 F220 (Or.inr (slot_ne (Or.inr (hw _ (List.mem_of_getElem? (i := 21) rfl))) (Or.inl (hw _ (List.mem_of_getElem? (i := 28) rfl))) (by decide) (t := (.array .byte)) (t' := .int) (by decide) (by decide)))
    have F230 : Fld Z h224 a "com/example/words_to_weights/wordstoweights/index/VarIntReader" "position" "I" (.int (((p + (1 : Int32)) + (1 : Int32)) + (1 : Int32))) := Fld.same W225 F221
    have F231 : own_AB Z h224 ar n f := own_A.other F222 W225 (Ne.symm f2)
    refine own_ldB C (pc' := 20) F231 (i := (pn + 2)) hP2 (by omega) own_d7_19 rfl ?_
    refine own_istoreN C (pc' := 21) (Ls' := #[.val (.ref a), .val (.int (((0 : Int32) ||| (((f (pn + 0)) &&& (127 : Int32)) <<< ((0 : Int32) &&& 31))) ||| (((f (pn + 1)) &&& (127 : Int32)) <<< ((7 : Int32) &&& 31)))), .val (.int (14 : Int32)), .val (.int (f (pn + 2)))]) own_d7_20 rfl rfl ?_
    refine own_iloadN C (pc' := 22) own_d7_21 rfl rfl ?_
    refine own_iloadN C (pc' := 23) own_d7_22 rfl rfl ?_
    refine own_bipush C (pc' := 25) (v := (127 : Int32)) own_d7_23 rfl (by decide) ?_
    refine own_iand C (pc' := 26) own_d7_25 rfl ?_
    refine own_iloadN C (pc' := 27) own_d7_26 rfl rfl ?_
    refine own_ishl C (pc' := 28) own_d7_27 rfl ?_
    refine own_ior C (pc' := 29) own_d7_28 rfl ?_
    refine own_istoreN C (pc' := 30) (Ls' := #[.val (.ref a), .val (.int ((((0 : Int32) ||| (((f (pn + 0)) &&& (127 : Int32)) <<< ((0 : Int32) &&& 31))) ||| (((f (pn + 1)) &&& (127 : Int32)) <<< ((7 : Int32) &&& 31))) ||| (((f (pn + 2)) &&& (127 : Int32)) <<< ((14 : Int32) &&& 31)))), .val (.int (14 : Int32)), .val (.int (f (pn + 2)))]) own_d7_29 rfl rfl ?_
    refine own_iincV C (pc' := 33) (w := (7 : Int32)) (x := (21 : Int32)) (Ls' := #[.val (.ref a), .val (.int ((((0 : Int32) ||| (((f (pn + 0)) &&& (127 : Int32)) <<< ((0 : Int32) &&& 31))) ||| (((f (pn + 1)) &&& (127 : Int32)) <<< ((7 : Int32) &&& 31))) ||| (((f (pn + 2)) &&& (127 : Int32)) <<< ((14 : Int32) &&& 31)))), .val (.int (21 : Int32)), .val (.int (f (pn + 2)))]) own_d7_30 rfl (by decide) (by decide) rfl rfl ?_
    refine own_iloadN C (pc' := 34) own_d7_33 rfl rfl ?_
    refine own_i0_lt C (pc1 := 4) (pc2 := 37) own_d7_34 rfl rfl (fun c232 => absurd c232 s2) (fun c232 => ?_)
    refine own_iloadN C (pc' := 38) own_d7_37 rfl rfl ?_
    exact own_ret C (t := .int) rfl rfl (Or.inl ⟨rfl, by simp, _, rfl⟩) own_d7_38 (by decide) (by decide) (⟨(((p + (1 : Int32)) + (1 : Int32)) + (1 : Int32)), rfl, K227, F228, F229, F230, hP3⟩)
  · skip
    have hP0 : p.toInt = ((pn + 0 : Nat) : Int) := hp
    have hP1 : (p + (1 : Int32)).toInt = ((pn + 1 : Nat) : Int) := own_add (X := pn + 0) (Y := 1) hP0 rfl (by omega)
    have hP2 : ((p + (1 : Int32)) + (1 : Int32)).toInt = ((pn + 2 : Nat) : Int) := own_add (X := pn + 1) (Y := 1) hP1 rfl (by omega)
    have hP3 : (((p + (1 : Int32)) + (1 : Int32)) + (1 : Int32)).toInt = ((pn + 3 : Nat) : Int) := own_add (X := pn + 2) (Y := 1) hP2 rfl (by omega)
    have hP4 : ((((p + (1 : Int32)) + (1 : Int32)) + (1 : Int32)) + (1 : Int32)).toInt = ((pn + 4 : Nat) : Int) := own_add (X := pn + 3) (Y := 1) hP3 rfl (by omega)
    have s0 : f (pn + 0) < 0 := hs 0 (by decide)
    have s1 : f (pn + 1) < 0 := hs 1 (by decide)
    have s2 : f (pn + 2) < 0 := hs 2 (by decide)
    have s3 : ¬ f (pn + 3) < 0 := hl
    refine own_iconst C (pc' := 1) (v := (0 : Int32)) own_d7_0 rfl (by decide) ?_
    refine own_istoreN C (pc' := 2) (Ls' := #[.val (.ref a), .val (.int (0 : Int32)), .unset, .unset]) own_d7_1 rfl rfl ?_
    refine own_iconst C (pc' := 3) (v := (0 : Int32)) own_d7_2 rfl (by decide) ?_
    refine own_istoreN C (pc' := 4) (Ls' := #[.val (.ref a), .val (.int (0 : Int32)), .val (.int (0 : Int32)), .unset]) own_d7_3 rfl rfl ?_
    refine own_aloadN C (pc' := 5) own_d7_4 rfl rfl rfl ?_
    refine own_getF C (pc' := 8) (hw _ (List.mem_of_getElem? (i := 20) rfl)) f3 own_d7_5 rfl ?_
    refine own_aloadN C (pc' := 9) own_d7_8 rfl rfl rfl ?_
    refine own_dup C (pc' := 10) own_d7_9 rfl rfl ?_
    refine own_getF C (pc' := 13) (hw _ (List.mem_of_getElem? (i := 27) rfl)) f4 own_d7_10 rfl ?_
    refine own_dupX1 C (pc' := 14) own_d7_13 rfl rfl rfl ?_
    refine own_iconst C (pc' := 15) (v := (1 : Int32)) own_d7_14 rfl (by decide) ?_
    refine own_iadd C (pc' := 16) own_d7_15 rfl ?_
    refine own_putF C (pc' := 19) (hw _ (List.mem_of_getElem? (i := 27) rfl)) f4 f0 (Or.inl (hw _ (List.mem_of_getElem? (i := 28) rfl))) (hw _ (List.mem_of_getElem? (i := 12) rfl)) (ty := .int) (by decide) rfl rfl f1 own_d7_16 rfl (fun h233 W234 => ?_)
    have Z235 : n0 ≤ h233.size := Nat.le_trans Z0 (Nat.le_of_eq (Wr.size W234).symm)
    have K236 := Keep.wr K0 W234 (Or.inl (List.mem_of_getElem? (i := 0) rfl))
    have F237 : Exa Z h233 a "com/example/words_to_weights/wordstoweights/index/VarIntReader" := Exa.wr W234 f0
    have F238 : Fld Z h233 a "com/example/words_to_weights/wordstoweights/index/VarIntReader" "bytes" "[B" (.ref ar) := Fld.other W234 f3 (Or.inr (slot_ne (Or.inr (hw _ (List.mem_of_getElem? (i := 21) rfl))) (Or.inl (hw _ (List.mem_of_getElem? (i := 28) rfl))) (by decide) (t := (.array .byte)) (t' := .int) (by decide) (by decide)))
    have F239 : Fld Z h233 a "com/example/words_to_weights/wordstoweights/index/VarIntReader" "position" "I" (.int (p + (1 : Int32))) := Fld.same W234 f4
    have F240 : own_AB Z h233 ar n f := own_A.other f5 W234 (Ne.symm f2)
    refine own_ldB C (pc' := 20) F240 (i := (pn + 0)) hP0 (by omega) own_d7_19 rfl ?_
    refine own_istoreN C (pc' := 21) (Ls' := #[.val (.ref a), .val (.int (0 : Int32)), .val (.int (0 : Int32)), .val (.int (f (pn + 0)))]) own_d7_20 rfl rfl ?_
    refine own_iloadN C (pc' := 22) own_d7_21 rfl rfl ?_
    refine own_iloadN C (pc' := 23) own_d7_22 rfl rfl ?_
    refine own_bipush C (pc' := 25) (v := (127 : Int32)) own_d7_23 rfl (by decide) ?_
    refine own_iand C (pc' := 26) own_d7_25 rfl ?_
    refine own_iloadN C (pc' := 27) own_d7_26 rfl rfl ?_
    refine own_ishl C (pc' := 28) own_d7_27 rfl ?_
    refine own_ior C (pc' := 29) own_d7_28 rfl ?_
    refine own_istoreN C (pc' := 30) (Ls' := #[.val (.ref a), .val (.int ((0 : Int32) ||| (((f (pn + 0)) &&& (127 : Int32)) <<< ((0 : Int32) &&& 31)))), .val (.int (0 : Int32)), .val (.int (f (pn + 0)))]) own_d7_29 rfl rfl ?_
    refine own_iincV C (pc' := 33) (w := (7 : Int32)) (x := (7 : Int32)) (Ls' := #[.val (.ref a), .val (.int ((0 : Int32) ||| (((f (pn + 0)) &&& (127 : Int32)) <<< ((0 : Int32) &&& 31)))), .val (.int (7 : Int32)), .val (.int (f (pn + 0)))]) own_d7_30 rfl (by decide) (by decide) rfl rfl ?_
    refine own_iloadN C (pc' := 34) own_d7_33 rfl rfl ?_
    refine own_i0_lt C (pc1 := 4) (pc2 := 37) own_d7_34 rfl rfl (fun c241 => ?_) (fun c241 => absurd c241 (not_not_intro s0))
    refine own_aloadN C (pc' := 5) own_d7_4 rfl rfl rfl ?_
    refine own_getF C (pc' := 8) (hw _ (List.mem_of_getElem? (i := 20) rfl)) F238 own_d7_5 rfl ?_
    refine own_aloadN C (pc' := 9) own_d7_8 rfl rfl rfl ?_
    refine own_dup C (pc' := 10) own_d7_9 rfl rfl ?_
    refine own_getF C (pc' := 13) (hw _ (List.mem_of_getElem? (i := 27) rfl)) F239 own_d7_10 rfl ?_
    refine own_dupX1 C (pc' := 14) own_d7_13 rfl rfl rfl ?_
    refine own_iconst C (pc' := 15) (v := (1 : Int32)) own_d7_14 rfl (by decide) ?_
    refine own_iadd C (pc' := 16) own_d7_15 rfl ?_
    refine own_putF C (pc' := 19) (hw _ (List.mem_of_getElem? (i := 27) rfl)) F239 F237 (Or.inl (hw _ (List.mem_of_getElem? (i := 28) rfl))) (hw _ (List.mem_of_getElem? (i := 12) rfl)) (ty := .int) (by decide) rfl rfl f1 own_d7_16 rfl (fun h242 W243 => ?_)
    have Z244 : n0 ≤ h242.size := Nat.le_trans Z235 (Nat.le_of_eq (Wr.size W243).symm)
    have K245 := Keep.wr K236 W243 (Or.inl (List.mem_of_getElem? (i := 0) rfl))
    have F246 : Exa Z h242 a "com/example/words_to_weights/wordstoweights/index/VarIntReader" := Exa.wr W243 F237
    have F247 : Fld Z h242 a "com/example/words_to_weights/wordstoweights/index/VarIntReader" "bytes" "[B" (.ref ar) := Fld.other W243 F238 (Or.inr (slot_ne (Or.inr (hw _ (List.mem_of_getElem? (i := 21) rfl))) (Or.inl (hw _ (List.mem_of_getElem? (i := 28) rfl))) (by decide) (t := (.array .byte)) (t' := .int) (by decide) (by decide)))
    have F248 : Fld Z h242 a "com/example/words_to_weights/wordstoweights/index/VarIntReader" "position" "I" (.int ((p + (1 : Int32)) + (1 : Int32))) := Fld.same W243 F239
    have F249 : own_AB Z h242 ar n f := own_A.other F240 W243 (Ne.symm f2)
    refine own_ldB C (pc' := 20) F249 (i := (pn + 1)) hP1 (by omega) own_d7_19 rfl ?_
    refine own_istoreN C (pc' := 21) (Ls' := #[.val (.ref a), .val (.int ((0 : Int32) ||| (((f (pn + 0)) &&& (127 : Int32)) <<< ((0 : Int32) &&& 31)))), .val (.int (7 : Int32)), .val (.int (f (pn + 1)))]) own_d7_20 rfl rfl ?_
    refine own_iloadN C (pc' := 22) own_d7_21 rfl rfl ?_
    refine own_iloadN C (pc' := 23) own_d7_22 rfl rfl ?_
    refine own_bipush C (pc' := 25) (v := (127 : Int32)) own_d7_23 rfl (by decide) ?_
    refine own_iand C (pc' := 26) own_d7_25 rfl ?_
    refine own_iloadN C (pc' := 27) own_d7_26 rfl rfl ?_
    refine own_ishl C (pc' := 28) own_d7_27 rfl ?_
    refine own_ior C (pc' := 29) own_d7_28 rfl ?_
    refine own_istoreN C (pc' := 30) (Ls' := #[.val (.ref a), .val (.int (((0 : Int32) ||| (((f (pn + 0)) &&& (127 : Int32)) <<< ((0 : Int32) &&& 31))) ||| (((f (pn + 1)) &&& (127 : Int32)) <<< ((7 : Int32) &&& 31)))), .val (.int (7 : Int32)), .val (.int (f (pn + 1)))]) own_d7_29 rfl rfl ?_
    refine own_iincV C (pc' := 33) (w := (7 : Int32)) (x := (14 : Int32)) (Ls' := #[.val (.ref a), .val (.int (((0 : Int32) ||| (((f (pn + 0)) &&& (127 : Int32)) <<< ((0 : Int32) &&& 31))) ||| (((f (pn + 1)) &&& (127 : Int32)) <<< ((7 : Int32) &&& 31)))), .val (.int (14 : Int32)), .val (.int (f (pn + 1)))]) own_d7_30 rfl (by decide) (by decide) rfl rfl ?_
    refine own_iloadN C (pc' := 34) own_d7_33 rfl rfl ?_
    refine own_i0_lt C (pc1 := 4) (pc2 := 37) own_d7_34 rfl rfl (fun c250 => ?_) (fun c250 => absurd c250 (not_not_intro s1))
    refine own_aloadN C (pc' := 5) own_d7_4 rfl rfl rfl ?_
    refine own_getF C (pc' := 8) (hw _ (List.mem_of_getElem? (i := 20) rfl)) F247 own_d7_5 rfl ?_
    refine own_aloadN C (pc' := 9) own_d7_8 rfl rfl rfl ?_
    refine own_dup C (pc' := 10) own_d7_9 rfl rfl ?_
    refine own_getF C (pc' := 13) (hw _ (List.mem_of_getElem? (i := 27) rfl)) F248 own_d7_10 rfl ?_
    refine own_dupX1 C (pc' := 14) own_d7_13 rfl rfl rfl ?_
    refine own_iconst C (pc' := 15) (v := (1 : Int32)) own_d7_14 rfl (by decide) ?_
    refine own_iadd C (pc' := 16) own_d7_15 rfl ?_
    refine own_putF C (pc' := 19) (hw _ (List.mem_of_getElem? (i := 27) rfl)) F248 F246 (Or.inl (hw _ (List.mem_of_getElem? (i := 28) rfl))) (hw _ (List.mem_of_getElem? (i := 12) rfl)) (ty := .int) (by decide) rfl rfl f1 own_d7_16 rfl (fun h251 W252 => ?_)
    have Z253 : n0 ≤ h251.size := Nat.le_trans Z244 (Nat.le_of_eq (Wr.size W252).symm)
    have K254 := Keep.wr K245 W252 (Or.inl (List.mem_of_getElem? (i := 0) rfl))
    have F255 : Exa Z h251 a "com/example/words_to_weights/wordstoweights/index/VarIntReader" := Exa.wr W252 F246
    have F256 : Fld Z h251 a "com/example/words_to_weights/wordstoweights/index/VarIntReader" "bytes" "[B" (.ref ar) := Fld.other W252 F247 (Or.inr (slot_ne (Or.inr (hw _ (List.mem_of_getElem? (i := 21) rfl))) (Or.inl (hw _ (List.mem_of_getElem? (i := 28) rfl))) (by decide) (t := (.array .byte)) (t' := .int) (by decide) (by decide)))
    have F257 : Fld Z h251 a "com/example/words_to_weights/wordstoweights/index/VarIntReader" "position" "I" (.int (((p + (1 : Int32)) + (1 : Int32)) + (1 : Int32))) := Fld.same W252 F248
    have F258 : own_AB Z h251 ar n f := own_A.other F249 W252 (Ne.symm f2)
    refine own_ldB C (pc' := 20) F258 (i := (pn + 2)) hP2 (by omega) own_d7_19 rfl ?_
    refine own_istoreN C (pc' := 21) (Ls' := #[.val (.ref a), .val (.int (((0 : Int32) ||| (((f (pn + 0)) &&& (127 : Int32)) <<< ((0 : Int32) &&& 31))) ||| (((f (pn + 1)) &&& (127 : Int32)) <<< ((7 : Int32) &&& 31)))), .val (.int (14 : Int32)), .val (.int (f (pn + 2)))]) own_d7_20 rfl rfl ?_
    refine own_iloadN C (pc' := 22) own_d7_21 rfl rfl ?_
    refine own_iloadN C (pc' := 23) own_d7_22 rfl rfl ?_
    refine own_bipush C (pc' := 25) (v := (127 : Int32)) own_d7_23 rfl (by decide) ?_
    refine own_iand C (pc' := 26) own_d7_25 rfl ?_
    refine own_iloadN C (pc' := 27) own_d7_26 rfl rfl ?_
    refine own_ishl C (pc' := 28) own_d7_27 rfl ?_
    refine own_ior C (pc' := 29) own_d7_28 rfl ?_
    refine own_istoreN C (pc' := 30) (Ls' := #[.val (.ref a), .val (.int ((((0 : Int32) ||| (((f (pn + 0)) &&& (127 : Int32)) <<< ((0 : Int32) &&& 31))) ||| (((f (pn + 1)) &&& (127 : Int32)) <<< ((7 : Int32) &&& 31))) ||| (((f (pn + 2)) &&& (127 : Int32)) <<< ((14 : Int32) &&& 31)))), .val (.int (14 : Int32)), .val (.int (f (pn + 2)))]) own_d7_29 rfl rfl ?_
    refine own_iincV C (pc' := 33) (w := (7 : Int32)) (x := (21 : Int32)) (Ls' := #[.val (.ref a), .val (.int ((((0 : Int32) ||| (((f (pn + 0)) &&& (127 : Int32)) <<< ((0 : Int32) &&& 31))) ||| (((f (pn + 1)) &&& (127 : Int32)) <<< ((7 : Int32) &&& 31))) ||| (((f (pn + 2)) &&& (127 : Int32)) <<< ((14 : Int32) &&& 31)))), .val (.int (21 : Int32)), .val (.int (f (pn + 2)))]) own_d7_30 rfl (by decide) (by decide) rfl rfl ?_
    refine own_iloadN C (pc' := 34) own_d7_33 rfl rfl ?_
    refine own_i0_lt C (pc1 := 4) (pc2 := 37) own_d7_34 rfl rfl (fun c259 => ?_) (fun c259 => absurd c259 (not_not_intro s2))
    refine own_aloadN C (pc' := 5) own_d7_4 rfl rfl rfl ?_
    refine own_getF C (pc' := 8) (hw _ (List.mem_of_getElem? (i := 20) rfl)) F256 own_d7_5 rfl ?_
    refine own_aloadN C (pc' := 9) own_d7_8 rfl rfl rfl ?_
    refine own_dup C (pc' := 10) own_d7_9 rfl rfl ?_
    refine own_getF C (pc' := 13) (hw _ (List.mem_of_getElem? (i := 27) rfl)) F257 own_d7_10 rfl ?_
    refine own_dupX1 C (pc' := 14) own_d7_13 rfl rfl rfl ?_
    refine own_iconst C (pc' := 15) (v := (1 : Int32)) own_d7_14 rfl (by decide) ?_
    refine own_iadd C (pc' := 16) own_d7_15 rfl ?_
    refine own_putF C (pc' := 19) (hw _ (List.mem_of_getElem? (i := 27) rfl)) F257 F255 (Or.inl (hw _ (List.mem_of_getElem? (i := 28) rfl))) (hw _ (List.mem_of_getElem? (i := 12) rfl)) (ty := .int) (by decide) rfl rfl f1 own_d7_16 rfl (fun h260 W261 => ?_)
    have Z262 : n0 ≤ h260.size := Nat.le_trans Z253 (Nat.le_of_eq (Wr.size W261).symm)
    have K263 := Keep.wr K254 W261 (Or.inl (List.mem_of_getElem? (i := 0) rfl))
    have F264 : Exa Z h260 a "com/example/words_to_weights/wordstoweights/index/VarIntReader" := Exa.wr W261 F255
    have F265 : Fld Z h260 a "com/example/words_to_weights/wordstoweights/index/VarIntReader" "bytes" "[B" (.ref ar) := Fld.other W261 F256 (Or.inr (slot_ne (Or.inr (hw _ (List.mem_of_getElem? (i := 21) rfl))) (Or.inl (hw _ (List.mem_of_getElem? (i := 28) rfl))) (by decide) (t := (.array .byte)) (t' := .int) (by decide) (by decide)))
    have F266 : Fld Z h260 a "com/example/words_to_weights/wordstoweights/index/VarIntReader" "position" "I" (.int ((((p + (1 : Int32)) + (1 : Int32)) + (1 : Int32)) + (1 : Int32))) := Fld.same W261 F257
    have F267 : own_AB Z h260 ar n f := own_A.other F258 W261 (Ne.symm f2)
    refine own_ldB C (pc' := 20) F267 (i := (pn + 3)) hP3 (by omega) own_d7_19 rfl ?_
    refine own_istoreN C (pc' := 21) (Ls' := #[.val (.ref a), .val (.int ((((0 : Int32) ||| (((f (pn + 0)) &&& (127 : Int32)) <<< ((0 : Int32) &&& 31))) ||| (((f (pn + 1)) &&& (127 : Int32)) <<< ((7 : Int32) &&& 31))) ||| (((f (pn + 2)) &&& (127 : Int32)) <<< ((14 : Int32) &&& 31)))), .val (.int (21 : Int32)), .val (.int (f (pn + 3)))]) own_d7_20 rfl rfl ?_
    refine own_iloadN C (pc' := 22) own_d7_21 rfl rfl ?_
    refine own_iloadN C (pc' := 23) own_d7_22 rfl rfl ?_
    refine own_bipush C (pc' := 25) (v := (127 : Int32)) own_d7_23 rfl (by decide) ?_
    refine own_iand C (pc' := 26) own_d7_25 rfl ?_
    refine own_iloadN C (pc' := 27) own_d7_26 rfl rfl ?_
    refine own_ishl C (pc' := 28) own_d7_27 rfl ?_
    refine own_ior C (pc' := 29) own_d7_28 rfl ?_
    refine own_istoreN C (pc' := 30) (Ls' := #[.val (.ref a), .val (.int (((((0 : Int32) ||| (((f (pn + 0)) &&& (127 : Int32)) <<< ((0 : Int32) &&& 31))) ||| (((f (pn + 1)) &&& (127 : Int32)) <<< ((7 : Int32) &&& 31))) ||| (((f (pn + 2)) &&& (127 : Int32)) <<< ((14 : Int32) &&& 31))) ||| (((f (pn + 3)) &&& (127 : Int32)) <<< ((21 : Int32) &&& 31)))), .val (.int (21 : Int32)), .val (.int (f (pn + 3)))]) own_d7_29 rfl rfl ?_
    refine own_iincV C (pc' := 33) (w := (7 : Int32)) (x := (28 : Int32)) (Ls' := #[.val (.ref a), .val (.int (((((0 : Int32) ||| (((f (pn + 0)) &&& (127 : Int32)) <<< ((0 : Int32) &&& 31))) ||| (((f (pn + 1)) &&& (127 : Int32)) <<< ((7 : Int32) &&& 31))) ||| (((f (pn + 2)) &&& (127 : Int32)) <<< ((14 : Int32) &&& 31))) ||| (((f (pn + 3)) &&& (127 : Int32)) <<< ((21 : Int32) &&& 31)))), .val (.int (28 : Int32)), .val (.int (f (pn + 3)))]) own_d7_30 rfl (by decide) (by decide) rfl rfl ?_
    refine own_iloadN C (pc' := 34) own_d7_33 rfl rfl ?_
    refine own_i0_lt C (pc1 := 4) (pc2 := 37) own_d7_34 rfl rfl (fun c268 => absurd c268 s3) (fun c268 => ?_)
    refine own_iloadN C (pc' := 38) own_d7_37 rfl rfl ?_
    exact own_ret C (t := .int) rfl rfl (Or.inl ⟨rfl, by simp, _, rfl⟩) own_d7_38 (by decide) (by decide) (⟨((((p + (1 : Int32)) + (1 : Int32)) + (1 : Int32)) + (1 : Int32)), rfl, K263, F264, F265, F266, hP4⟩)
  · skip
    have hP0 : p.toInt = ((pn + 0 : Nat) : Int) := hp
    have hP1 : (p + (1 : Int32)).toInt = ((pn + 1 : Nat) : Int) := own_add (X := pn + 0) (Y := 1) hP0 rfl (by omega)
    have hP2 : ((p + (1 : Int32)) + (1 : Int32)).toInt = ((pn + 2 : Nat) : Int) := own_add (X := pn + 1) (Y := 1) hP1 rfl (by omega)
    have hP3 : (((p + (1 : Int32)) + (1 : Int32)) + (1 : Int32)).toInt = ((pn + 3 : Nat) : Int) := own_add (X := pn + 2) (Y := 1) hP2 rfl (by omega)
    have hP4 : ((((p + (1 : Int32)) + (1 : Int32)) + (1 : Int32)) + (1 : Int32)).toInt = ((pn + 4 : Nat) : Int) := own_add (X := pn + 3) (Y := 1) hP3 rfl (by omega)
    have hP5 : (((((p + (1 : Int32)) + (1 : Int32)) + (1 : Int32)) + (1 : Int32)) + (1 : Int32)).toInt = ((pn + 5 : Nat) : Int) := own_add (X := pn + 4) (Y := 1) hP4 rfl (by omega)
    have s0 : f (pn + 0) < 0 := hs 0 (by decide)
    have s1 : f (pn + 1) < 0 := hs 1 (by decide)
    have s2 : f (pn + 2) < 0 := hs 2 (by decide)
    have s3 : f (pn + 3) < 0 := hs 3 (by decide)
    have s4 : ¬ f (pn + 4) < 0 := hl
    refine own_iconst C (pc' := 1) (v := (0 : Int32)) own_d7_0 rfl (by decide) ?_
    refine own_istoreN C (pc' := 2) (Ls' := #[.val (.ref a), .val (.int (0 : Int32)), .unset, .unset]) own_d7_1 rfl rfl ?_
    refine own_iconst C (pc' := 3) (v := (0 : Int32)) own_d7_2 rfl (by decide) ?_
    refine own_istoreN C (pc' := 4) (Ls' := #[.val (.ref a), .val (.int (0 : Int32)), .val (.int (0 : Int32)), .unset]) own_d7_3 rfl rfl ?_
    refine own_aloadN C (pc' := 5) own_d7_4 rfl rfl rfl ?_
    refine own_getF C (pc' := 8) (hw _ (List.mem_of_getElem? (i := 20) rfl)) f3 own_d7_5 rfl ?_
    refine own_aloadN C (pc' := 9) own_d7_8 rfl rfl rfl ?_
    refine own_dup C (pc' := 10) own_d7_9 rfl rfl ?_
    refine own_getF C (pc' := 13) (hw _ (List.mem_of_getElem? (i := 27) rfl)) f4 own_d7_10 rfl ?_
    refine own_dupX1 C (pc' := 14) own_d7_13 rfl rfl rfl ?_
    refine own_iconst C (pc' := 15) (v := (1 : Int32)) own_d7_14 rfl (by decide) ?_
    refine own_iadd C (pc' := 16) own_d7_15 rfl ?_
    refine own_putF C (pc' := 19) (hw _ (List.mem_of_getElem? (i := 27) rfl)) f4 f0 (Or.inl (hw _ (List.mem_of_getElem? (i := 28) rfl))) (hw _ (List.mem_of_getElem? (i := 12) rfl)) (ty := .int) (by decide) rfl rfl f1 own_d7_16 rfl (fun h269 W270 => ?_)
    have Z271 : n0 ≤ h269.size := Nat.le_trans Z0 (Nat.le_of_eq (Wr.size W270).symm)
    have K272 := Keep.wr K0 W270 (Or.inl (List.mem_of_getElem? (i := 0) rfl))
    have F273 : Exa Z h269 a "com/example/words_to_weights/wordstoweights/index/VarIntReader" := Exa.wr W270 f0
    have F274 : Fld Z h269 a "com/example/words_to_weights/wordstoweights/index/VarIntReader" "bytes" "[B" (.ref ar) := Fld.other W270 f3 (Or.inr (slot_ne (Or.inr (hw _ (List.mem_of_getElem? (i := 21) rfl))) (Or.inl (hw _ (List.mem_of_getElem? (i := 28) rfl))) (by decide) (t := (.array .byte)) (t' := .int) (by decide) (by decide)))
    have F275 : Fld Z h269 a "com/example/words_to_weights/wordstoweights/index/VarIntReader" "position" "I" (.int (p + (1 : Int32))) := Fld.same W270 f4
    have F276 : own_AB Z h269 ar n f := own_A.other f5 W270 (Ne.symm f2)
    refine own_ldB C (pc' := 20) F276 (i := (pn + 0)) hP0 (by omega) own_d7_19 rfl ?_
    refine own_istoreN C (pc' := 21) (Ls' := #[.val (.ref a), .val (.int (0 : Int32)), .val (.int (0 : Int32)), .val (.int (f (pn + 0)))]) own_d7_20 rfl rfl ?_
    refine own_iloadN C (pc' := 22) own_d7_21 rfl rfl ?_
    refine own_iloadN C (pc' := 23) own_d7_22 rfl rfl ?_
    refine own_bipush C (pc' := 25) (v := (127 : Int32)) own_d7_23 rfl (by decide) ?_
    refine own_iand C (pc' := 26) own_d7_25 rfl ?_
    refine own_iloadN C (pc' := 27) own_d7_26 rfl rfl ?_
    refine own_ishl C (pc' := 28) own_d7_27 rfl ?_
    refine own_ior C (pc' := 29) own_d7_28 rfl ?_
    refine own_istoreN C (pc' := 30) (Ls' := #[.val (.ref a), .val (.int ((0 : Int32) ||| (((f (pn + 0)) &&& (127 : Int32)) <<< ((0 : Int32) &&& 31)))), .val (.int (0 : Int32)), .val (.int (f (pn + 0)))]) own_d7_29 rfl rfl ?_
    refine own_iincV C (pc' := 33) (w := (7 : Int32)) (x := (7 : Int32)) (Ls' := #[.val (.ref a), .val (.int ((0 : Int32) ||| (((f (pn + 0)) &&& (127 : Int32)) <<< ((0 : Int32) &&& 31)))), .val (.int (7 : Int32)), .val (.int (f (pn + 0)))]) own_d7_30 rfl (by decide) (by decide) rfl rfl ?_
    refine own_iloadN C (pc' := 34) own_d7_33 rfl rfl ?_
    refine own_i0_lt C (pc1 := 4) (pc2 := 37) own_d7_34 rfl rfl (fun c277 => ?_) (fun c277 => absurd c277 (not_not_intro s0))
    refine own_aloadN C (pc' := 5) own_d7_4 rfl rfl rfl ?_
    refine own_getF C (pc' := 8) (hw _ (List.mem_of_getElem? (i := 20) rfl)) F274 own_d7_5 rfl ?_
    refine own_aloadN C (pc' := 9) own_d7_8 rfl rfl rfl ?_
    refine own_dup C (pc' := 10) own_d7_9 rfl rfl ?_
    refine own_getF C (pc' := 13) (hw _ (List.mem_of_getElem? (i := 27) rfl)) F275 own_d7_10 rfl ?_
    refine own_dupX1 C (pc' := 14) own_d7_13 rfl rfl rfl ?_
    refine own_iconst C (pc' := 15) (v := (1 : Int32)) own_d7_14 rfl (by decide) ?_
    refine own_iadd C (pc' := 16) own_d7_15 rfl ?_
    refine own_putF C (pc' := 19) (hw _ (List.mem_of_getElem? (i := 27) rfl)) F275 F273 (Or.inl (hw _ (List.mem_of_getElem? (i := 28) rfl))) (hw _ (List.mem_of_getElem? (i := 12) rfl)) (ty := .int) (by decide) rfl rfl f1 own_d7_16 rfl (fun h278 W279 => ?_)
    have Z280 : n0 ≤ h278.size := Nat.le_trans Z271 (Nat.le_of_eq (Wr.size W279).symm)
    have K281 := Keep.wr K272 W279 (Or.inl (List.mem_of_getElem? (i := 0) rfl))
    have F282 : Exa Z h278 a "com/example/words_to_weights/wordstoweights/index/VarIntReader" := Exa.wr W279 F273
    have F283 : Fld Z h278 a "com/example/words_to_weights/wordstoweights/index/VarIntReader" "bytes" "[B" (.ref ar) := Fld.other W279 F274 (Or.inr (slot_ne (Or.inr (hw _ (List.mem_of_getElem? (i := 21) rfl))) (Or.inl (hw _ (List.mem_of_getElem? (i := 28) rfl))) (by decide) (t := (.array .byte)) (t' := .int) (by decide) (by decide)))
    have F284 : Fld Z h278 a "com/example/words_to_weights/wordstoweights/index/VarIntReader" "position" "I" (.int ((p + (1 : Int32)) + (1 : Int32))) := Fld.same W279 F275
    have F285 : own_AB Z h278 ar n f := own_A.other F276 W279 (Ne.symm f2)
    refine own_ldB C (pc' := 20) F285 (i := (pn + 1)) hP1 (by omega) own_d7_19 rfl ?_
    refine own_istoreN C (pc' := 21) (Ls' := #[.val (.ref a), .val (.int ((0 : Int32) ||| (((f (pn + 0)) &&& (127 : Int32)) <<< ((0 : Int32) &&& 31)))), .val (.int (7 : Int32)), .val (.int (f (pn + 1)))]) own_d7_20 rfl rfl ?_
    refine own_iloadN C (pc' := 22) own_d7_21 rfl rfl ?_
    refine own_iloadN C (pc' := 23) own_d7_22 rfl rfl ?_
    refine own_bipush C (pc' := 25) (v := (127 : Int32)) own_d7_23 rfl (by decide) ?_
    refine own_iand C (pc' := 26) own_d7_25 rfl ?_
    refine own_iloadN C (pc' := 27) own_d7_26 rfl rfl ?_
    refine own_ishl C (pc' := 28) own_d7_27 rfl ?_
    refine own_ior C (pc' := 29) own_d7_28 rfl ?_
    refine own_istoreN C (pc' := 30) (Ls' := #[.val (.ref a), .val (.int (((0 : Int32) ||| (((f (pn + 0)) &&& (127 : Int32)) <<< ((0 : Int32) &&& 31))) ||| (((f (pn + 1)) &&& (127 : Int32)) <<< ((7 : Int32) &&& 31)))), .val (.int (7 : Int32)), .val (.int (f (pn + 1)))]) own_d7_29 rfl rfl ?_
    refine own_iincV C (pc' := 33) (w := (7 : Int32)) (x := (14 : Int32)) (Ls' := #[.val (.ref a), .val (.int (((0 : Int32) ||| (((f (pn + 0)) &&& (127 : Int32)) <<< ((0 : Int32) &&& 31))) ||| (((f (pn + 1)) &&& (127 : Int32)) <<< ((7 : Int32) &&& 31)))), .val (.int (14 : Int32)), .val (.int (f (pn + 1)))]) own_d7_30 rfl (by decide) (by decide) rfl rfl ?_
    refine own_iloadN C (pc' := 34) own_d7_33 rfl rfl ?_
    refine own_i0_lt C (pc1 := 4) (pc2 := 37) own_d7_34 rfl rfl (fun c286 => ?_) (fun c286 => absurd c286 (not_not_intro s1))
    refine own_aloadN C (pc' := 5) own_d7_4 rfl rfl rfl ?_
    refine own_getF C (pc' := 8) (hw _ (List.mem_of_getElem? (i := 20) rfl)) F283 own_d7_5 rfl ?_
    refine own_aloadN C (pc' := 9) own_d7_8 rfl rfl rfl ?_
    refine own_dup C (pc' := 10) own_d7_9 rfl rfl ?_
    refine own_getF C (pc' := 13) (hw _ (List.mem_of_getElem? (i := 27) rfl)) F284 own_d7_10 rfl ?_
    refine own_dupX1 C (pc' := 14) own_d7_13 rfl rfl rfl ?_
    refine own_iconst C (pc' := 15) (v := (1 : Int32)) own_d7_14 rfl (by decide) ?_
    refine own_iadd C (pc' := 16) own_d7_15 rfl ?_
    refine own_putF C (pc' := 19) (hw _ (List.mem_of_getElem? (i := 27) rfl)) F284 F282 (Or.inl (hw _ (List.mem_of_getElem? (i := 28) rfl))) (hw _ (List.mem_of_getElem? (i := 12) rfl)) (ty := .int) (by decide) rfl rfl f1 own_d7_16 rfl (fun h287 W288 => ?_)
    have Z289 : n0 ≤ h287.size := Nat.le_trans Z280 (Nat.le_of_eq (Wr.size W288).symm)
    have K290 := Keep.wr K281 W288 (Or.inl (List.mem_of_getElem? (i := 0) rfl))
    have F291 : Exa Z h287 a "com/example/words_to_weights/wordstoweights/index/VarIntReader" := Exa.wr W288 F282
    have F292 : Fld Z h287 a "com/example/words_to_weights/wordstoweights/index/VarIntReader" "bytes" "[B" (.ref ar) := Fld.other W288 F283 (Or.inr (slot_ne (Or.inr (hw _ (List.mem_of_getElem? (i := 21) rfl))) (Or.inl (hw _ (List.mem_of_getElem? (i := 28) rfl))) (by decide) (t := (.array .byte)) (t' := .int) (by decide) (by decide)))
    have F293 : Fld Z h287 a "com/example/words_to_weights/wordstoweights/index/VarIntReader" "position" "I" (.int (((p + (1 : Int32)) + (1 : Int32)) + (1 : Int32))) := Fld.same W288 F284
    have F294 : own_AB Z h287 ar n f := own_A.other F285 W288 (Ne.symm f2)
    refine own_ldB C (pc' := 20) F294 (i := (pn + 2)) hP2 (by omega) own_d7_19 rfl ?_
    refine own_istoreN C (pc' := 21) (Ls' := #[.val (.ref a), .val (.int (((0 : Int32) ||| (((f (pn + 0)) &&& (127 : Int32)) <<< ((0 : Int32) &&& 31))) ||| (((f (pn + 1)) &&& (127 : Int32)) <<< ((7 : Int32) &&& 31)))), .val (.int (14 : Int32)), .val (.int (f (pn + 2)))]) own_d7_20 rfl rfl ?_
    refine own_iloadN C (pc' := 22) own_d7_21 rfl rfl ?_
    refine own_iloadN C (pc' := 23) own_d7_22 rfl rfl ?_
    refine own_bipush C (pc' := 25) (v := (127 : Int32)) own_d7_23 rfl (by decide) ?_
    refine own_iand C (pc' := 26) own_d7_25 rfl ?_
    refine own_iloadN C (pc' := 27) own_d7_26 rfl rfl ?_
    refine own_ishl C (pc' := 28) own_d7_27 rfl ?_
    refine own_ior C (pc' := 29) own_d7_28 rfl ?_
    refine own_istoreN C (pc' := 30) (Ls' := #[.val (.ref a), .val (.int ((((0 : Int32) ||| (((f (pn + 0)) &&& (127 : Int32)) <<< ((0 : Int32) &&& 31))) ||| (((f (pn + 1)) &&& (127 : Int32)) <<< ((7 : Int32) &&& 31))) ||| (((f (pn + 2)) &&& (127 : Int32)) <<< ((14 : Int32) &&& 31)))), .val (.int (14 : Int32)), .val (.int (f (pn + 2)))]) own_d7_29 rfl rfl ?_
    refine own_iincV C (pc' := 33) (w := (7 : Int32)) (x := (21 : Int32)) (Ls' := #[.val (.ref a), .val (.int ((((0 : Int32) ||| (((f (pn + 0)) &&& (127 : Int32)) <<< ((0 : Int32) &&& 31))) ||| (((f (pn + 1)) &&& (127 : Int32)) <<< ((7 : Int32) &&& 31))) ||| (((f (pn + 2)) &&& (127 : Int32)) <<< ((14 : Int32) &&& 31)))), .val (.int (21 : Int32)), .val (.int (f (pn + 2)))]) own_d7_30 rfl (by decide) (by decide) rfl rfl ?_
    refine own_iloadN C (pc' := 34) own_d7_33 rfl rfl ?_
    refine own_i0_lt C (pc1 := 4) (pc2 := 37) own_d7_34 rfl rfl (fun c295 => ?_) (fun c295 => absurd c295 (not_not_intro s2))
    refine own_aloadN C (pc' := 5) own_d7_4 rfl rfl rfl ?_
    refine own_getF C (pc' := 8) (hw _ (List.mem_of_getElem? (i := 20) rfl)) F292 own_d7_5 rfl ?_
    refine own_aloadN C (pc' := 9) own_d7_8 rfl rfl rfl ?_
    refine own_dup C (pc' := 10) own_d7_9 rfl rfl ?_
    refine own_getF C (pc' := 13) (hw _ (List.mem_of_getElem? (i := 27) rfl)) F293 own_d7_10 rfl ?_
    refine own_dupX1 C (pc' := 14) own_d7_13 rfl rfl rfl ?_
    refine own_iconst C (pc' := 15) (v := (1 : Int32)) own_d7_14 rfl (by decide) ?_
    refine own_iadd C (pc' := 16) own_d7_15 rfl ?_
    refine own_putF C (pc' := 19) (hw _ (List.mem_of_getElem? (i := 27) rfl)) F293 F291 (Or.inl (hw _ (List.mem_of_getElem? (i := 28) rfl))) (hw _ (List.mem_of_getElem? (i := 12) rfl)) (ty := .int) (by decide) rfl rfl f1 own_d7_16 rfl (fun h296 W297 => ?_)
    have Z298 : n0 ≤ h296.size := Nat.le_trans Z289 (Nat.le_of_eq (Wr.size W297).symm)
    have K299 := Keep.wr K290 W297 (Or.inl (List.mem_of_getElem? (i := 0) rfl))
    have F300 : Exa Z h296 a "com/example/words_to_weights/wordstoweights/index/VarIntReader" := Exa.wr W297 F291
    have F301 : Fld Z h296 a "com/example/words_to_weights/wordstoweights/index/VarIntReader" "bytes" "[B" (.ref ar) := Fld.other W297 F292 (Or.inr (slot_ne (Or.inr (hw _ (List.mem_of_getElem? (i := 21) rfl))) (Or.inl (hw _ (List.mem_of_getElem? (i := 28) rfl))) (by decide) (t := (.array .byte)) (t' := .int) (by decide) (by decide)))
    have F302 : Fld Z h296 a "com/example/words_to_weights/wordstoweights/index/VarIntReader" "position" "I" (.int ((((p + (1 : Int32)) + (1 : Int32)) + (1 : Int32)) + (1 : Int32))) := Fld.same W297 F293
    have F303 : own_AB Z h296 ar n f := own_A.other F294 W297 (Ne.symm f2)
    refine own_ldB C (pc' := 20) F303 (i := (pn + 3)) hP3 (by omega) own_d7_19 rfl ?_
    refine own_istoreN C (pc' := 21) (Ls' := #[.val (.ref a), .val (.int ((((0 : Int32) ||| (((f (pn + 0)) &&& (127 : Int32)) <<< ((0 : Int32) &&& 31))) ||| (((f (pn + 1)) &&& (127 : Int32)) <<< ((7 : Int32) &&& 31))) ||| (((f (pn + 2)) &&& (127 : Int32)) <<< ((14 : Int32) &&& 31)))), .val (.int (21 : Int32)), .val (.int (f (pn + 3)))]) own_d7_20 rfl rfl ?_
    refine own_iloadN C (pc' := 22) own_d7_21 rfl rfl ?_
    refine own_iloadN C (pc' := 23) own_d7_22 rfl rfl ?_
    refine own_bipush C (pc' := 25) (v := (127 : Int32)) own_d7_23 rfl (by decide) ?_
    refine own_iand C (pc' := 26) own_d7_25 rfl ?_
    refine own_iloadN C (pc' := 27) own_d7_26 rfl rfl ?_
    refine own_ishl C (pc' := 28) own_d7_27 rfl ?_
    refine own_ior C (pc' := 29) own_d7_28 rfl ?_
    refine own_istoreN C (pc' := 30) (Ls' := #[.val (.ref a), .val (.int (((((0 : Int32) ||| (((f (pn + 0)) &&& (127 : Int32)) <<< ((0 : Int32) &&& 31))) ||| (((f (pn + 1)) &&& (127 : Int32)) <<< ((7 : Int32) &&& 31))) ||| (((f (pn + 2)) &&& (127 : Int32)) <<< ((14 : Int32) &&& 31))) ||| (((f (pn + 3)) &&& (127 : Int32)) <<< ((21 : Int32) &&& 31)))), .val (.int (21 : Int32)), .val (.int (f (pn + 3)))]) own_d7_29 rfl rfl ?_
    refine own_iincV C (pc' := 33) (w := (7 : Int32)) (x := (28 : Int32)) (Ls' := #[.val (.ref a), .val (.int (((((0 : Int32) ||| (((f (pn + 0)) &&& (127 : Int32)) <<< ((0 : Int32) &&& 31))) ||| (((f (pn + 1)) &&& (127 : Int32)) <<< ((7 : Int32) &&& 31))) ||| (((f (pn + 2)) &&& (127 : Int32)) <<< ((14 : Int32) &&& 31))) ||| (((f (pn + 3)) &&& (127 : Int32)) <<< ((21 : Int32) &&& 31)))), .val (.int (28 : Int32)), .val (.int (f (pn + 3)))]) own_d7_30 rfl (by decide) (by decide) rfl rfl ?_
    refine own_iloadN C (pc' := 34) own_d7_33 rfl rfl ?_
    refine own_i0_lt C (pc1 := 4) (pc2 := 37) own_d7_34 rfl rfl (fun c304 => ?_) (fun c304 => absurd c304 (not_not_intro s3))
    refine own_aloadN C (pc' := 5) own_d7_4 rfl rfl rfl ?_
    refine own_getF C (pc' := 8) (hw _ (List.mem_of_getElem? (i := 20) rfl)) F301 own_d7_5 rfl ?_
    refine own_aloadN C (pc' := 9) own_d7_8 rfl rfl rfl ?_
    refine own_dup C (pc' := 10) own_d7_9 rfl rfl ?_
    refine own_getF C (pc' := 13) (hw _ (List.mem_of_getElem? (i := 27) rfl)) F302 own_d7_10 rfl ?_
    refine own_dupX1 C (pc' := 14) own_d7_13 rfl rfl rfl ?_
    refine own_iconst C (pc' := 15) (v := (1 : Int32)) own_d7_14 rfl (by decide) ?_
    refine own_iadd C (pc' := 16) own_d7_15 rfl ?_
    refine own_putF C (pc' := 19) (hw _ (List.mem_of_getElem? (i := 27) rfl)) F302 F300 (Or.inl (hw _ (List.mem_of_getElem? (i := 28) rfl))) (hw _ (List.mem_of_getElem? (i := 12) rfl)) (ty := .int) (by decide) rfl rfl f1 own_d7_16 rfl (fun h305 W306 => ?_)
    have Z307 : n0 ≤ h305.size := Nat.le_trans Z298 (Nat.le_of_eq (Wr.size W306).symm)
    have K308 := Keep.wr K299 W306 (Or.inl (List.mem_of_getElem? (i := 0) rfl))
    have F309 : Exa Z h305 a "com/example/words_to_weights/wordstoweights/index/VarIntReader" := Exa.wr W306 F300
    have F310 : Fld Z h305 a "com/example/words_to_weights/wordstoweights/index/VarIntReader" "bytes" "[B" (.ref ar) := Fld.other W306 F301 (Or.inr (slot_ne (Or.inr (hw _ (List.mem_of_getElem? (i := 21) rfl))) (Or.inl (hw _ (List.mem_of_getElem? (i := 28) rfl))) (by decide) (t := (.array .byte)) (t' := .int) (by decide) (by decide)))
    have F311 : Fld Z h305 a "com/example/words_to_weights/wordstoweights/index/VarIntReader" "position" "I" (.int (((((p + (1 : Int32)) + (1 : Int32)) + (1 : Int32)) + (1 : Int32)) + (1 : Int32))) := Fld.same W306 F302
    have F312 : own_AB Z h305 ar n f := own_A.other F303 W306 (Ne.symm f2)
    refine own_ldB C (pc' := 20) F312 (i := (pn + 4)) hP4 (by omega) own_d7_19 rfl ?_
    refine own_istoreN C (pc' := 21) (Ls' := #[.val (.ref a), .val (.int (((((0 : Int32) ||| (((f (pn + 0)) &&& (127 : Int32)) <<< ((0 : Int32) &&& 31))) ||| (((f (pn + 1)) &&& (127 : Int32)) <<< ((7 : Int32) &&& 31))) ||| (((f (pn + 2)) &&& (127 : Int32)) <<< ((14 : Int32) &&& 31))) ||| (((f (pn + 3)) &&& (127 : Int32)) <<< ((21 : Int32) &&& 31)))), .val (.int (28 : Int32)), .val (.int (f (pn + 4)))]) own_d7_20 rfl rfl ?_
    refine own_iloadN C (pc' := 22) own_d7_21 rfl rfl ?_
    refine own_iloadN C (pc' := 23) own_d7_22 rfl rfl ?_
    refine own_bipush C (pc' := 25) (v := (127 : Int32)) own_d7_23 rfl (by decide) ?_
    refine own_iand C (pc' := 26) own_d7_25 rfl ?_
    refine own_iloadN C (pc' := 27) own_d7_26 rfl rfl ?_
    refine own_ishl C (pc' := 28) own_d7_27 rfl ?_
    refine own_ior C (pc' := 29) own_d7_28 rfl ?_
    refine own_istoreN C (pc' := 30) (Ls' := #[.val (.ref a), .val (.int ((((((0 : Int32) ||| (((f (pn + 0)) &&& (127 : Int32)) <<< ((0 : Int32) &&& 31))) ||| (((f (pn + 1)) &&& (127 : Int32)) <<< ((7 : Int32) &&& 31))) ||| (((f (pn + 2)) &&& (127 : Int32)) <<< ((14 : Int32) &&& 31))) ||| (((f (pn + 3)) &&& (127 : Int32)) <<< ((21 : Int32) &&& 31))) ||| (((f (pn + 4)) &&& (127 : Int32)) <<< ((28 : Int32) &&& 31)))), .val (.int (28 : Int32)), .val (.int (f (pn + 4)))]) own_d7_29 rfl rfl ?_
    refine own_iincV C (pc' := 33) (w := (7 : Int32)) (x := (35 : Int32)) (Ls' := #[.val (.ref a), .val (.int ((((((0 : Int32) ||| (((f (pn + 0)) &&& (127 : Int32)) <<< ((0 : Int32) &&& 31))) ||| (((f (pn + 1)) &&& (127 : Int32)) <<< ((7 : Int32) &&& 31))) ||| (((f (pn + 2)) &&& (127 : Int32)) <<< ((14 : Int32) &&& 31))) ||| (((f (pn + 3)) &&& (127 : Int32)) <<< ((21 : Int32) &&& 31))) ||| (((f (pn + 4)) &&& (127 : Int32)) <<< ((28 : Int32) &&& 31)))), .val (.int (35 : Int32)), .val (.int (f (pn + 4)))]) own_d7_30 rfl (by decide) (by decide) rfl rfl ?_
    refine own_iloadN C (pc' := 34) own_d7_33 rfl rfl ?_
    refine own_i0_lt C (pc1 := 4) (pc2 := 37) own_d7_34 rfl rfl (fun c313 => absurd c313 s4) (fun c313 => ?_)
    refine own_iloadN C (pc' := 38) own_d7_37 rfl rfl ?_
    exact own_ret C (t := .int) rfl rfl (Or.inl ⟨rfl, by simp, _, rfl⟩) own_d7_38 (by decide) (by decide) (⟨(((((p + (1 : Int32)) + (1 : Int32)) + (1 : Int32)) + (1 : Int32)) + (1 : Int32)), rfl, K308, F309, F310, F311, hP5⟩)
set_option maxRecDepth 65536 in
set_option maxHeartbeats 40000000 in
theorem own_law {l : Launch} {Z : State} {a0 : Array Value} (hw : ∀ d ∈ tables_1, d.before a0 Z = true) {n0 : Nat} {ws : List Jvm.Cond} {h : Heap} (p0 : Int32) (p1 : Int32) (Z0 : n0 ≤ h.size) :
    own_Met l Z n0 x code maxLocals ret room_1 ws #[(.int p0), (.int p1)] h (fun v h' => v = some (.int 1)) := by
  refine own_met own_pn0 #[.val (.int p0), .val (.int p1), .unset, .unset, .unset, .unset, .unset, .unset, .unset, .unset, .unset] (fun m => by first | (simp [entryFrame, mkF, argsToLocals, Value.category, maxLocals]; done) | rfl) ?_
  intro p_ e_ s_ m_ b_ mt_ c_ C
  replace C : own_Ctx p_ s_ m_ mt_ c_ Z "com/example/words_to_weights/wordstoweights/index/VarIntReaderReadPinLaw" "law" code maxLocals ret := C
  refine own_iloadN C (pc' := 1) at_0 rfl rfl ?_
  refine own_callS C (pc' := 4) (y := (⟨"com/example/words_to_weights/wordstoweights/index/VarIntReaderReadPinLaw", "len", "(I)I"⟩ : MethodName)) (argsL := [(.int p0)]) (rest := []) 0 (hw _ (List.mem_of_getElem? (i := 0) rfl)) (hw _ (List.mem_of_getElem? (i := 1) rfl)) (hw _ (List.mem_of_getElem? (i := 2) rfl)) (hw _ (List.mem_of_getElem? (i := 3) rfl)) (by decide) (own_m1 hw p0   ) (by decide) (by decide) (lenOf own_pd1 rfl) rfl (Nat.le_of_eq rfl) at_1 rfl rfl (by decide) (by decide) (fun v314 h315 hq316 => ?_)
  obtain ⟨y318, rfl, rfl, g317⟩ := hq316
  show own_Run p_ l e_ _ s_ m_ _ b_ mt_ c_ n0 _ h _ _ (mkF m_ 4 #[.val (.int p0), .val (.int p1), .unset, .unset, .unset, .unset, .unset, .unset, .unset, .unset, .unset] [(.int y318)])
  refine own_istoreN C (pc' := 5) (Ls' := #[.val (.int p0), .val (.int p1), .val (.int y318), .unset, .unset, .unset, .unset, .unset, .unset, .unset, .unset]) at_4 rfl rfl ?_
  obtain ⟨T2, hAT2, hBT2, hT2, hFT2⟩ := g317
  refine own_iloadN C (pc' := 6) at_5 rfl rfl ?_
  refine own_callS C (pc' := 9) (y := (⟨"com/example/words_to_weights/wordstoweights/index/VarIntReaderReadPinLaw", "len", "(I)I"⟩ : MethodName)) (argsL := [(.int p1)]) (rest := []) 0 (hw _ (List.mem_of_getElem? (i := 0) rfl)) (hw _ (List.mem_of_getElem? (i := 1) rfl)) (hw _ (List.mem_of_getElem? (i := 2) rfl)) (hw _ (List.mem_of_getElem? (i := 3) rfl)) (by decide) (own_m1 hw p1   ) (by decide) (by decide) (lenOf own_pd1 rfl) rfl (Nat.le_of_eq rfl) at_6 rfl rfl (by decide) (by decide) (fun v319 h320 hq321 => ?_)
  obtain ⟨y323, rfl, rfl, g322⟩ := hq321
  show own_Run p_ l e_ _ s_ m_ _ b_ mt_ c_ n0 _ h _ _ (mkF m_ 9 #[.val (.int p0), .val (.int p1), .val (.int y318), .unset, .unset, .unset, .unset, .unset, .unset, .unset, .unset] [(.int y323)])
  refine own_istoreN C (pc' := 10) (Ls' := #[.val (.int p0), .val (.int p1), .val (.int y318), .val (.int y323), .unset, .unset, .unset, .unset, .unset, .unset, .unset]) at_9 rfl rfl ?_
  obtain ⟨T3, hAT3, hBT3, hT3, hFT3⟩ := g322
  refine own_iloadN C (pc' := 11) at_10 rfl rfl ?_
  refine own_iloadN C (pc' := 12) at_11 rfl rfl ?_
  refine own_iadd C (pc' := 13) at_12 rfl ?_
  refine own_newAB C (pc' := 15) (hw _ (List.mem_of_getElem? (i := 4) rfl)) Z0 at_13 rfl (nn := (T2 + T3)) (cap := 10) (own_add hT2 hT3 (by omega)) (by omega) (by decide) (by decide) (by decide) (fun h324 a325 ea326 ga327 Z328 E329 V330 => ?_)
  refine own_astore C (pc' := 17) (Ls' := #[.val (.int p0), .val (.int p1), .val (.int y318), .val (.int y323), .val (.ref a325), .unset, .unset, .unset, .unset, .unset, .unset]) at_15 rfl rfl rfl ?_
  refine own_aload C (pc' := 19) at_17 rfl rfl rfl ?_
  refine own_iconst C (pc' := 20) (v := (0 : Int32)) at_19 rfl (by decide) ?_
  refine own_iloadN C (pc' := 21) at_20 rfl rfl ?_
  refine own_iloadN C (pc' := 22) at_21 rfl rfl ?_
  refine own_callS C (pc' := 25) (y := (⟨"com/example/words_to_weights/wordstoweights/index/VarIntReaderReadPinLaw", "put", "([BIII)V"⟩ : MethodName)) (argsL := [(.ref a325), (.int (0 : Int32)), (.int p0), (.int y318)]) (rest := []) 0 (hw _ (List.mem_of_getElem? (i := 5) rfl)) (hw _ (List.mem_of_getElem? (i := 6) rfl)) (hw _ (List.mem_of_getElem? (i := 2) rfl)) (hw _ (List.mem_of_getElem? (i := 7) rfl)) (by decide) (own_m2 hw a325 (T2 + T3) (fun _ => (0 : Int32)) (0 : Int32) 0 p0 y318 T2 Z328 ga327 V330 (by decide) hT2 (by omega) (by omega) (by omega)) (by decide) (by decide) (lenOf own_pd2 rfl) rfl (Nat.le_of_eq rfl) at_22 rfl rfl (by decide) (by decide) (fun v331 h332 hq333 => ?_)
  obtain ⟨y334, rfl, K335, F336, g337, g338⟩ := hq333
  have Z340 : n0 ≤ h332.size := Nat.le_trans Z328 K335.1
  show own_Run p_ l e_ _ s_ m_ _ b_ mt_ c_ n0 _ h332 _ _ (mkF m_ 25 #[.val (.int p0), .val (.int p1), .val (.int y318), .val (.int y323), .val (.ref a325), .unset, .unset, .unset, .unset, .unset, .unset] [])
  refine own_aload C (pc' := 27) at_25 rfl rfl rfl ?_
  refine own_iloadN C (pc' := 28) at_27 rfl rfl ?_
  refine own_iloadN C (pc' := 29) at_28 rfl rfl ?_
  refine own_iloadN C (pc' := 30) at_29 rfl rfl ?_
  refine own_callS C (pc' := 33) (y := (⟨"com/example/words_to_weights/wordstoweights/index/VarIntReaderReadPinLaw", "put", "([BIII)V"⟩ : MethodName)) (argsL := [(.ref a325), (.int y318), (.int p1), (.int y323)]) (rest := []) 0 (hw _ (List.mem_of_getElem? (i := 5) rfl)) (hw _ (List.mem_of_getElem? (i := 6) rfl)) (hw _ (List.mem_of_getElem? (i := 2) rfl)) (hw _ (List.mem_of_getElem? (i := 7) rfl)) (by decide) (own_m2 hw a325 (T2 + T3) y334 y318 T2 p1 y323 T3 Z340 ga327 F336 hT2 hT3 (by omega) (by omega) (by omega)) (by decide) (by decide) (lenOf own_pd2 rfl) rfl (Nat.le_of_eq rfl) at_30 rfl rfl (by decide) (by decide) (fun v341 h342 hq343 => ?_)
  obtain ⟨y344, rfl, K345, F346, g347, g348⟩ := hq343
  have Z350 : n0 ≤ h342.size := Nat.le_trans Z340 K345.1
  show own_Run p_ l e_ _ s_ m_ _ b_ mt_ c_ n0 _ h342 _ _ (mkF m_ 33 #[.val (.int p0), .val (.int p1), .val (.int y318), .val (.int y323), .val (.ref a325), .unset, .unset, .unset, .unset, .unset, .unset] [])
  have hv0 : ∀ i, i < T2 → y344 (0 + i) = own_gr p0 (Int32.ofNat (7 * i)) i T2 := fun i hi => by rw [g348 _ (Or.inl (by omega))]; exact g337 i hi
  have hv1 : ∀ i, i < T3 → y344 (T2 + i) = own_gr p1 (Int32.ofNat (7 * i)) i T3 := g347
  refine own_new C (pc' := 36) (hw _ (List.mem_of_getElem? (i := 11) rfl)) (hw _ (List.mem_of_getElem? (i := 12) rfl)) (hw _ (List.mem_of_getElem? (i := 13) rfl)) Z350 at_33 rfl (by decide) (by decide) (fun h351 a352 ea353 ga354 Z355 E356 A357 D358 => ?_)
  have ne359 : a325 ≠ a352 := by rw [ea353]; exact Nat.ne_of_lt (own_A.lt F346)
  have F360 : own_AB Z h351 a325 (T2 + T3) y344 := own_A.ext F346 E356
  have F361 : Fld Z h351 a352 "com/example/words_to_weights/wordstoweights/index/VarIntReader" "bytes" "[B" .null := D358 (Or.inr (hw _ (List.mem_of_getElem? (i := 21) rfl))) (ty := (.array .byte)) (by decide)
  have F362 : Fld Z h351 a352 "com/example/words_to_weights/wordstoweights/index/VarIntReader" "position" "I" (.int (0 : Int32)) := D358 (Or.inl (hw _ (List.mem_of_getElem? (i := 28) rfl))) (ty := .int) (by decide)
  refine own_dup C (pc' := 37) at_36 rfl rfl ?_
  refine own_aload C (pc' := 39) at_37 rfl rfl rfl ?_
  refine own_callN C (pc' := 42) (y := (⟨"com/example/words_to_weights/wordstoweights/index/VarIntReader", "<init>", "([B)V"⟩ : MethodName)) (a := a352) (argsL := [(.ref a325)]) (rest := [(.ref a352)]) 1 rfl (hw _ (List.mem_of_getElem? (i := 14) rfl)) (hw _ (List.mem_of_getElem? (i := 15) rfl)) (hw _ (List.mem_of_getElem? (i := 16) rfl)) (hw _ (List.mem_of_getElem? (i := 13) rfl)) (by decide) (own_m4 hw a352 a325 Z355 A357 ga354 F361 F362 ) (by decide) (by decide) (lenOf own_pd3 rfl) rfl (Nat.le_of_eq rfl) at_39 rfl rfl (by decide) (by decide) (fun v363 h364 hq365 => ?_)
  obtain ⟨rfl, K366, F367, F368, F369⟩ := hq365
  have Z371 : n0 ≤ h364.size := Nat.le_trans Z355 K366.1
  have F372 : own_AB Z h364 a325 (T2 + T3) y344 := own_A.keep F360 K366 (ninS ne359 nin0)
  have F373 : Exa Z h364 a352 "com/example/words_to_weights/wordstoweights/index/VarIntReader" := Exa.keep A357 K366
  show own_Run p_ l e_ _ s_ m_ _ b_ mt_ c_ n0 _ h364 _ _ (mkF m_ 42 #[.val (.int p0), .val (.int p1), .val (.int y318), .val (.int y323), .val (.ref a325), .unset, .unset, .unset, .unset, .unset, .unset] [(.ref a352)])
  refine own_astore C (pc' := 44) (Ls' := #[.val (.int p0), .val (.int p1), .val (.int y318), .val (.int y323), .val (.ref a325), .val (.ref a352), .unset, .unset, .unset, .unset, .unset]) at_42 rfl rfl rfl ?_
  refine own_aload C (pc' := 46) at_44 rfl rfl rfl ?_
  refine own_callV C (pc' := 49) (y := (⟨"com/example/words_to_weights/wordstoweights/index/VarIntReader", "atEnd", "()Z"⟩ : MethodName)) (a := a352) (argsL := []) (rest := []) 0 F367 (hw _ (List.mem_of_getElem? (i := 22) rfl)) (hw _ (List.mem_of_getElem? (i := 23) rfl)) (hw _ (List.mem_of_getElem? (i := 25) rfl)) (hw _ (List.mem_of_getElem? (i := 24) rfl)) (hw _ (List.mem_of_getElem? (i := 26) rfl)) (hw _ (List.mem_of_getElem? (i := 13) rfl)) (by decide) (own_m6 hw a352 a325 (T2 + T3) y344 (0 : Int32) (0 : Int32) Z371 F369 F368 F372 (if_neg (by rw [← Int32.toInt_inj, own_z, own_ti (by omega)] <;> omega))) (by decide) (by decide) (lenOf own_pd4 rfl) rfl (Nat.le_of_eq rfl) at_46 rfl rfl (by decide) (by decide) (fun v374 h375 hq376 => ?_)
  obtain ⟨rfl, rfl⟩ := hq376
  show own_Run p_ l e_ _ s_ m_ _ b_ mt_ c_ n0 _ h364 _ _ (mkF m_ 49 #[.val (.int p0), .val (.int p1), .val (.int y318), .val (.int y323), .val (.ref a325), .val (.ref a352), .unset, .unset, .unset, .unset, .unset] [(.int (0 : Int32))])
  refine own_istore C (pc' := 51) (Ls' := #[.val (.int p0), .val (.int p1), .val (.int y318), .val (.int y323), .val (.ref a325), .val (.ref a352), .val (.int (0 : Int32)), .unset, .unset, .unset, .unset]) at_49 rfl rfl ?_
  refine own_aload C (pc' := 53) at_51 rfl rfl rfl ?_
  refine own_callV C (pc' := 56) (y := (⟨"com/example/words_to_weights/wordstoweights/index/VarIntReader", "read", "()I"⟩ : MethodName)) (a := a352) (argsL := []) (rest := []) 0 F367 (hw _ (List.mem_of_getElem? (i := 29) rfl)) (hw _ (List.mem_of_getElem? (i := 30) rfl)) (hw _ (List.mem_of_getElem? (i := 32) rfl)) (hw _ (List.mem_of_getElem? (i := 31) rfl)) (hw _ (List.mem_of_getElem? (i := 33) rfl)) (hw _ (List.mem_of_getElem? (i := 13) rfl)) (by decide) (own_m7 hw a352 a325 (T2 + T3) y344 (0 : Int32) 0 T2 Z371 F367 ga354 (Ne.symm ne359) F368 F369 F372 (by decide) (by omega) (by omega) (by omega) (fun i hi => by rw [hv0 i (by omega)]; exact own_gr_neg hi) (by rw [hv0 _ (by omega)]; exact own_gr_pos (by omega))) (by decide) (by decide) (lenOf own_pd5 rfl) rfl (Nat.le_of_eq rfl) at_53 rfl rfl (by decide) (by decide) (fun v377 h378 hq379 => ?_)
  obtain ⟨y380, rfl, K381, F382, F383, F384, g385⟩ := hq379
  have Z387 : n0 ≤ h378.size := Nat.le_trans Z371 K381.1
  have F388 : own_AB Z h378 a325 (T2 + T3) y344 := own_A.keep F372 K381 (ninS ne359 nin0)
  have F389 : Exa Z h378 a352 "com/example/words_to_weights/wordstoweights/index/VarIntReader" := Exa.keep F367 K381
  show own_Run p_ l e_ _ s_ m_ _ b_ mt_ c_ n0 _ h378 _ _ (mkF m_ 56 #[.val (.int p0), .val (.int p1), .val (.int y318), .val (.int y323), .val (.ref a325), .val (.ref a352), .val (.int (0 : Int32)), .unset, .unset, .unset, .unset] [(.int (own_rdv y344 0 T2))])
  have g390 : y380.toInt = ((T2 : Nat) : Int) := by have q := g385; rw [Nat.zero_add] at q; exact q
  refine own_istore C (pc' := 58) (Ls' := #[.val (.int p0), .val (.int p1), .val (.int y318), .val (.int y323), .val (.ref a325), .val (.ref a352), .val (.int (0 : Int32)), .val (.int (own_rdv y344 0 T2)), .unset, .unset, .unset]) at_56 rfl rfl ?_
  refine own_aload C (pc' := 60) at_58 rfl rfl rfl ?_
  refine own_callV C (pc' := 63) (y := (⟨"com/example/words_to_weights/wordstoweights/index/VarIntReader", "atEnd", "()Z"⟩ : MethodName)) (a := a352) (argsL := []) (rest := []) 0 F382 (hw _ (List.mem_of_getElem? (i := 22) rfl)) (hw _ (List.mem_of_getElem? (i := 23) rfl)) (hw _ (List.mem_of_getElem? (i := 25) rfl)) (hw _ (List.mem_of_getElem? (i := 24) rfl)) (hw _ (List.mem_of_getElem? (i := 26) rfl)) (hw _ (List.mem_of_getElem? (i := 13) rfl)) (by decide) (own_m6 hw a352 a325 (T2 + T3) y344 y380 (0 : Int32) Z387 F384 F383 F388 (if_neg (by rw [← Int32.toInt_inj, g390, own_ti (by omega)] <;> omega))) (by decide) (by decide) (lenOf own_pd4 rfl) rfl (Nat.le_of_eq rfl) at_60 rfl rfl (by decide) (by decide) (fun v391 h392 hq393 => ?_)
  obtain ⟨rfl, rfl⟩ := hq393
  show own_Run p_ l e_ _ s_ m_ _ b_ mt_ c_ n0 _ h378 _ _ (mkF m_ 63 #[.val (.int p0), .val (.int p1), .val (.int y318), .val (.int y323), .val (.ref a325), .val (.ref a352), .val (.int (0 : Int32)), .val (.int (own_rdv y344 0 T2)), .unset, .unset, .unset] [(.int (0 : Int32))])
  refine own_istore C (pc' := 65) (Ls' := #[.val (.int p0), .val (.int p1), .val (.int y318), .val (.int y323), .val (.ref a325), .val (.ref a352), .val (.int (0 : Int32)), .val (.int (own_rdv y344 0 T2)), .val (.int (0 : Int32)), .unset, .unset]) at_63 rfl rfl ?_
  refine own_aload C (pc' := 67) at_65 rfl rfl rfl ?_
  refine own_callV C (pc' := 70) (y := (⟨"com/example/words_to_weights/wordstoweights/index/VarIntReader", "read", "()I"⟩ : MethodName)) (a := a352) (argsL := []) (rest := []) 0 F382 (hw _ (List.mem_of_getElem? (i := 29) rfl)) (hw _ (List.mem_of_getElem? (i := 30) rfl)) (hw _ (List.mem_of_getElem? (i := 32) rfl)) (hw _ (List.mem_of_getElem? (i := 31) rfl)) (hw _ (List.mem_of_getElem? (i := 33) rfl)) (hw _ (List.mem_of_getElem? (i := 13) rfl)) (by decide) (own_m7 hw a352 a325 (T2 + T3) y344 y380 T2 T3 Z387 F382 ga354 (Ne.symm ne359) F383 F384 F388 g390 (by omega) (by omega) (by omega) (fun i hi => by rw [hv1 i (by omega)]; exact own_gr_neg hi) (by rw [hv1 _ (by omega)]; exact own_gr_pos (by omega))) (by decide) (by decide) (lenOf own_pd5 rfl) rfl (Nat.le_of_eq rfl) at_67 rfl rfl (by decide) (by decide) (fun v394 h395 hq396 => ?_)
  obtain ⟨y397, rfl, K398, F399, F400, F401, g402⟩ := hq396
  have Z404 : n0 ≤ h395.size := Nat.le_trans Z387 K398.1
  have F405 : own_AB Z h395 a325 (T2 + T3) y344 := own_A.keep F388 K398 (ninS ne359 nin0)
  have F406 : Exa Z h395 a352 "com/example/words_to_weights/wordstoweights/index/VarIntReader" := Exa.keep F382 K398
  show own_Run p_ l e_ _ s_ m_ _ b_ mt_ c_ n0 _ h395 _ _ (mkF m_ 70 #[.val (.int p0), .val (.int p1), .val (.int y318), .val (.int y323), .val (.ref a325), .val (.ref a352), .val (.int (0 : Int32)), .val (.int (own_rdv y344 0 T2)), .val (.int (0 : Int32)), .unset, .unset] [(.int (own_rdv y344 T2 T3))])
  refine own_istore C (pc' := 72) (Ls' := #[.val (.int p0), .val (.int p1), .val (.int y318), .val (.int y323), .val (.ref a325), .val (.ref a352), .val (.int (0 : Int32)), .val (.int (own_rdv y344 0 T2)), .val (.int (0 : Int32)), .val (.int (own_rdv y344 T2 T3)), .unset]) at_70 rfl rfl ?_
  refine own_aload C (pc' := 74) at_72 rfl rfl rfl ?_
  refine own_callV C (pc' := 77) (y := (⟨"com/example/words_to_weights/wordstoweights/index/VarIntReader", "atEnd", "()Z"⟩ : MethodName)) (a := a352) (argsL := []) (rest := []) 0 F399 (hw _ (List.mem_of_getElem? (i := 22) rfl)) (hw _ (List.mem_of_getElem? (i := 23) rfl)) (hw _ (List.mem_of_getElem? (i := 25) rfl)) (hw _ (List.mem_of_getElem? (i := 24) rfl)) (hw _ (List.mem_of_getElem? (i := 26) rfl)) (hw _ (List.mem_of_getElem? (i := 13) rfl)) (by decide) (own_m6 hw a352 a325 (T2 + T3) y344 y397 (1 : Int32) Z404 F401 F400 F405 (if_pos (by rw [← Int32.toInt_inj, g402, own_ti (by omega)] <;> omega))) (by decide) (by decide) (lenOf own_pd4 rfl) rfl (Nat.le_of_eq rfl) at_74 rfl rfl (by decide) (by decide) (fun v407 h408 hq409 => ?_)
  obtain ⟨rfl, rfl⟩ := hq409
  show own_Run p_ l e_ _ s_ m_ _ b_ mt_ c_ n0 _ h395 _ _ (mkF m_ 77 #[.val (.int p0), .val (.int p1), .val (.int y318), .val (.int y323), .val (.ref a325), .val (.ref a352), .val (.int (0 : Int32)), .val (.int (own_rdv y344 0 T2)), .val (.int (0 : Int32)), .val (.int (own_rdv y344 T2 T3)), .unset] [(.int (1 : Int32))])
  refine own_istore C (pc' := 79) (Ls' := #[.val (.int p0), .val (.int p1), .val (.int y318), .val (.int y323), .val (.ref a325), .val (.ref a352), .val (.int (0 : Int32)), .val (.int (own_rdv y344 0 T2)), .val (.int (0 : Int32)), .val (.int (own_rdv y344 T2 T3)), .val (.int (1 : Int32))]) at_77 rfl rfl ?_
  refine own_iload C (pc' := 81) at_79 rfl rfl ?_
  refine own_i0_ne C (pc1 := 110) (pc2 := 84) at_81 rfl rfl (fun c410 => absurd c410 (by decide)) (fun c410 => ?_)
  refine own_iload C (pc' := 86) at_84 rfl rfl ?_
  refine own_iloadN C (pc' := 87) at_86 rfl rfl ?_
  refine own_ii_ne C (pc1 := 110) (pc2 := 90) at_87 rfl rfl (fun c411 => absurd c411 (not_not_intro (own_dec hAT2 hBT2 hFT2 hv0))) (fun c411 => ?_)
  refine own_iload C (pc' := 92) at_90 rfl rfl ?_
  refine own_i0_ne C (pc1 := 110) (pc2 := 95) at_92 rfl rfl (fun c412 => absurd c412 (by decide)) (fun c412 => ?_)
  refine own_iload C (pc' := 97) at_95 rfl rfl ?_
  refine own_iloadN C (pc' := 98) at_97 rfl rfl ?_
  refine own_ii_ne C (pc1 := 110) (pc2 := 101) at_98 rfl rfl (fun c413 => absurd c413 (not_not_intro (own_dec hAT3 hBT3 hFT3 hv1))) (fun c413 => ?_)
  refine own_iload C (pc' := 103) at_101 rfl rfl ?_
  refine own_i0_eq C (pc1 := 110) (pc2 := 106) at_103 rfl rfl (fun c414 => absurd c414 (by decide)) (fun c414 => ?_)
  refine own_iconst C (pc' := 107) (v := (1 : Int32)) at_106 rfl (by decide) ?_
  refine own_goto C (pc' := 111) at_107 rfl ?_
  exact own_ret C (t := .boolean) rfl rfl (Or.inl ⟨rfl, by simp, _, rfl⟩) at_111 (by decide) (by decide) (rfl)
set_option maxRecDepth 65536 in
set_option maxHeartbeats 40000000 in
theorem own_comes {Post : Tables → Env → Array Value → State → Outcome → State → Prop} (hpost : ∀ tb e args s v u, (limb_1_1.after args s (.returned v) u = true ∧ limb_1_2.after args s (.returned v) u = true ∧ True) → FrameEnd s (.returned v) u (Jvm.fieldLocs frame_1_writes args s ++ Jvm.arrayLocs frame_1_arrays args s ++ Jvm.staticLocs frame_1_statics s) 16 128 → Post tb e args s (.returned v) u) :
    ArmFor flags0 classFile x code maxLocals ret World_1 tables_1 room_1 Calls_1 rest_1 Pre_1 Post := by
  intro l hfl _ _ p e ha hc hk s m args below hf hA hF happ hP
  obtain ⟨hcalls, hrest, hpre⟩ := hP
  obtain ⟨-, -, -, hnamed, -, -, -, hat⟩ := (Spec.applies_iff hf).mp happ
  obtain ⟨hg, hn⟩ := and_e (Cond.before_iff.mp (show (Jvm.Cond.and given_1 narrow_1).before args s = true from hpre))
  obtain ⟨g0, r0⟩ := and_e hg
  obtain ⟨q0, r1⟩ := and_e r0
  obtain ⟨w0, w1, rfl⟩ : ∃ w0 w1 : Value, args = #[w0, w1] := by
    have hs : args.size = 2 := by simpa [Cond.value, given_1] using g0
    obtain ⟨L⟩ := args
    match L, hs with
    | [w0, w1], _ => exact ⟨w0, w1, rfl⟩
  have hw := fun d (hd : d ∈ tables_1) => atoms_spec (ws := Jvm.Cond.code x code maxLocals ret :: tables_1) hat d (List.mem_cons_of_mem _ hd)
  obtain ⟨i0, ei0⟩ := is_v q0
  obtain rfl : w0 = (.int i0) := Option.some.inj ei0
  obtain ⟨i1, ei1⟩ := is_v r1
  obtain rfl : w1 = (.int i1) := Option.some.inj ei1
  obtain ⟨n, o, h1, h2, h3, _, L, rfl, ⟨N, rfl⟩, hq⟩ := own_law (l := l) (Z := s) hw (n0 := s.heap.size) (ws := tables_1) (h := s.heap) i0 i1 (Nat.le_refl _)  p e ha hc hk s m _ below hf ((Spec.applies_iff_loose hf).mp happ).1 ⟨rfl, State.Warmed39.refl s, rfl⟩ trivial
  refine ⟨n, _, h1, h2, h3, hpost _ _ _ _ _ _ ⟨Cond.after_iff.mpr rfl, Cond.after_iff.mpr (eq_i res_at (Term.int_eval (1)) rfl), trivial⟩ ⟨hq.1, hq.2.1, (hq.2.2.sift fun y hy => Or.inr (N y hy)).mono (by decide) (by decide)⟩⟩
theorem main_1_1 : Claimed_1_1 := own_comes fun _ _ _ _ _ _ h hF => ⟨h.1, hF⟩
theorem main_1_2 : Claimed_1_2 := own_comes fun _ _ _ _ _ _ h hF => ⟨h.2.1, hF⟩
end Jvm.Pilot.@@N@@
namespace Jvm.Pilot.@@N@@
open Jvm Jvm.ClassFile Sem Op Lib Jvm.Free Jvm.Stand Jvm.Pilot.@@N@@.Jvm.D
/-! MADE BY PROGRAM (witnessworld.py) out of the Statement's table words and the real class files: 9 classes; the members and pool entries that the words name. The judged class is class 1, her method 4. -/
namespace start1
open Jvm.ClassFile
def u (s : String) : CpInfo := .utf8 (stringToUtf16 s)
/-- a pool by its gaps: so many unusable entries, then the entry; so many at the end -/
def gap : Nat → List CpInfo → List CpInfo
  | 0, r => r
  | n + 1, r => .unusable :: gap n r
def poolList (es : List (Nat × CpInfo)) (last : Nat) : List CpInfo := es.foldr (fun e r => gap e.1 (e.2 :: r)) (gap last [])
def pool (es : List (Nat × CpInfo)) (last : Nat) : Array CpInfo := ⟨poolList es last⟩
def fileOf (pool : Array CpInfo) (this : Nat) (attrs : Array Attribute := #[]) (ms : Array MethodInfo := #[]) (fl : Nat := 33) (sup : Nat := 0) (ifs : Array Nat := #[]) (fds : Array FieldInfo := #[]) : ClassFile where
  minorVersion := 0
  majorVersion := 65
  constantPool := pool
  accessFlags := fl
  thisClass := this
  superClass := sup
  interfaces := ifs
  fields := fds
  methods := ms
  attributes := attrs
def plain (name : String) (sup : Option ClassId) : Class where
  name := name
  kind := .ordinary
  loader := none
  accessFlags := 33
  super := sup
  interfaces := #[]
  cf := none
  fields := #[]
  methods := #[]
  instanceTypes := #[]
  staticTypes := #[]
  resolved := #[]
  callSites := []
  init := .initialized
  statics := none
  mirror := none

def pool0 : Array CpInfo := pool [(5, u "<init>"), (0, u "()V"), (1, .class_ 10), (1, u "java/lang/Object")] 113

def k0c0 : Code := { maxStack := 0, maxLocals := 1, code := object_method_1_code, exceptionTable := #[], attributes := #[] }
def k0m0 : Method := { name := "<init>", desc := "()V", sig := { parameters := [], returnType := none }, accessFlags := 1, code := some k0c0 }
/-- java/lang/Object -/
def k0 : Class := { plain "java/lang/Object" none with
  accessFlags := 33
  interfaces := #[]
  cf := some (fileOf pool0 8 #[] #[{ accessFlags := 1, nameIndex := 5, descriptorIndex := 6, attributes := #[] }] 33 0 #[] #[])
  fields := #[]
  methods := #[k0m0]
  instanceTypes := #[]
  staticTypes := #[]
  resolved := Array.replicate 124 none
  statics := none }

def pool1 : Array CpInfo := pool [(2, .class_ 4), (1, u "java/lang/Object"), (0, u "<init>"), (0, u "()V"), (0, .methodref 8 9), (0, .class_ 10), (0, .nameAndType 11 12), (0, u "com/example/words_to_weights/wordstoweights/index/VarIntReaderReadPinLaw"), (0, u "group"), (0, u "(III)B"), (0, .methodref 8 14), (0, .nameAndType 15 16), (0, u "len"), (0, u "(I)I"), (0, .methodref 8 18), (0, .nameAndType 19 20), (0, u "put"), (0, u "([BIII)V"), (0, .class_ 22), (0, u "com/example/words_to_weights/wordstoweights/index/VarIntReader"), (0, .methodref 21 24), (0, .nameAndType 5 25), (0, u "([B)V"), (0, .methodref 21 27), (0, .nameAndType 28 29), (0, u "atEnd"), (0, u "()Z"), (0, .methodref 21 31), (0, .nameAndType 32 33), (0, u "read"), (0, u "()I"), (3, u "law"), (0, u "(II)Z")] 4

def k1m0 : Method := { name := "<init>", desc := "()V", sig := { parameters := [], returnType := none }, accessFlags := 1, code := none }
def k1c1 : Code := { maxStack := 2, maxLocals := 1, code := method_2_code, exceptionTable := #[], attributes := #[] }
def k1m1 : Method := { name := "len", desc := "(I)I", sig := { parameters := [.int], returnType := some .int }, accessFlags := 10, code := some k1c1 }
def k1c2 : Code := { maxStack := 3, maxLocals := 4, code := method_3_code, exceptionTable := #[], attributes := #[] }
def k1m2 : Method := { name := "group", desc := "(III)B", sig := { parameters := [.int, .int, .int], returnType := some .byte }, accessFlags := 10, code := some k1c2 }
def k1c3 : Code := { maxStack := 5, maxLocals := 4, code := method_4_code, exceptionTable := #[], attributes := #[] }
def k1m3 : Method := { name := "put", desc := "([BIII)V", sig := { parameters := [(.array .byte), .int, .int, .int], returnType := none }, accessFlags := 10, code := some k1c3 }
def k1c4 : Code := { maxStack := 4, maxLocals := 11, code := code, exceptionTable := #[], attributes := #[] }
def k1m4 : Method := { name := "law", desc := "(II)Z", sig := { parameters := [.int, .int], returnType := some .boolean }, accessFlags := 9, code := some k1c4 }
/-- com/example/words_to_weights/wordstoweights/index/VarIntReaderReadPinLaw -/
def k1 : Class := { plain "com/example/words_to_weights/wordstoweights/index/VarIntReaderReadPinLaw" (some 0) with
  accessFlags := 49
  interfaces := #[]
  cf := some (fileOf pool1 8 #[] #[{ accessFlags := 1, nameIndex := 5, descriptorIndex := 6, attributes := #[] }, { accessFlags := 10, nameIndex := 15, descriptorIndex := 16, attributes := #[] }, { accessFlags := 10, nameIndex := 11, descriptorIndex := 12, attributes := #[] }, { accessFlags := 10, nameIndex := 19, descriptorIndex := 20, attributes := #[] }, { accessFlags := 9, nameIndex := 37, descriptorIndex := 38, attributes := #[] }] 49 2 #[] #[])
  fields := #[]
  methods := #[k1m0, k1m1, k1m2, k1m3, k1m4]
  instanceTypes := #[]
  staticTypes := #[]
  resolved := Array.replicate 43 none
  statics := none }

def pool2 : Array CpInfo := pool [(1, .methodref 2 3), (0, .class_ 4), (0, .nameAndType 5 6), (0, u "java/lang/Object"), (0, u "<init>"), (0, u "()V"), (0, .fieldref 8 9), (0, .class_ 10), (0, .nameAndType 11 12), (0, u "com/example/words_to_weights/wordstoweights/index/VarIntReader"), (0, u "bytes"), (0, u "[B"), (0, .fieldref 8 14), (0, .nameAndType 15 16), (0, u "position"), (0, u "I"), (0, u "([B)V"), (2, u "atEnd"), (0, u "()Z"), (1, u "read"), (0, u "()I")] 2

def k2c0 : Code := { maxStack := 2, maxLocals := 2, code := prog_17_method_1_code, exceptionTable := #[], attributes := #[] }
def k2m0 : Method := { name := "<init>", desc := "([B)V", sig := { parameters := [(.array .byte)], returnType := none }, accessFlags := 0, code := some k2c0 }
def k2c1 : Code := { maxStack := 2, maxLocals := 1, code := prog_17_method_2_code, exceptionTable := #[], attributes := #[] }
def k2m1 : Method := { name := "atEnd", desc := "()Z", sig := { parameters := [], returnType := some .boolean }, accessFlags := 0, code := some k2c1 }
def k2c2 : Code := { maxStack := 5, maxLocals := 4, code := prog_17_method_3_code, exceptionTable := #[], attributes := #[] }
def k2m2 : Method := { name := "read", desc := "()I", sig := { parameters := [], returnType := some .int }, accessFlags := 0, code := some k2c2 }
/-- com/example/words_to_weights/wordstoweights/index/VarIntReader -/
def k2 : Class := { plain "com/example/words_to_weights/wordstoweights/index/VarIntReader" (some 0) with
  accessFlags := 32
  interfaces := #[]
  cf := some (fileOf pool2 8 #[] #[{ accessFlags := 0, nameIndex := 5, descriptorIndex := 17, attributes := #[] }, { accessFlags := 0, nameIndex := 20, descriptorIndex := 21, attributes := #[] }, { accessFlags := 0, nameIndex := 23, descriptorIndex := 24, attributes := #[] }] 32 2 #[] #[{ accessFlags := 18, nameIndex := 11, descriptorIndex := 12, attributes := #[] }, { accessFlags := 2, nameIndex := 15, descriptorIndex := 16, attributes := #[] }])
  fields := #[{ name := "bytes", type := (.array .byte), accessFlags := 18, slot := 0, constantValue := 0 }, { name := "position", type := .int, accessFlags := 2, slot := 1, constantValue := 0 }]
  methods := #[k2m0, k2m1, k2m2]
  instanceTypes := #[(.array .byte), .int]
  staticTypes := #[]
  resolved := Array.replicate 27 none
  statics := none }

def pool3 : Array CpInfo := pool [(1, u "java/lang/Cloneable"), (0, .class_ 1), (0, u "java/lang/Object"), (0, .class_ 3)] 3

/-- java/lang/Cloneable -/
def k3 : Class := { plain "java/lang/Cloneable" (some 0) with
  accessFlags := 1537
  interfaces := #[]
  cf := some (fileOf pool3 2 #[] #[] 1537 4 #[] #[])
  fields := #[]
  methods := #[]
  instanceTypes := #[]
  staticTypes := #[]
  resolved := Array.replicate 8 none
  statics := none }

def pool4 : Array CpInfo := pool [(1, u "java/io/Serializable"), (0, .class_ 1), (0, u "java/lang/Object"), (0, .class_ 3)] 3

/-- java/io/Serializable -/
def k4 : Class := { plain "java/io/Serializable" (some 0) with
  accessFlags := 1537
  interfaces := #[]
  cf := some (fileOf pool4 2 #[] #[] 1537 4 #[] #[])
  fields := #[]
  methods := #[]
  instanceTypes := #[]
  staticTypes := #[]
  resolved := Array.replicate 8 none
  statics := none }

/-- the primitive byte -/
def k5 : Class := { plain "byte" none with kind := .primitive 'B', accessFlags := 0x411 }
/-- [B -/
def k6 : Class := { plain "[B" (some 0) with kind := .array 5 .byte, interfaces := #[3, 4], accessFlags := 1041 }

/-- the primitive int -/
def k7 : Class := { plain "int" none with kind := .primitive 'I', accessFlags := 0x411 }
/-- [I -/
def k8 : Class := { plain "[I" (some 0) with kind := .array 7 .int, interfaces := #[3, 4], accessFlags := 1041 }

def heap : Heap := #[]
def classes : Array Class := #[k0, k1, k2, k3, k4, k5, k6, k7, k8]
def interned : List (Array UInt16 × Addr) := []
def slotsUsed : Nat := 0
def theMethod : MethodId := ⟨1, 4⟩
def args0 : Array Value := #[.int 5, .int 700]
def aboutOver (below : List Frame) : State where
  vm := { classes := classes, interned := interned.toArray }
  heap := heap
  slotsUsed := slotsUsed
  threads := #[{ frames := .invoking theMethod args0 :: below }]
def below0 : List Frame := [.native { method := ⟨0, 0⟩, args := #[] }]
def about1 : State := aboutOver below0
def p0 : Program := .bare "" "" ""
def e0 : Env := launch0.env 0 0 0
theorem w_frames : about1.frames = Frame.invoking theMethod args0 :: below0 := rfl
set_option maxRecDepth 65536 in
theorem w_args : argsFit about1.vm theMethod args0 = true := by decide +kernel
set_option maxRecDepth 65536 in
theorem w_heap : heapFits about1 = true := by decide +kernel
set_option maxRecDepth 65536 in
theorem w_runnable : about1.curStatus? = some .runnable := by decide +kernel
set_option maxRecDepth 65536 in
theorem w_alone : about1.alone = true := by decide +kernel
set_option maxRecDepth 65536 in
theorem w_named : about1.methodNamed? x = some theMethod := by decide +kernel
set_option maxRecDepth 65536 in
theorem w_hears : about1.hears theMethod below0 = true := by decide +kernel
set_option maxRecDepth 65536 in
theorem w_ripe : about1.ripe theMethod args0 below0 = true := by decide +kernel
theorem w_running : about1.status = .running := rfl
set_option maxRecDepth 65536 in
theorem w_room : about1.hasRoom e0.platform room_1 = true :=
  launch0.hasRoom_least _ room_1 (by decide +kernel) (by decide +kernel) (by decide +kernel) (by decide +kernel) (by decide +kernel) (by decide +kernel)
theorem allAtoms_all (ts : List Jvm.Cond) (a : Array Jvm.Value) (st : Jvm.State) : (allAtoms ts).before a st = ts.all (fun c => c.before a st) := by
  induction ts with
  | nil => rfl
  | cons c t ih =>
    show (Jvm.Cond.and c (allAtoms t)).before a st = _
    rw [Jvm.Cond.before_and, ih, List.all_cons]
def words1 : List Jvm.Cond := Jvm.Cond.code x code maxLocals ret :: tables_1
/-- a 'code' word, met by the world's own term for the bytes: nothing is compared byte by byte -/
theorem code_word {y : MethodName} {bytes : ByteArray} {mx : Nat} {rt : Option FieldType} {a : Array Value} {s : State} {m : MethodId} {meth : Method} {c : Code} (h1 : s.methodNamed? y = some m) (h2 : s.vm.method? m = some meth) (h3 : meth.code = some c) (h4 : c.code = bytes)
    (h5 : (c.maxLocals == mx && c.exceptionTable.isEmpty && decide (c.maxStack ≤ mostOperands) && decide (meth.sig.returnType = rt) && !meth.locks && decide (parseMethodDescriptor y.desc = some meth.sig)) = true) : (Jvm.Cond.code y bytes mx rt).before a s = true := by
  simp only [Bool.and_eq_true, beq_iff_eq, Bool.not_eq_true', decide_eq_true_eq] at h5
  obtain ⟨⟨⟨⟨⟨g1, g2⟩, g3⟩, g4⟩, g5⟩, g6⟩ := h5
  simp [Cond.before, Cond.holds, Cond.value, h1, h2, h3, h4, g1, g2, g3, g4, g5, g6]
def isCode : Jvm.Cond → Bool
  | .code _ _ _ _ => true
  | _ => false
theorem all_split {L : List Jvm.Cond} {P : Jvm.Cond → Bool} (h1 : L.all (fun c => isCode c || P c) = true) (h2 : ∀ c ∈ L.filter isCode, P c = true) : L.all P = true := by
  refine List.all_eq_true.mpr fun c hc => ?_
  have h := List.all_eq_true.mp h1 c hc
  rcases Bool.eq_false_or_eq_true (isCode c) with hi | hi
  · exact h2 c (List.mem_filter.mpr ⟨hc, hi⟩)
  · simpa [hi] using h
set_option maxRecDepth 65536 in
theorem w_c0 : (Jvm.Cond.code x code maxLocals ret).before args0 about1 = true := code_word (m := ⟨1, 4⟩) (meth := k1m4) (c := k1c4) (by decide +kernel) rfl rfl rfl (by decide +kernel)
set_option maxRecDepth 65536 in
theorem w_c1 : (Jvm.Cond.code ({ cls := "com/example/words_to_weights/wordstoweights/index/VarIntReaderReadPinLaw", name := "len", desc := "(I)I" } : Jvm.MethodName) method_2_code (1 : Nat) (Option.some Jvm.ClassFile.FieldType.int)).before args0 about1 = true := code_word (m := ⟨1, 1⟩) (meth := k1m1) (c := k1c1) (by decide +kernel) rfl rfl rfl (by decide +kernel)
set_option maxRecDepth 65536 in
theorem w_c2 : (Jvm.Cond.code ({ cls := "com/example/words_to_weights/wordstoweights/index/VarIntReaderReadPinLaw", name := "put", desc := "([BIII)V" } : Jvm.MethodName) method_4_code (4 : Nat) (Option.none : Option Jvm.ClassFile.FieldType)).before args0 about1 = true := code_word (m := ⟨1, 3⟩) (meth := k1m3) (c := k1c3) (by decide +kernel) rfl rfl rfl (by decide +kernel)
set_option maxRecDepth 65536 in
theorem w_c3 : (Jvm.Cond.code ({ cls := "com/example/words_to_weights/wordstoweights/index/VarIntReaderReadPinLaw", name := "group", desc := "(III)B" } : Jvm.MethodName) method_3_code (4 : Nat) (Option.some Jvm.ClassFile.FieldType.byte)).before args0 about1 = true := code_word (m := ⟨1, 2⟩) (meth := k1m2) (c := k1c2) (by decide +kernel) rfl rfl rfl (by decide +kernel)
set_option maxRecDepth 65536 in
theorem w_c4 : (Jvm.Cond.code ({ cls := "com/example/words_to_weights/wordstoweights/index/VarIntReader", name := "<init>", desc := "([B)V" } : Jvm.MethodName) prog_17_method_1_code (2 : Nat) (Option.none : Option Jvm.ClassFile.FieldType)).before args0 about1 = true := code_word (m := ⟨2, 0⟩) (meth := k2m0) (c := k2c0) (by decide +kernel) rfl rfl rfl (by decide +kernel)
set_option maxRecDepth 65536 in
theorem w_c5 : (Jvm.Cond.code ({ cls := "java/lang/Object", name := "<init>", desc := "()V" } : Jvm.MethodName) object_method_1_code (1 : Nat) (Option.none : Option Jvm.ClassFile.FieldType)).before args0 about1 = true := code_word (m := ⟨0, 0⟩) (meth := k0m0) (c := k0c0) (by decide +kernel) rfl rfl rfl (by decide +kernel)
set_option maxRecDepth 65536 in
theorem w_c6 : (Jvm.Cond.code ({ cls := "com/example/words_to_weights/wordstoweights/index/VarIntReader", name := "atEnd", desc := "()Z" } : Jvm.MethodName) prog_17_method_2_code (1 : Nat) (Option.some Jvm.ClassFile.FieldType.boolean)).before args0 about1 = true := code_word (m := ⟨2, 1⟩) (meth := k2m1) (c := k2c1) (by decide +kernel) rfl rfl rfl (by decide +kernel)
set_option maxRecDepth 65536 in
theorem w_c7 : (Jvm.Cond.code ({ cls := "com/example/words_to_weights/wordstoweights/index/VarIntReader", name := "read", desc := "()I" } : Jvm.MethodName) prog_17_method_3_code (4 : Nat) (Option.some Jvm.ClassFile.FieldType.int)).before args0 about1 = true := code_word (m := ⟨2, 2⟩) (meth := k2m2) (c := k2c2) (by decide +kernel) rfl rfl rfl (by decide +kernel)
def codes1 : List Jvm.Cond := [Jvm.Cond.code x code maxLocals ret, Jvm.Cond.code ({ cls := "com/example/words_to_weights/wordstoweights/index/VarIntReaderReadPinLaw", name := "len", desc := "(I)I" } : Jvm.MethodName) method_2_code (1 : Nat) (Option.some Jvm.ClassFile.FieldType.int), Jvm.Cond.code ({ cls := "com/example/words_to_weights/wordstoweights/index/VarIntReaderReadPinLaw", name := "put", desc := "([BIII)V" } : Jvm.MethodName) method_4_code (4 : Nat) (Option.none : Option Jvm.ClassFile.FieldType), Jvm.Cond.code ({ cls := "com/example/words_to_weights/wordstoweights/index/VarIntReaderReadPinLaw", name := "group", desc := "(III)B" } : Jvm.MethodName) method_3_code (4 : Nat) (Option.some Jvm.ClassFile.FieldType.byte), Jvm.Cond.code ({ cls := "com/example/words_to_weights/wordstoweights/index/VarIntReader", name := "<init>", desc := "([B)V" } : Jvm.MethodName) prog_17_method_1_code (2 : Nat) (Option.none : Option Jvm.ClassFile.FieldType), Jvm.Cond.code ({ cls := "java/lang/Object", name := "<init>", desc := "()V" } : Jvm.MethodName) object_method_1_code (1 : Nat) (Option.none : Option Jvm.ClassFile.FieldType), Jvm.Cond.code ({ cls := "com/example/words_to_weights/wordstoweights/index/VarIntReader", name := "atEnd", desc := "()Z" } : Jvm.MethodName) prog_17_method_2_code (1 : Nat) (Option.some Jvm.ClassFile.FieldType.boolean), Jvm.Cond.code ({ cls := "com/example/words_to_weights/wordstoweights/index/VarIntReader", name := "read", desc := "()I" } : Jvm.MethodName) prog_17_method_3_code (4 : Nat) (Option.some Jvm.ClassFile.FieldType.int)]
set_option maxRecDepth 65536 in
theorem codes_eq : words1.filter isCode = codes1 := rfl
theorem w_codes : ∀ c ∈ words1.filter isCode, c.before args0 about1 = true := by
  rw [codes_eq]
  intro c hc
  simp only [codes1, List.mem_cons, List.not_mem_nil, or_false] at hc
  rcases hc with rfl | rfl | rfl | rfl | rfl | rfl | rfl | rfl
  · exact w_c0
  · exact w_c1
  · exact w_c2
  · exact w_c3
  · exact w_c4
  · exact w_c5
  · exact w_c6
  · exact w_c7
set_option maxRecDepth 65536 in
theorem w_t1 : (words1.take 24).all (fun c => isCode c || c.before args0 about1) = true := by decide +kernel
set_option maxRecDepth 65536 in
theorem w_t2 : (words1.drop 24).all (fun c => isCode c || c.before args0 about1) = true := by decide +kernel
theorem w_tables : (allAtoms (Jvm.Cond.code x code maxLocals ret :: tables_1)).before args0 about1 = true := by
  rw [allAtoms_all]
  show words1.all (fun c => c.before args0 about1) = true
  refine all_split ?_ w_codes
  rw [← List.take_append_drop 24 words1, List.all_append, w_t1, w_t2]
  rfl
set_option maxRecDepth 65536 in
theorem w_case : (Jvm.Cond.and given_1 narrow_1).before args0 about1 = true := by decide +kernel
theorem w_applies : (headSpec (Jvm.Cond.code x code maxLocals ret :: tables_1) room_1).applies x e0.platform about1 = true :=
  (Spec.applies_iff w_frames).mpr ⟨w_running, w_runnable, w_alone, w_named, w_hears, w_ripe, w_room, w_tables⟩
theorem atStart : AtStart classFile x code maxLocals ret World_1 tables_1 room_1 Calls_1 rest_1 Pre_1 launch0 p0 e0 about1 theMethod args0 below0 :=
  ⟨lists_1, trivial, launch0.admits_env _ _ _, launch0.least_env, fairChoices_fair.cas, fairChoices_fair.clock, w_frames, w_args, w_heap, w_applies, trivial, trivial, w_case⟩
end start1
theorem witness_1 : WitnessClaimed_1 := ⟨start1.p0, start1.e0, start1.about1, start1.theMethod, start1.args0, start1.below0, start1.atStart⟩
end Jvm.Pilot.@@N@@
