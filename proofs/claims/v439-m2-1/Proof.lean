import JvmDerived
import JvmDerived.Pilot.@@N@@Statement
import JvmDerived.Pilot.@@N@@Code
set_option linter.unusedVariables false
set_option linter.unusedSimpArgs false
namespace Jvm.Pilot.@@N@@
open Jvm Jvm.ClassFile Sem Op Lib Jvm.Free Jvm.Stand Jvm.LawKit Jvm.RoadKit Bundle Jvm.Pilot.@@N@@.Jvm.D
section Own
variable {p : Program} {l : Launch} {e : Env} {R : Room} {s : State} {m : MethodId} {args : Array Value} {below : List Frame} {meth : Method} {c : Code} {Z : State} {a0 : Array Value} {n0 : Nat} {Q : Option Value → Heap → Prop} {Kf : State → Outcome → Prop} {h : Heap} {k q : Nat} {own nm : String} {bytes : ByteArray} {maxL : Nat} {ret : Option FieldType} {pc pc' pc1 pc2 : Nat} {Ls Ls' : Array Slot} {rest : List Value}
/-- how a run of the body ends: it returns, nothing old is written, and Q holds of what is returned and of the heap -/
def own_K (below : List Frame) (R : Room) (s : State) (n0 : Nat) (Q : Option Value → Heap → Prop) (t : State) (o : Outcome) : Prop :=
  t.status = .running ∧ Ended t below o ∧ ∃ v L, o = .returned v ∧ (Fr n0 L ∧ Q v t.heap) ∧ FrameEnd s o t L R.cells R.slots
/-- from the frame g, with the heap h, k cells and q slots made so far: the run ends as own_K says -/
def own_Run (p : Program) (l : Launch) (e : Env) (R : Room) (s : State) (m : MethodId) (args : Array Value) (below : List Frame) (meth : Method) (c : Code) (n0 : Nat) (Kf : State → Outcome → Prop) (h : Heap) (k q : Nat) (g : JFrame) : Prop :=
  ∀ (T : State) (locs : List Loc), Stand p l e R s m args below meth c T locs k q → T.heap = h → Fr n0 locs → ∃ t o, Steps p.tables e below (T.setTop g) t ∧ Kf t o
/-- what stands fast through a body -/
def own_Ctx (p : Program) (s : State) (m : MethodId) (meth : Method) (c : Code) (Z : State) (own nm : String) (bytes : ByteArray) (maxL : Nat) (ret : Option FieldType) : Prop :=
  p.tables.exec = Jvm.exec ∧ Z.Warmed39 s.vm ∧ s.vm.findClass own = some m.cls ∧ c.code = bytes ∧ c.maxLocals = maxL ∧ meth.sig.returnType = ret ∧ meth.locks = false ∧ meth.name = nm
theorem own_Ctx.g_x (C : own_Ctx p s m meth c Z own nm bytes maxL ret) : p.tables.exec = Jvm.exec := C.1
theorem own_Ctx.g_z (C : own_Ctx p s m meth c Z own nm bytes maxL ret) : Z.Warmed39 s.vm := C.2.1
theorem own_Ctx.g_own (C : own_Ctx p s m meth c Z own nm bytes maxL ret) : s.vm.findClass own = some m.cls := C.2.2.1
theorem own_Ctx.g_by (C : own_Ctx p s m meth c Z own nm bytes maxL ret) : c.code = bytes := C.2.2.2.1
theorem own_Ctx.g_ml (C : own_Ctx p s m meth c Z own nm bytes maxL ret) : c.maxLocals = maxL := C.2.2.2.2.1
theorem own_Ctx.g_rt (C : own_Ctx p s m meth c Z own nm bytes maxL ret) : meth.sig.returnType = ret := C.2.2.2.2.2.1
theorem own_Ctx.g_lk (C : own_Ctx p s m meth c Z own nm bytes maxL ret) : meth.locks = false := C.2.2.2.2.2.2.1
theorem own_Ctx.g_nm (C : own_Ctx p s m meth c Z own nm bytes maxL ret) : meth.name = nm := C.2.2.2.2.2.2.2
/-- a method's contract: called with these arguments at the heap h, it returns as Q says -/
def own_Met (l : Launch) (Z : State) (n0 : Nat) (y : MethodName) (bytes : ByteArray) (maxL : Nat) (ret : Option FieldType) (rm : Room) (ws : List Jvm.Cond) (as' : Array Value) (h : Heap) (Q : Option Value → Heap → Prop) : Prop :=
  MetFree l y (head1 (Jvm.Cond.code y bytes maxL ret :: ws) rm) (fun a U => a = as' ∧ Z.Warmed39 U.vm ∧ U.heap = h) (fun _ _ _ _ _ => True) (fun _ U o U' => ∃ v L, o = .returned v ∧ (Fr n0 L ∧ Q v U'.heap) ∧ FrameEnd U o U' L rm.cells rm.slots)
theorem own_met {y : MethodName} {rm : Room} {ws : List Jvm.Cond} {as' : Array Value} (hn : plainName y.cls = true) (Ls : Array Slot) (hef : ∀ m : MethodId, entryFrame m as' maxL = mkF m 0 Ls [])
    (body : ∀ (p : Program) (e : Env) (s : State) (m : MethodId) (below : List Frame) (meth : Method) (c : Code), own_Ctx p s m meth c Z y.cls y.name bytes maxL ret → own_Run p l e rm s m as' below meth c n0 (own_K below rm s n0 Q) h 0 0 (mkF m 0 Ls [])) :
    own_Met l Z n0 y bytes maxL ret rm ws as' h Q := by
  refine MetFree.of_bodySF (plainFor_of_name hn) hisR ?_
  intro p e s m args below meth c s₁ Bd hml0 hP hK
  obtain ⟨rfl, hZ, hh⟩ := hP
  have C : own_Ctx p s m meth c Z y.cls y.name bytes maxL ret := ⟨Bd.exec, hZ, findClass_of_methodNamed Bd.named, Bd.bytes, hml0, Bd.returns, BodyLoose.notSynchronized Bd, (name_of_methodNamed Bd.named Bd.method).1⟩
  obtain ⟨t, o, h1, h2, h3, h4⟩ := body p e s m below meth c C s₁ [] (Stand.of_body Bd) (by rw [← hh, Bd.state]; rfl) (Fr.nil n0)
  exact ⟨t, o, castTop (hef m) h1, h2, h3, h4⟩
theorem own_st {g g' : JFrame} (h1 : ∀ (T : State) (locs : List Loc), Stand p l e R s m args below meth c T locs k q → T.heap = h → ∀ target, Steps p.tables e below (T.setTop g') target → Steps p.tables e below (T.setTop g) target) (r : own_Run p l e R s m args below meth c n0 Kf h k q g') : own_Run p l e R s m args below meth c n0 Kf h k q g := fun T locs X eT N => by
  obtain ⟨t, o, h2, h3⟩ := r T locs X eT N
  exact ⟨t, o, h1 T locs X eT t h2, h3⟩
theorem own_more {k' q' : Nat} {g : JFrame} (hk : k ≤ k') (hq : q ≤ q') (r : own_Run p l e R s m args below meth c n0 Kf h k' q' g) : own_Run p l e R s m args below meth c n0 Kf h k q g := fun T locs X eT N => r T locs (X.more hk hq) eT N
theorem own_iloadN (C : own_Ctx p s m meth c Z own nm bytes maxL ret) {i : Fin 4} {v : Int32} (hd : decode bytes pc = .ok (.iload_n i, 1)) (hp : pc + 1 = pc') (hl : Ls[i.val]? = some (.val (.int v))) (r : own_Run p l e R s m args below meth c n0 Kf h k q (mkF m pc' Ls (.int v :: rest))) : own_Run p l e R s m args below meth c n0 Kf h k q (mkF m pc Ls (rest)) :=
  own_st (fun T locs X eT t kk => by subst hp; exact Jvm.Free.XS.iloadN X.here C.g_x rfl (hb C.g_by hd) hl kk) r
theorem own_iload (C : own_Ctx p s m meth c Z own nm bytes maxL ret) {i : Nat} {v : Int32} (hd : decode bytes pc = .ok (.iload i, 2)) (hp : pc + 2 = pc') (hl : Ls[i]? = some (.val (.int v))) (r : own_Run p l e R s m args below meth c n0 Kf h k q (mkF m pc' Ls (.int v :: rest))) : own_Run p l e R s m args below meth c n0 Kf h k q (mkF m pc Ls (rest)) :=
  own_st (fun T locs X eT t kk => by subst hp; exact Jvm.Free.XS.iload X.here C.g_x rfl (hb C.g_by hd) hl kk) r
theorem own_lloadN (C : own_Ctx p s m meth c Z own nm bytes maxL ret) {i : Fin 4} {v : Int64} (hd : decode bytes pc = .ok (.lload_n i, 1)) (hp : pc + 1 = pc') (hl : Ls[i.val]? = some (.val (.long v))) (r : own_Run p l e R s m args below meth c n0 Kf h k q (mkF m pc' Ls (.long v :: rest))) : own_Run p l e R s m args below meth c n0 Kf h k q (mkF m pc Ls (rest)) :=
  own_st (fun T locs X eT t kk => by subst hp; exact Jvm.Free.XT.lloadN X.here C.g_x rfl (hb C.g_by hd) hl kk) r
theorem own_lload (C : own_Ctx p s m meth c Z own nm bytes maxL ret) {i : Nat} {v : Int64} (hd : decode bytes pc = .ok (.lload i, 2)) (hp : pc + 2 = pc') (hl : Ls[i]? = some (.val (.long v))) (r : own_Run p l e R s m args below meth c n0 Kf h k q (mkF m pc' Ls (.long v :: rest))) : own_Run p l e R s m args below meth c n0 Kf h k q (mkF m pc Ls (rest)) :=
  own_st (fun T locs X eT t kk => by subst hp; exact Jvm.Free.XT.lload X.here C.g_x rfl (hb C.g_by hd) hl kk) r
theorem own_aloadN (C : own_Ctx p s m meth c Z own nm bytes maxL ret) {i : Fin 4} {v : Value} (hd : decode bytes pc = .ok (.aload_n i, 1)) (hp : pc + 1 = pc') (hl : Ls[i.val]? = some (.val v)) (hv : v.isRef = true) (r : own_Run p l e R s m args below meth c n0 Kf h k q (mkF m pc' Ls (v :: rest))) : own_Run p l e R s m args below meth c n0 Kf h k q (mkF m pc Ls (rest)) :=
  own_st (fun T locs X eT t kk => by subst hp; exact Jvm.Free.XS.aloadN X.here C.g_x rfl (hb C.g_by hd) hl hv kk) r
theorem own_aload (C : own_Ctx p s m meth c Z own nm bytes maxL ret) {i : Nat} {v : Value} (hd : decode bytes pc = .ok (.aload i, 2)) (hp : pc + 2 = pc') (hl : Ls[i]? = some (.val v)) (hv : v.isRef = true) (r : own_Run p l e R s m args below meth c n0 Kf h k q (mkF m pc' Ls (v :: rest))) : own_Run p l e R s m args below meth c n0 Kf h k q (mkF m pc Ls (rest)) :=
  own_st (fun T locs X eT t kk => by subst hp; exact Jvm.Free.XS.aload X.here C.g_x rfl (hb C.g_by hd) hl hv kk) r
theorem own_istoreN (C : own_Ctx p s m meth c Z own nm bytes maxL ret) {i : Fin 4} {v : Int32} (hd : decode bytes pc = .ok (.istore_n i, 1)) (hp : pc + 1 = pc') (hl : storeLocals Ls i.val (.int v) = some Ls') (r : own_Run p l e R s m args below meth c n0 Kf h k q (mkF m pc' Ls' (rest))) : own_Run p l e R s m args below meth c n0 Kf h k q (mkF m pc Ls (.int v :: rest)) :=
  own_st (fun T locs X eT t kk => by subst hp; exact Jvm.Free.XS.istoreN X.here C.g_x rfl (hb C.g_by hd) rfl hl kk) r
theorem own_istore (C : own_Ctx p s m meth c Z own nm bytes maxL ret) {i : Nat} {v : Int32} (hd : decode bytes pc = .ok (.istore i, 2)) (hp : pc + 2 = pc') (hl : storeLocals Ls i (.int v) = some Ls') (r : own_Run p l e R s m args below meth c n0 Kf h k q (mkF m pc' Ls' (rest))) : own_Run p l e R s m args below meth c n0 Kf h k q (mkF m pc Ls (.int v :: rest)) :=
  own_st (fun T locs X eT t kk => by subst hp; exact Jvm.Free.XS.istore X.here C.g_x rfl (hb C.g_by hd) rfl hl kk) r
theorem own_lstoreN (C : own_Ctx p s m meth c Z own nm bytes maxL ret) {i : Fin 4} {v : Int64} (hd : decode bytes pc = .ok (.lstore_n i, 1)) (hp : pc + 1 = pc') (hl : storeLocals Ls i.val (.long v) = some Ls') (r : own_Run p l e R s m args below meth c n0 Kf h k q (mkF m pc' Ls' (rest))) : own_Run p l e R s m args below meth c n0 Kf h k q (mkF m pc Ls (.long v :: rest)) :=
  own_st (fun T locs X eT t kk => by subst hp; exact Jvm.Free.XT.lstoreN X.here C.g_x rfl (hb C.g_by hd) rfl hl kk) r
theorem own_lstore (C : own_Ctx p s m meth c Z own nm bytes maxL ret) {i : Nat} {v : Int64} (hd : decode bytes pc = .ok (.lstore i, 2)) (hp : pc + 2 = pc') (hl : storeLocals Ls i (.long v) = some Ls') (r : own_Run p l e R s m args below meth c n0 Kf h k q (mkF m pc' Ls' (rest))) : own_Run p l e R s m args below meth c n0 Kf h k q (mkF m pc Ls (.long v :: rest)) :=
  own_st (fun T locs X eT t kk => by subst hp; exact Jvm.Free.XT.lstore X.here C.g_x rfl (hb C.g_by hd) rfl hl kk) r
theorem own_astoreN (C : own_Ctx p s m meth c Z own nm bytes maxL ret) {i : Fin 4} {v : Value} (hd : decode bytes pc = .ok (.astore_n i, 1)) (hp : pc + 1 = pc') (hv : v.isRef = true) (hl : storeLocals Ls i.val v = some Ls') (r : own_Run p l e R s m args below meth c n0 Kf h k q (mkF m pc' Ls' (rest))) : own_Run p l e R s m args below meth c n0 Kf h k q (mkF m pc Ls (v :: rest)) :=
  own_st (fun T locs X eT t kk => by subst hp; exact Jvm.Free.XS.astoreN X.here C.g_x rfl (hb C.g_by hd) rfl hv hl kk) r
theorem own_astore (C : own_Ctx p s m meth c Z own nm bytes maxL ret) {i : Nat} {v : Value} (hd : decode bytes pc = .ok (.astore i, 2)) (hp : pc + 2 = pc') (hv : v.isRef = true) (hl : storeLocals Ls i v = some Ls') (r : own_Run p l e R s m args below meth c n0 Kf h k q (mkF m pc' Ls' (rest))) : own_Run p l e R s m args below meth c n0 Kf h k q (mkF m pc Ls (v :: rest)) :=
  own_st (fun T locs X eT t kk => by subst hp; exact Jvm.Free.XS.astore X.here C.g_x rfl (hb C.g_by hd) rfl hv hl kk) r
theorem own_iinc (C : own_Ctx p s m meth c Z own nm bytes maxL ret) {i : Nat} {cst : Int} {v w : Int32} (hd : decode bytes pc = .ok (.iinc i cst, 3)) (hp : pc + 3 = pc') (hv : Int32.ofInt cst = w) (hl : Ls[i]? = some (.val (.int v))) (hl' : storeLocals Ls i (.int (v + w)) = some Ls') (r : own_Run p l e R s m args below meth c n0 Kf h k q (mkF m pc' Ls' (rest))) : own_Run p l e R s m args below meth c n0 Kf h k q (mkF m pc Ls (rest)) :=
  own_st (fun T locs X eT t kk => by subst hp; exact Jvm.Free.XT.iincV X.here C.g_x rfl w (hb C.g_by hd) hv hl hl' kk) r
theorem own_iincV (C : own_Ctx p s m meth c Z own nm bytes maxL ret) {i : Nat} {cst : Int} {v w x : Int32} (hd : decode bytes pc = .ok (.iinc i cst, 3)) (hp : pc + 3 = pc') (hv : Int32.ofInt cst = w) (hs : v + w = x) (hl : Ls[i]? = some (.val (.int v))) (hl' : storeLocals Ls i (.int x) = some Ls') (r : own_Run p l e R s m args below meth c n0 Kf h k q (mkF m pc' Ls' (rest))) : own_Run p l e R s m args below meth c n0 Kf h k q (mkF m pc Ls (rest)) :=
  own_st (fun T locs X eT t kk => by subst hp; exact Jvm.Free.XT.iincV X.here C.g_x rfl w (hb C.g_by hd) hv hl (by rw [hs]; exact hl') kk) r
theorem own_iconst (C : own_Ctx p s m meth c Z own nm bytes maxL ret) {i : Int} {v : Int32} (hd : decode bytes pc = .ok (.iconst i, 1)) (hp : pc + 1 = pc') (hv : Int32.ofInt i = v) (r : own_Run p l e R s m args below meth c n0 Kf h k q (mkF m pc' Ls (.int v :: rest))) : own_Run p l e R s m args below meth c n0 Kf h k q (mkF m pc Ls (rest)) :=
  own_st (fun T locs X eT t kk => by subst hp; exact Jvm.Free.XT.iconstV X.here C.g_x rfl v (hb C.g_by hd) hv kk) r
theorem own_bipush (C : own_Ctx p s m meth c Z own nm bytes maxL ret) {i : Int} {v : Int32} (hd : decode bytes pc = .ok (.bipush i, 2)) (hp : pc + 2 = pc') (hv : (Int8.ofInt i).toInt32 = v) (r : own_Run p l e R s m args below meth c n0 Kf h k q (mkF m pc' Ls (.int v :: rest))) : own_Run p l e R s m args below meth c n0 Kf h k q (mkF m pc Ls (rest)) :=
  own_st (fun T locs X eT t kk => by subst hp; exact Jvm.Free.XT.bipushV X.here C.g_x rfl v (hb C.g_by hd) hv kk) r
theorem own_sipush (C : own_Ctx p s m meth c Z own nm bytes maxL ret) {i : Int} {v : Int32} (hd : decode bytes pc = .ok (.sipush i, 3)) (hp : pc + 3 = pc') (hv : (Int16.ofInt i).toInt32 = v) (r : own_Run p l e R s m args below meth c n0 Kf h k q (mkF m pc' Ls (.int v :: rest))) : own_Run p l e R s m args below meth c n0 Kf h k q (mkF m pc Ls (rest)) :=
  own_st (fun T locs X eT t kk => by subst hp; exact Jvm.Free.XT.sipushV X.here C.g_x rfl v (hb C.g_by hd) hv kk) r
theorem own_lconst (C : own_Ctx p s m meth c Z own nm bytes maxL ret) {i : Fin 2} {v : Int64} (hd : decode bytes pc = .ok (.lconst i, 1)) (hp : pc + 1 = pc') (hv : Int64.ofNat i = v) (r : own_Run p l e R s m args below meth c n0 Kf h k q (mkF m pc' Ls (.long v :: rest))) : own_Run p l e R s m args below meth c n0 Kf h k q (mkF m pc Ls (rest)) :=
  own_st (fun T locs X eT t kk => by subst hp; exact Jvm.Free.XT.lconstV X.here C.g_x rfl v (hb C.g_by hd) hv kk) r
theorem own_aconst (C : own_Ctx p s m meth c Z own nm bytes maxL ret)  (hd : decode bytes pc = .ok (.aconst_null, 1)) (hp : pc + 1 = pc')  (r : own_Run p l e R s m args below meth c n0 Kf h k q (mkF m pc' Ls (.null :: rest))) : own_Run p l e R s m args below meth c n0 Kf h k q (mkF m pc Ls (rest)) :=
  own_st (fun T locs X eT t kk => by subst hp; exact Jvm.Free.XS.aconstNull X.here C.g_x rfl (hb C.g_by hd) kk) r
theorem own_ldc (C : own_Ctx p s m meth c Z own nm bytes maxL ret) {i : Nat} {v : Int32} (hd : decode bytes pc = .ok (.ldc i, 2)) (hp : pc + 2 = pc') (hc : (Jvm.Cond.constant own i v).before a0 Z = true) (r : own_Run p l e R s m args below meth c n0 Kf h k q (mkF m pc' Ls (.int v :: rest))) : own_Run p l e R s m args below meth c n0 Kf h k q (mkF m pc Ls (rest)) :=
  own_st (fun T locs X eT t kk => by subst hp; exact X.ldcI C.g_x C.g_own (mvT C.g_z hc) rfl (hb C.g_by hd) kk) r
theorem own_ldc2 (C : own_Ctx p s m meth c Z own nm bytes maxL ret) {i : Nat} {v : Int64} (hd : decode bytes pc = .ok (.ldc2_w i, 3)) (hp : pc + 3 = pc') (hc : (Jvm.Cond.constantLong own i v).before a0 Z = true) (r : own_Run p l e R s m args below meth c n0 Kf h k q (mkF m pc' Ls (.long v :: rest))) : own_Run p l e R s m args below meth c n0 Kf h k q (mkF m pc Ls (rest)) :=
  own_st (fun T locs X eT t kk => by subst hp; exact X.ldc2J C.g_x C.g_own (mvT C.g_z hc) rfl (hb C.g_by hd) kk) r
theorem own_dup (C : own_Ctx p s m meth c Z own nm bytes maxL ret) {v : Value} (hd : decode bytes pc = .ok (.dup, 1)) (hp : pc + 1 = pc') (hc : v.category = 1) (r : own_Run p l e R s m args below meth c n0 Kf h k q (mkF m pc' Ls (v :: v :: rest))) : own_Run p l e R s m args below meth c n0 Kf h k q (mkF m pc Ls (v :: rest)) :=
  own_st (fun T locs X eT t kk => by subst hp; exact Jvm.Free.XS.dup X.here C.g_x rfl (hb C.g_by hd) rfl hc kk) r
theorem own_pop (C : own_Ctx p s m meth c Z own nm bytes maxL ret) {v : Value} (hd : decode bytes pc = .ok (.pop, 1)) (hp : pc + 1 = pc') (hc : v.category = 1) (r : own_Run p l e R s m args below meth c n0 Kf h k q (mkF m pc' Ls (rest))) : own_Run p l e R s m args below meth c n0 Kf h k q (mkF m pc Ls (v :: rest)) :=
  own_st (fun T locs X eT t kk => by subst hp; exact Jvm.Free.XT.pop X.here C.g_x rfl (hb C.g_by hd) rfl hc kk) r
theorem own_dupX1 (C : own_Ctx p s m meth c Z own nm bytes maxL ret) {v w : Value} (hd : decode bytes pc = .ok (.dup_x1, 1)) (hp : pc + 1 = pc') (hc : v.category = 1) (hc' : w.category = 1) (r : own_Run p l e R s m args below meth c n0 Kf h k q (mkF m pc' Ls (v :: w :: v :: rest))) : own_Run p l e R s m args below meth c n0 Kf h k q (mkF m pc Ls (v :: w :: rest)) :=
  own_st (fun T locs X eT t kk => by subst hp; exact Jvm.Free.XT.dupX1 X.here C.g_x rfl (hb C.g_by hd) rfl hc hc' kk) r
theorem own_dup2 (C : own_Ctx p s m meth c Z own nm bytes maxL ret) {v w : Value} (hd : decode bytes pc = .ok (.dup2, 1)) (hp : pc + 1 = pc') (hc : v.category = 1) (hc' : w.category = 1) (r : own_Run p l e R s m args below meth c n0 Kf h k q (mkF m pc' Ls (v :: w :: v :: w :: rest))) : own_Run p l e R s m args below meth c n0 Kf h k q (mkF m pc Ls (v :: w :: rest)) :=
  own_st (fun T locs X eT t kk => by subst hp; exact Jvm.Free.XT.dup2 X.here C.g_x rfl (hb C.g_by hd) rfl hc hc' kk) r
theorem own_iadd (C : own_Ctx p s m meth c Z own nm bytes maxL ret) {x y : Int32} (hd : decode bytes pc = .ok (.iadd, 1)) (hp : pc + 1 = pc')  (r : own_Run p l e R s m args below meth c n0 Kf h k q (mkF m pc' Ls (.int (x + y) :: rest))) : own_Run p l e R s m args below meth c n0 Kf h k q (mkF m pc Ls (.int y :: .int x :: rest)) :=
  own_st (fun T locs X eT t kk => by subst hp; exact Jvm.Free.XS.iadd X.here C.g_x rfl (hb C.g_by hd) rfl kk) r
theorem own_isub (C : own_Ctx p s m meth c Z own nm bytes maxL ret) {x y : Int32} (hd : decode bytes pc = .ok (.isub, 1)) (hp : pc + 1 = pc')  (r : own_Run p l e R s m args below meth c n0 Kf h k q (mkF m pc' Ls (.int (x - y) :: rest))) : own_Run p l e R s m args below meth c n0 Kf h k q (mkF m pc Ls (.int y :: .int x :: rest)) :=
  own_st (fun T locs X eT t kk => by subst hp; exact Jvm.Free.XS.isub X.here C.g_x rfl (hb C.g_by hd) rfl kk) r
theorem own_iand (C : own_Ctx p s m meth c Z own nm bytes maxL ret) {x y : Int32} (hd : decode bytes pc = .ok (.iand, 1)) (hp : pc + 1 = pc')  (r : own_Run p l e R s m args below meth c n0 Kf h k q (mkF m pc' Ls (.int (x &&& y) :: rest))) : own_Run p l e R s m args below meth c n0 Kf h k q (mkF m pc Ls (.int y :: .int x :: rest)) :=
  own_st (fun T locs X eT t kk => by subst hp; exact Jvm.Free.XS.iand X.here C.g_x rfl (hb C.g_by hd) rfl kk) r
theorem own_imul (C : own_Ctx p s m meth c Z own nm bytes maxL ret) {x y : Int32} (hd : decode bytes pc = .ok (.imul, 1)) (hp : pc + 1 = pc')  (r : own_Run p l e R s m args below meth c n0 Kf h k q (mkF m pc' Ls (.int (x * y) :: rest))) : own_Run p l e R s m args below meth c n0 Kf h k q (mkF m pc Ls (.int y :: .int x :: rest)) :=
  own_st (fun T locs X eT t kk => by subst hp; exact Jvm.Free.XS.imul X.here C.g_x rfl (hb C.g_by hd) rfl kk) r
theorem own_ior (C : own_Ctx p s m meth c Z own nm bytes maxL ret) {x y : Int32} (hd : decode bytes pc = .ok (.ior, 1)) (hp : pc + 1 = pc')  (r : own_Run p l e R s m args below meth c n0 Kf h k q (mkF m pc' Ls (.int (x ||| y) :: rest))) : own_Run p l e R s m args below meth c n0 Kf h k q (mkF m pc Ls (.int y :: .int x :: rest)) :=
  own_st (fun T locs X eT t kk => by subst hp; exact Jvm.Free.XT.ior X.here C.g_x rfl (hb C.g_by hd) rfl kk) r
theorem own_ixor (C : own_Ctx p s m meth c Z own nm bytes maxL ret) {x y : Int32} (hd : decode bytes pc = .ok (.ixor, 1)) (hp : pc + 1 = pc')  (r : own_Run p l e R s m args below meth c n0 Kf h k q (mkF m pc' Ls (.int (x ^^^ y) :: rest))) : own_Run p l e R s m args below meth c n0 Kf h k q (mkF m pc Ls (.int y :: .int x :: rest)) :=
  own_st (fun T locs X eT t kk => by subst hp; exact Jvm.Free.XT.ixor X.here C.g_x rfl (hb C.g_by hd) rfl kk) r
theorem own_ishl (C : own_Ctx p s m meth c Z own nm bytes maxL ret) {x y : Int32} (hd : decode bytes pc = .ok (.ishl, 1)) (hp : pc + 1 = pc')  (r : own_Run p l e R s m args below meth c n0 Kf h k q (mkF m pc' Ls (.int (x <<< (y &&& 31)) :: rest))) : own_Run p l e R s m args below meth c n0 Kf h k q (mkF m pc Ls (.int y :: .int x :: rest)) :=
  own_st (fun T locs X eT t kk => by subst hp; exact Jvm.Free.XT.ishl X.here C.g_x rfl (hb C.g_by hd) rfl kk) r
theorem own_ishr (C : own_Ctx p s m meth c Z own nm bytes maxL ret) {x y : Int32} (hd : decode bytes pc = .ok (.ishr, 1)) (hp : pc + 1 = pc')  (r : own_Run p l e R s m args below meth c n0 Kf h k q (mkF m pc' Ls (.int (x >>> (y &&& 31)) :: rest))) : own_Run p l e R s m args below meth c n0 Kf h k q (mkF m pc Ls (.int y :: .int x :: rest)) :=
  own_st (fun T locs X eT t kk => by subst hp; exact Jvm.Free.XT.ishr X.here C.g_x rfl (hb C.g_by hd) rfl kk) r
theorem own_iushr (C : own_Ctx p s m meth c Z own nm bytes maxL ret) {x y : Int32} (hd : decode bytes pc = .ok (.iushr, 1)) (hp : pc + 1 = pc')  (r : own_Run p l e R s m args below meth c n0 Kf h k q (mkF m pc' Ls (.int (Jvm.Free.XT.ushr x y) :: rest))) : own_Run p l e R s m args below meth c n0 Kf h k q (mkF m pc Ls (.int y :: .int x :: rest)) :=
  own_st (fun T locs X eT t kk => by subst hp; exact Jvm.Free.XT.iushr X.here C.g_x rfl (hb C.g_by hd) rfl kk) r
theorem own_irem (C : own_Ctx p s m meth c Z own nm bytes maxL ret) {x y : Int32} (hd : decode bytes pc = .ok (.irem, 1)) (hp : pc + 1 = pc') (hy : y ≠ 0) (r : own_Run p l e R s m args below meth c n0 Kf h k q (mkF m pc' Ls (.int (x % y) :: rest))) : own_Run p l e R s m args below meth c n0 Kf h k q (mkF m pc Ls (.int y :: .int x :: rest)) :=
  own_st (fun T locs X eT t kk => by subst hp; exact iremM X C.g_x rfl (hb C.g_by hd) rfl hy kk) r
theorem own_idivV (C : own_Ctx p s m meth c Z own nm bytes maxL ret) {x y v : Int32} (hd : decode bytes pc = .ok (.idiv, 1)) (hp : pc + 1 = pc') (hy : y ≠ 0) (hv : x / y = v) (r : own_Run p l e R s m args below meth c n0 Kf h k q (mkF m pc' Ls (.int v :: rest))) : own_Run p l e R s m args below meth c n0 Kf h k q (mkF m pc Ls (.int y :: .int x :: rest)) :=
  own_st (fun T locs X eT t kk => by subst hp; exact Jvm.Free.XS.idiv X.here C.g_x rfl (hb C.g_by hd) rfl hy (by rw [hv]; exact kk)) r
theorem own_ineg (C : own_Ctx p s m meth c Z own nm bytes maxL ret) {x : Int32} (hd : decode bytes pc = .ok (.ineg, 1)) (hp : pc + 1 = pc')  (r : own_Run p l e R s m args below meth c n0 Kf h k q (mkF m pc' Ls (.int (-x) :: rest))) : own_Run p l e R s m args below meth c n0 Kf h k q (mkF m pc Ls (.int x :: rest)) :=
  own_st (fun T locs X eT t kk => by subst hp; exact Jvm.Free.XS.ineg X.here C.g_x rfl (hb C.g_by hd) rfl kk) r
theorem own_ladd (C : own_Ctx p s m meth c Z own nm bytes maxL ret) {x y : Int64} (hd : decode bytes pc = .ok (.ladd, 1)) (hp : pc + 1 = pc')  (r : own_Run p l e R s m args below meth c n0 Kf h k q (mkF m pc' Ls (.long (x + y) :: rest))) : own_Run p l e R s m args below meth c n0 Kf h k q (mkF m pc Ls (.long y :: .long x :: rest)) :=
  own_st (fun T locs X eT t kk => by subst hp; exact Jvm.Free.XT.ladd X.here C.g_x rfl (hb C.g_by hd) rfl kk) r
theorem own_lsub (C : own_Ctx p s m meth c Z own nm bytes maxL ret) {x y : Int64} (hd : decode bytes pc = .ok (.lsub, 1)) (hp : pc + 1 = pc')  (r : own_Run p l e R s m args below meth c n0 Kf h k q (mkF m pc' Ls (.long (x - y) :: rest))) : own_Run p l e R s m args below meth c n0 Kf h k q (mkF m pc Ls (.long y :: .long x :: rest)) :=
  own_st (fun T locs X eT t kk => by subst hp; exact Jvm.Free.XT.lsub X.here C.g_x rfl (hb C.g_by hd) rfl kk) r
theorem own_land (C : own_Ctx p s m meth c Z own nm bytes maxL ret) {x y : Int64} (hd : decode bytes pc = .ok (.land, 1)) (hp : pc + 1 = pc')  (r : own_Run p l e R s m args below meth c n0 Kf h k q (mkF m pc' Ls (.long (x &&& y) :: rest))) : own_Run p l e R s m args below meth c n0 Kf h k q (mkF m pc Ls (.long y :: .long x :: rest)) :=
  own_st (fun T locs X eT t kk => by subst hp; exact Jvm.Free.XT.land X.here C.g_x rfl (hb C.g_by hd) rfl kk) r
theorem own_lor (C : own_Ctx p s m meth c Z own nm bytes maxL ret) {x y : Int64} (hd : decode bytes pc = .ok (.lor, 1)) (hp : pc + 1 = pc')  (r : own_Run p l e R s m args below meth c n0 Kf h k q (mkF m pc' Ls (.long (x ||| y) :: rest))) : own_Run p l e R s m args below meth c n0 Kf h k q (mkF m pc Ls (.long y :: .long x :: rest)) :=
  own_st (fun T locs X eT t kk => by subst hp; exact Jvm.Free.XT.lor X.here C.g_x rfl (hb C.g_by hd) rfl kk) r
theorem own_lxor (C : own_Ctx p s m meth c Z own nm bytes maxL ret) {x y : Int64} (hd : decode bytes pc = .ok (.lxor, 1)) (hp : pc + 1 = pc')  (r : own_Run p l e R s m args below meth c n0 Kf h k q (mkF m pc' Ls (.long (x ^^^ y) :: rest))) : own_Run p l e R s m args below meth c n0 Kf h k q (mkF m pc Ls (.long y :: .long x :: rest)) :=
  own_st (fun T locs X eT t kk => by subst hp; exact Jvm.Free.XT.lxor X.here C.g_x rfl (hb C.g_by hd) rfl kk) r
theorem own_lmul (C : own_Ctx p s m meth c Z own nm bytes maxL ret) {x y : Int64} (hd : decode bytes pc = .ok (.lmul, 1)) (hp : pc + 1 = pc')  (r : own_Run p l e R s m args below meth c n0 Kf h k q (mkF m pc' Ls (.long (x * y) :: rest))) : own_Run p l e R s m args below meth c n0 Kf h k q (mkF m pc Ls (.long y :: .long x :: rest)) :=
  own_st (fun T locs X eT t kk => by subst hp; exact Jvm.Free.XT.lmul X.here C.g_x rfl (hb C.g_by hd) rfl kk) r
theorem own_lcmp (C : own_Ctx p s m meth c Z own nm bytes maxL ret) {x y : Int64} (hd : decode bytes pc = .ok (.lcmp, 1)) (hp : pc + 1 = pc')  (r : own_Run p l e R s m args below meth c n0 Kf h k q (mkF m pc' Ls (.int (Jvm.Free.XT.cmpL x y) :: rest))) : own_Run p l e R s m args below meth c n0 Kf h k q (mkF m pc Ls (.long y :: .long x :: rest)) :=
  own_st (fun T locs X eT t kk => by subst hp; exact Jvm.Free.XT.lcmp X.here C.g_x rfl (hb C.g_by hd) rfl kk) r
theorem own_lshl (C : own_Ctx p s m meth c Z own nm bytes maxL ret) {x : Int64} {y : Int32} (hd : decode bytes pc = .ok (.lshl, 1)) (hp : pc + 1 = pc')  (r : own_Run p l e R s m args below meth c n0 Kf h k q (mkF m pc' Ls (.long (x <<< (y.toInt64 &&& 63)) :: rest))) : own_Run p l e R s m args below meth c n0 Kf h k q (mkF m pc Ls (.int y :: .long x :: rest)) :=
  own_st (fun T locs X eT t kk => by subst hp; exact Jvm.Free.XT.lshl X.here C.g_x rfl (hb C.g_by hd) rfl kk) r
theorem own_i2l (C : own_Ctx p s m meth c Z own nm bytes maxL ret) {x : Int32} (hd : decode bytes pc = .ok (.i2l, 1)) (hp : pc + 1 = pc')  (r : own_Run p l e R s m args below meth c n0 Kf h k q (mkF m pc' Ls (.long (x.toInt64) :: rest))) : own_Run p l e R s m args below meth c n0 Kf h k q (mkF m pc Ls (.int x :: rest)) :=
  own_st (fun T locs X eT t kk => by subst hp; exact Jvm.Free.XT.i2l X.here C.g_x rfl (hb C.g_by hd) rfl kk) r
theorem own_l2i (C : own_Ctx p s m meth c Z own nm bytes maxL ret) {x : Int64} (hd : decode bytes pc = .ok (.l2i, 1)) (hp : pc + 1 = pc')  (r : own_Run p l e R s m args below meth c n0 Kf h k q (mkF m pc' Ls (.int (x.toInt32) :: rest))) : own_Run p l e R s m args below meth c n0 Kf h k q (mkF m pc Ls (.long x :: rest)) :=
  own_st (fun T locs X eT t kk => by subst hp; exact Jvm.Free.XT.l2i X.here C.g_x rfl (hb C.g_by hd) rfl kk) r
theorem own_i2b (C : own_Ctx p s m meth c Z own nm bytes maxL ret) {x : Int32} (hd : decode bytes pc = .ok (.i2b, 1)) (hp : pc + 1 = pc')  (r : own_Run p l e R s m args below meth c n0 Kf h k q (mkF m pc' Ls (.int (x.toInt8.toInt32) :: rest))) : own_Run p l e R s m args below meth c n0 Kf h k q (mkF m pc Ls (.int x :: rest)) :=
  own_st (fun T locs X eT t kk => by subst hp; exact Jvm.Free.XT.i2b X.here C.g_x rfl (hb C.g_by hd) rfl kk) r
theorem own_i2c (C : own_Ctx p s m meth c Z own nm bytes maxL ret) {x : Int32} (hd : decode bytes pc = .ok (.i2c, 1)) (hp : pc + 1 = pc')  (r : own_Run p l e R s m args below meth c n0 Kf h k q (mkF m pc' Ls (.int (x.toUInt32.toUInt16.toUInt32.toInt32) :: rest))) : own_Run p l e R s m args below meth c n0 Kf h k q (mkF m pc Ls (.int x :: rest)) :=
  own_st (fun T locs X eT t kk => by subst hp; exact Jvm.Free.XT.i2c X.here C.g_x rfl (hb C.g_by hd) rfl kk) r
theorem own_iaddV (C : own_Ctx p s m meth c Z own nm bytes maxL ret) {x y v : Int32} (hd : decode bytes pc = .ok (.iadd, 1)) (hp : pc + 1 = pc') (hv : x + y = v) (r : own_Run p l e R s m args below meth c n0 Kf h k q (mkF m pc' Ls (.int v :: rest))) : own_Run p l e R s m args below meth c n0 Kf h k q (mkF m pc Ls (.int y :: .int x :: rest)) :=
  own_st (fun T locs X eT t kk => by subst hp; exact Jvm.Free.XS.iadd X.here C.g_x rfl (hb C.g_by hd) rfl (by rw [hv]; exact kk)) r
theorem own_isubV (C : own_Ctx p s m meth c Z own nm bytes maxL ret) {x y v : Int32} (hd : decode bytes pc = .ok (.isub, 1)) (hp : pc + 1 = pc') (hv : x - y = v) (r : own_Run p l e R s m args below meth c n0 Kf h k q (mkF m pc' Ls (.int v :: rest))) : own_Run p l e R s m args below meth c n0 Kf h k q (mkF m pc Ls (.int y :: .int x :: rest)) :=
  own_st (fun T locs X eT t kk => by subst hp; exact Jvm.Free.XS.isub X.here C.g_x rfl (hb C.g_by hd) rfl (by rw [hv]; exact kk)) r
theorem own_imulV (C : own_Ctx p s m meth c Z own nm bytes maxL ret) {x y v : Int32} (hd : decode bytes pc = .ok (.imul, 1)) (hp : pc + 1 = pc') (hv : x * y = v) (r : own_Run p l e R s m args below meth c n0 Kf h k q (mkF m pc' Ls (.int v :: rest))) : own_Run p l e R s m args below meth c n0 Kf h k q (mkF m pc Ls (.int y :: .int x :: rest)) :=
  own_st (fun T locs X eT t kk => by subst hp; exact Jvm.Free.XS.imul X.here C.g_x rfl (hb C.g_by hd) rfl (by rw [hv]; exact kk)) r
theorem own_iandV (C : own_Ctx p s m meth c Z own nm bytes maxL ret) {x y v : Int32} (hd : decode bytes pc = .ok (.iand, 1)) (hp : pc + 1 = pc') (hv : x &&& y = v) (r : own_Run p l e R s m args below meth c n0 Kf h k q (mkF m pc' Ls (.int v :: rest))) : own_Run p l e R s m args below meth c n0 Kf h k q (mkF m pc Ls (.int y :: .int x :: rest)) :=
  own_st (fun T locs X eT t kk => by subst hp; exact Jvm.Free.XS.iand X.here C.g_x rfl (hb C.g_by hd) rfl (by rw [hv]; exact kk)) r
theorem own_goto (C : own_Ctx p s m meth c Z own nm bytes maxL ret) {o : Int} {st : List Value} (hd : decode bytes pc = .ok (.goto o, 3)) (ho : (pc : Int) + o = (pc' : Int)) (r : own_Run p l e R s m args below meth c n0 Kf h k q (mkF m pc' Ls st)) : own_Run p l e R s m args below meth c n0 Kf h k q (mkF m pc Ls st) :=
  own_st (fun T locs X eT t kk => Jvm.Free.XS.goto X.here C.g_x rfl (pc0 := pc) (pc' := pc') rfl (hb C.g_by hd) (by omega) (by omega) kk) r
theorem own_ii_eq (C : own_Ctx p s m meth c Z own nm bytes maxL ret) {o : Int} {x y : Int32} (hd : decode bytes pc = .ok (.if_icmp .eq o, 3)) (ho : (pc : Int) + o = (pc1 : Int)) (hp : pc + 3 = pc2) (r1 : x = y → own_Run p l e R s m args below meth c n0 Kf h k q (mkF m pc1 Ls rest)) (r2 : ¬ x = y → own_Run p l e R s m args below meth c n0 Kf h k q (mkF m pc2 Ls rest)) : own_Run p l e R s m args below meth c n0 Kf h k q (mkF m pc Ls (.int y :: .int x :: rest)) := by
  by_cases hc : x = y
  · exact own_st (fun T locs X eT t kk => Jvm.Free.XS.icmpYes X.here C.g_x rfl (pc0 := pc) (pc' := pc1) rfl (hb C.g_by hd) rfl (Jvm.Free.XT.ii_eq_t hc) (by omega) (by omega) kk) (r1 hc)
  · subst hp; exact own_st (fun T locs X eT t kk => Jvm.Free.XS.icmpNo X.here C.g_x rfl (hb C.g_by hd) rfl (Jvm.Free.XT.ii_eq_f hc) kk) (r2 hc)
theorem own_i0_eq (C : own_Ctx p s m meth c Z own nm bytes maxL ret) {o : Int} {x : Int32} (hd : decode bytes pc = .ok (.ifCond .eq o, 3)) (ho : (pc : Int) + o = (pc1 : Int)) (hp : pc + 3 = pc2) (r1 : x = 0 → own_Run p l e R s m args below meth c n0 Kf h k q (mkF m pc1 Ls rest)) (r2 : ¬ x = 0 → own_Run p l e R s m args below meth c n0 Kf h k q (mkF m pc2 Ls rest)) : own_Run p l e R s m args below meth c n0 Kf h k q (mkF m pc Ls (.int x :: rest)) := by
  by_cases hc : x = 0
  · exact own_st (fun T locs X eT t kk => Jvm.Free.XS.ifYes X.here C.g_x rfl (pc0 := pc) (pc' := pc1) rfl (hb C.g_by hd) rfl (Jvm.Free.XT.i0_eq_t hc) (by omega) (by omega) kk) (r1 hc)
  · subst hp; exact own_st (fun T locs X eT t kk => Jvm.Free.XS.ifNo X.here C.g_x rfl (hb C.g_by hd) rfl (Jvm.Free.XT.i0_eq_f hc) kk) (r2 hc)
theorem own_ll_eq (C : own_Ctx p s m meth c Z own nm bytes maxL ret) {o : Int} {x y : Int64} (hd : decode bytes pc = .ok (.ifCond .eq o, 3)) (ho : (pc : Int) + o = (pc1 : Int)) (hp : pc + 3 = pc2) (r1 : x = y → own_Run p l e R s m args below meth c n0 Kf h k q (mkF m pc1 Ls rest)) (r2 : ¬ x = y → own_Run p l e R s m args below meth c n0 Kf h k q (mkF m pc2 Ls rest)) : own_Run p l e R s m args below meth c n0 Kf h k q (mkF m pc Ls (.int (Jvm.Free.XT.cmpL x y) :: rest)) := by
  by_cases hc : x = y
  · exact own_st (fun T locs X eT t kk => Jvm.Free.XS.ifYes X.here C.g_x rfl (pc0 := pc) (pc' := pc1) rfl (hb C.g_by hd) rfl (Jvm.Free.XT.ll_eq_t hc) (by omega) (by omega) kk) (r1 hc)
  · subst hp; exact own_st (fun T locs X eT t kk => Jvm.Free.XS.ifNo X.here C.g_x rfl (hb C.g_by hd) rfl (Jvm.Free.XT.ll_eq_f hc) kk) (r2 hc)
theorem own_ii_ne (C : own_Ctx p s m meth c Z own nm bytes maxL ret) {o : Int} {x y : Int32} (hd : decode bytes pc = .ok (.if_icmp .ne o, 3)) (ho : (pc : Int) + o = (pc1 : Int)) (hp : pc + 3 = pc2) (r1 : ¬ x = y → own_Run p l e R s m args below meth c n0 Kf h k q (mkF m pc1 Ls rest)) (r2 : x = y → own_Run p l e R s m args below meth c n0 Kf h k q (mkF m pc2 Ls rest)) : own_Run p l e R s m args below meth c n0 Kf h k q (mkF m pc Ls (.int y :: .int x :: rest)) := by
  by_cases hc : x = y
  · subst hp; exact own_st (fun T locs X eT t kk => Jvm.Free.XS.icmpNo X.here C.g_x rfl (hb C.g_by hd) rfl (Jvm.Free.XT.ii_ne_f hc) kk) (r2 hc)
  · exact own_st (fun T locs X eT t kk => Jvm.Free.XS.icmpYes X.here C.g_x rfl (pc0 := pc) (pc' := pc1) rfl (hb C.g_by hd) rfl (Jvm.Free.XT.ii_ne_t hc) (by omega) (by omega) kk) (r1 hc)
theorem own_i0_ne (C : own_Ctx p s m meth c Z own nm bytes maxL ret) {o : Int} {x : Int32} (hd : decode bytes pc = .ok (.ifCond .ne o, 3)) (ho : (pc : Int) + o = (pc1 : Int)) (hp : pc + 3 = pc2) (r1 : ¬ x = 0 → own_Run p l e R s m args below meth c n0 Kf h k q (mkF m pc1 Ls rest)) (r2 : x = 0 → own_Run p l e R s m args below meth c n0 Kf h k q (mkF m pc2 Ls rest)) : own_Run p l e R s m args below meth c n0 Kf h k q (mkF m pc Ls (.int x :: rest)) := by
  by_cases hc : x = 0
  · subst hp; exact own_st (fun T locs X eT t kk => Jvm.Free.XS.ifNo X.here C.g_x rfl (hb C.g_by hd) rfl (Jvm.Free.XT.i0_ne_f hc) kk) (r2 hc)
  · exact own_st (fun T locs X eT t kk => Jvm.Free.XS.ifYes X.here C.g_x rfl (pc0 := pc) (pc' := pc1) rfl (hb C.g_by hd) rfl (Jvm.Free.XT.i0_ne_t hc) (by omega) (by omega) kk) (r1 hc)
theorem own_ll_ne (C : own_Ctx p s m meth c Z own nm bytes maxL ret) {o : Int} {x y : Int64} (hd : decode bytes pc = .ok (.ifCond .ne o, 3)) (ho : (pc : Int) + o = (pc1 : Int)) (hp : pc + 3 = pc2) (r1 : ¬ x = y → own_Run p l e R s m args below meth c n0 Kf h k q (mkF m pc1 Ls rest)) (r2 : x = y → own_Run p l e R s m args below meth c n0 Kf h k q (mkF m pc2 Ls rest)) : own_Run p l e R s m args below meth c n0 Kf h k q (mkF m pc Ls (.int (Jvm.Free.XT.cmpL x y) :: rest)) := by
  by_cases hc : x = y
  · subst hp; exact own_st (fun T locs X eT t kk => Jvm.Free.XS.ifNo X.here C.g_x rfl (hb C.g_by hd) rfl (Jvm.Free.XT.ll_ne_f hc) kk) (r2 hc)
  · exact own_st (fun T locs X eT t kk => Jvm.Free.XS.ifYes X.here C.g_x rfl (pc0 := pc) (pc' := pc1) rfl (hb C.g_by hd) rfl (Jvm.Free.XT.ll_ne_t hc) (by omega) (by omega) kk) (r1 hc)
theorem own_ii_lt (C : own_Ctx p s m meth c Z own nm bytes maxL ret) {o : Int} {x y : Int32} (hd : decode bytes pc = .ok (.if_icmp .lt o, 3)) (ho : (pc : Int) + o = (pc1 : Int)) (hp : pc + 3 = pc2) (r1 : x < y → own_Run p l e R s m args below meth c n0 Kf h k q (mkF m pc1 Ls rest)) (r2 : ¬ x < y → own_Run p l e R s m args below meth c n0 Kf h k q (mkF m pc2 Ls rest)) : own_Run p l e R s m args below meth c n0 Kf h k q (mkF m pc Ls (.int y :: .int x :: rest)) := by
  by_cases hc : x < y
  · exact own_st (fun T locs X eT t kk => Jvm.Free.XS.icmpYes X.here C.g_x rfl (pc0 := pc) (pc' := pc1) rfl (hb C.g_by hd) rfl (Jvm.Free.XT.ii_lt_t hc) (by omega) (by omega) kk) (r1 hc)
  · subst hp; exact own_st (fun T locs X eT t kk => Jvm.Free.XS.icmpNo X.here C.g_x rfl (hb C.g_by hd) rfl (Jvm.Free.XT.ii_lt_f hc) kk) (r2 hc)
theorem own_i0_lt (C : own_Ctx p s m meth c Z own nm bytes maxL ret) {o : Int} {x : Int32} (hd : decode bytes pc = .ok (.ifCond .lt o, 3)) (ho : (pc : Int) + o = (pc1 : Int)) (hp : pc + 3 = pc2) (r1 : x < 0 → own_Run p l e R s m args below meth c n0 Kf h k q (mkF m pc1 Ls rest)) (r2 : ¬ x < 0 → own_Run p l e R s m args below meth c n0 Kf h k q (mkF m pc2 Ls rest)) : own_Run p l e R s m args below meth c n0 Kf h k q (mkF m pc Ls (.int x :: rest)) := by
  by_cases hc : x < 0
  · exact own_st (fun T locs X eT t kk => Jvm.Free.XS.ifYes X.here C.g_x rfl (pc0 := pc) (pc' := pc1) rfl (hb C.g_by hd) rfl (Jvm.Free.XT.i0_lt_t hc) (by omega) (by omega) kk) (r1 hc)
  · subst hp; exact own_st (fun T locs X eT t kk => Jvm.Free.XS.ifNo X.here C.g_x rfl (hb C.g_by hd) rfl (Jvm.Free.XT.i0_lt_f hc) kk) (r2 hc)
theorem own_ll_lt (C : own_Ctx p s m meth c Z own nm bytes maxL ret) {o : Int} {x y : Int64} (hd : decode bytes pc = .ok (.ifCond .lt o, 3)) (ho : (pc : Int) + o = (pc1 : Int)) (hp : pc + 3 = pc2) (r1 : x < y → own_Run p l e R s m args below meth c n0 Kf h k q (mkF m pc1 Ls rest)) (r2 : ¬ x < y → own_Run p l e R s m args below meth c n0 Kf h k q (mkF m pc2 Ls rest)) : own_Run p l e R s m args below meth c n0 Kf h k q (mkF m pc Ls (.int (Jvm.Free.XT.cmpL x y) :: rest)) := by
  by_cases hc : x < y
  · exact own_st (fun T locs X eT t kk => Jvm.Free.XS.ifYes X.here C.g_x rfl (pc0 := pc) (pc' := pc1) rfl (hb C.g_by hd) rfl (Jvm.Free.XT.ll_lt_t hc) (by omega) (by omega) kk) (r1 hc)
  · subst hp; exact own_st (fun T locs X eT t kk => Jvm.Free.XS.ifNo X.here C.g_x rfl (hb C.g_by hd) rfl (Jvm.Free.XT.ll_lt_f hc) kk) (r2 hc)
theorem own_ii_ge (C : own_Ctx p s m meth c Z own nm bytes maxL ret) {o : Int} {x y : Int32} (hd : decode bytes pc = .ok (.if_icmp .ge o, 3)) (ho : (pc : Int) + o = (pc1 : Int)) (hp : pc + 3 = pc2) (r1 : ¬ x < y → own_Run p l e R s m args below meth c n0 Kf h k q (mkF m pc1 Ls rest)) (r2 : x < y → own_Run p l e R s m args below meth c n0 Kf h k q (mkF m pc2 Ls rest)) : own_Run p l e R s m args below meth c n0 Kf h k q (mkF m pc Ls (.int y :: .int x :: rest)) := by
  by_cases hc : x < y
  · subst hp; exact own_st (fun T locs X eT t kk => Jvm.Free.XS.icmpNo X.here C.g_x rfl (hb C.g_by hd) rfl (Jvm.Free.XT.ii_ge_f hc) kk) (r2 hc)
  · exact own_st (fun T locs X eT t kk => Jvm.Free.XS.icmpYes X.here C.g_x rfl (pc0 := pc) (pc' := pc1) rfl (hb C.g_by hd) rfl (Jvm.Free.XT.ii_ge_t hc) (by omega) (by omega) kk) (r1 hc)
theorem own_i0_ge (C : own_Ctx p s m meth c Z own nm bytes maxL ret) {o : Int} {x : Int32} (hd : decode bytes pc = .ok (.ifCond .ge o, 3)) (ho : (pc : Int) + o = (pc1 : Int)) (hp : pc + 3 = pc2) (r1 : ¬ x < 0 → own_Run p l e R s m args below meth c n0 Kf h k q (mkF m pc1 Ls rest)) (r2 : x < 0 → own_Run p l e R s m args below meth c n0 Kf h k q (mkF m pc2 Ls rest)) : own_Run p l e R s m args below meth c n0 Kf h k q (mkF m pc Ls (.int x :: rest)) := by
  by_cases hc : x < 0
  · subst hp; exact own_st (fun T locs X eT t kk => Jvm.Free.XS.ifNo X.here C.g_x rfl (hb C.g_by hd) rfl (Jvm.Free.XT.i0_ge_f hc) kk) (r2 hc)
  · exact own_st (fun T locs X eT t kk => Jvm.Free.XS.ifYes X.here C.g_x rfl (pc0 := pc) (pc' := pc1) rfl (hb C.g_by hd) rfl (Jvm.Free.XT.i0_ge_t hc) (by omega) (by omega) kk) (r1 hc)
theorem own_ll_ge (C : own_Ctx p s m meth c Z own nm bytes maxL ret) {o : Int} {x y : Int64} (hd : decode bytes pc = .ok (.ifCond .ge o, 3)) (ho : (pc : Int) + o = (pc1 : Int)) (hp : pc + 3 = pc2) (r1 : ¬ x < y → own_Run p l e R s m args below meth c n0 Kf h k q (mkF m pc1 Ls rest)) (r2 : x < y → own_Run p l e R s m args below meth c n0 Kf h k q (mkF m pc2 Ls rest)) : own_Run p l e R s m args below meth c n0 Kf h k q (mkF m pc Ls (.int (Jvm.Free.XT.cmpL x y) :: rest)) := by
  by_cases hc : x < y
  · subst hp; exact own_st (fun T locs X eT t kk => Jvm.Free.XS.ifNo X.here C.g_x rfl (hb C.g_by hd) rfl (Jvm.Free.XT.ll_ge_f hc) kk) (r2 hc)
  · exact own_st (fun T locs X eT t kk => Jvm.Free.XS.ifYes X.here C.g_x rfl (pc0 := pc) (pc' := pc1) rfl (hb C.g_by hd) rfl (Jvm.Free.XT.ll_ge_t hc) (by omega) (by omega) kk) (r1 hc)
theorem own_ii_gt (C : own_Ctx p s m meth c Z own nm bytes maxL ret) {o : Int} {x y : Int32} (hd : decode bytes pc = .ok (.if_icmp .gt o, 3)) (ho : (pc : Int) + o = (pc1 : Int)) (hp : pc + 3 = pc2) (r1 : y < x → own_Run p l e R s m args below meth c n0 Kf h k q (mkF m pc1 Ls rest)) (r2 : ¬ y < x → own_Run p l e R s m args below meth c n0 Kf h k q (mkF m pc2 Ls rest)) : own_Run p l e R s m args below meth c n0 Kf h k q (mkF m pc Ls (.int y :: .int x :: rest)) := by
  by_cases hc : y < x
  · exact own_st (fun T locs X eT t kk => Jvm.Free.XS.icmpYes X.here C.g_x rfl (pc0 := pc) (pc' := pc1) rfl (hb C.g_by hd) rfl (Jvm.Free.XT.ii_gt_t hc) (by omega) (by omega) kk) (r1 hc)
  · subst hp; exact own_st (fun T locs X eT t kk => Jvm.Free.XS.icmpNo X.here C.g_x rfl (hb C.g_by hd) rfl (Jvm.Free.XT.ii_gt_f hc) kk) (r2 hc)
theorem own_i0_gt (C : own_Ctx p s m meth c Z own nm bytes maxL ret) {o : Int} {x : Int32} (hd : decode bytes pc = .ok (.ifCond .gt o, 3)) (ho : (pc : Int) + o = (pc1 : Int)) (hp : pc + 3 = pc2) (r1 : 0 < x → own_Run p l e R s m args below meth c n0 Kf h k q (mkF m pc1 Ls rest)) (r2 : ¬ 0 < x → own_Run p l e R s m args below meth c n0 Kf h k q (mkF m pc2 Ls rest)) : own_Run p l e R s m args below meth c n0 Kf h k q (mkF m pc Ls (.int x :: rest)) := by
  by_cases hc : 0 < x
  · exact own_st (fun T locs X eT t kk => Jvm.Free.XS.ifYes X.here C.g_x rfl (pc0 := pc) (pc' := pc1) rfl (hb C.g_by hd) rfl (Jvm.Free.XT.i0_gt_t hc) (by omega) (by omega) kk) (r1 hc)
  · subst hp; exact own_st (fun T locs X eT t kk => Jvm.Free.XS.ifNo X.here C.g_x rfl (hb C.g_by hd) rfl (Jvm.Free.XT.i0_gt_f hc) kk) (r2 hc)
theorem own_ll_gt (C : own_Ctx p s m meth c Z own nm bytes maxL ret) {o : Int} {x y : Int64} (hd : decode bytes pc = .ok (.ifCond .gt o, 3)) (ho : (pc : Int) + o = (pc1 : Int)) (hp : pc + 3 = pc2) (r1 : y < x → own_Run p l e R s m args below meth c n0 Kf h k q (mkF m pc1 Ls rest)) (r2 : ¬ y < x → own_Run p l e R s m args below meth c n0 Kf h k q (mkF m pc2 Ls rest)) : own_Run p l e R s m args below meth c n0 Kf h k q (mkF m pc Ls (.int (Jvm.Free.XT.cmpL x y) :: rest)) := by
  by_cases hc : y < x
  · exact own_st (fun T locs X eT t kk => Jvm.Free.XS.ifYes X.here C.g_x rfl (pc0 := pc) (pc' := pc1) rfl (hb C.g_by hd) rfl (Jvm.Free.XT.ll_gt_t hc) (by omega) (by omega) kk) (r1 hc)
  · subst hp; exact own_st (fun T locs X eT t kk => Jvm.Free.XS.ifNo X.here C.g_x rfl (hb C.g_by hd) rfl (Jvm.Free.XT.ll_gt_f hc) kk) (r2 hc)
theorem own_ii_le (C : own_Ctx p s m meth c Z own nm bytes maxL ret) {o : Int} {x y : Int32} (hd : decode bytes pc = .ok (.if_icmp .le o, 3)) (ho : (pc : Int) + o = (pc1 : Int)) (hp : pc + 3 = pc2) (r1 : ¬ y < x → own_Run p l e R s m args below meth c n0 Kf h k q (mkF m pc1 Ls rest)) (r2 : y < x → own_Run p l e R s m args below meth c n0 Kf h k q (mkF m pc2 Ls rest)) : own_Run p l e R s m args below meth c n0 Kf h k q (mkF m pc Ls (.int y :: .int x :: rest)) := by
  by_cases hc : y < x
  · subst hp; exact own_st (fun T locs X eT t kk => Jvm.Free.XS.icmpNo X.here C.g_x rfl (hb C.g_by hd) rfl (Jvm.Free.XT.ii_le_f hc) kk) (r2 hc)
  · exact own_st (fun T locs X eT t kk => Jvm.Free.XS.icmpYes X.here C.g_x rfl (pc0 := pc) (pc' := pc1) rfl (hb C.g_by hd) rfl (Jvm.Free.XT.ii_le_t hc) (by omega) (by omega) kk) (r1 hc)
theorem own_i0_le (C : own_Ctx p s m meth c Z own nm bytes maxL ret) {o : Int} {x : Int32} (hd : decode bytes pc = .ok (.ifCond .le o, 3)) (ho : (pc : Int) + o = (pc1 : Int)) (hp : pc + 3 = pc2) (r1 : ¬ 0 < x → own_Run p l e R s m args below meth c n0 Kf h k q (mkF m pc1 Ls rest)) (r2 : 0 < x → own_Run p l e R s m args below meth c n0 Kf h k q (mkF m pc2 Ls rest)) : own_Run p l e R s m args below meth c n0 Kf h k q (mkF m pc Ls (.int x :: rest)) := by
  by_cases hc : 0 < x
  · subst hp; exact own_st (fun T locs X eT t kk => Jvm.Free.XS.ifNo X.here C.g_x rfl (hb C.g_by hd) rfl (Jvm.Free.XT.i0_le_f hc) kk) (r2 hc)
  · exact own_st (fun T locs X eT t kk => Jvm.Free.XS.ifYes X.here C.g_x rfl (pc0 := pc) (pc' := pc1) rfl (hb C.g_by hd) rfl (Jvm.Free.XT.i0_le_t hc) (by omega) (by omega) kk) (r1 hc)
theorem own_ll_le (C : own_Ctx p s m meth c Z own nm bytes maxL ret) {o : Int} {x y : Int64} (hd : decode bytes pc = .ok (.ifCond .le o, 3)) (ho : (pc : Int) + o = (pc1 : Int)) (hp : pc + 3 = pc2) (r1 : ¬ y < x → own_Run p l e R s m args below meth c n0 Kf h k q (mkF m pc1 Ls rest)) (r2 : y < x → own_Run p l e R s m args below meth c n0 Kf h k q (mkF m pc2 Ls rest)) : own_Run p l e R s m args below meth c n0 Kf h k q (mkF m pc Ls (.int (Jvm.Free.XT.cmpL x y) :: rest)) := by
  by_cases hc : y < x
  · subst hp; exact own_st (fun T locs X eT t kk => Jvm.Free.XS.ifNo X.here C.g_x rfl (hb C.g_by hd) rfl (Jvm.Free.XT.ll_le_f hc) kk) (r2 hc)
  · exact own_st (fun T locs X eT t kk => Jvm.Free.XS.ifYes X.here C.g_x rfl (pc0 := pc) (pc' := pc1) rfl (hb C.g_by hd) rfl (Jvm.Free.XT.ll_le_t hc) (by omega) (by omega) kk) (r1 hc)
theorem own_aa_eq (C : own_Ctx p s m meth c Z own nm bytes maxL ret) {o : Int} {x y : Value} (hx1 : x.isRef = true) (hy1 : y.isRef = true) (hd : decode bytes pc = .ok (.if_acmp .eq o, 3)) (ho : (pc : Int) + o = (pc1 : Int)) (hp : pc + 3 = pc2) (r1 : x = y → own_Run p l e R s m args below meth c n0 Kf h k q (mkF m pc1 Ls rest)) (r2 : ¬ x = y → own_Run p l e R s m args below meth c n0 Kf h k q (mkF m pc2 Ls rest)) : own_Run p l e R s m args below meth c n0 Kf h k q (mkF m pc Ls (y :: x :: rest)) := by
  by_cases hc : x = y
  · exact own_st (fun T locs X eT t kk => Jvm.Free.XT.acmpYes X.here C.g_x rfl (pc0 := pc) (pc' := pc1) rfl (hb C.g_by hd) rfl hx1 hy1 (Jvm.Free.XT.aa_eq_t hc) (by omega) (by omega) kk) (r1 hc)
  · subst hp; exact own_st (fun T locs X eT t kk => Jvm.Free.XT.acmpNo X.here C.g_x rfl (hb C.g_by hd) rfl hx1 hy1 (Jvm.Free.XT.aa_eq_f hc) kk) (r2 hc)
theorem own_aa_ne (C : own_Ctx p s m meth c Z own nm bytes maxL ret) {o : Int} {x y : Value} (hx1 : x.isRef = true) (hy1 : y.isRef = true) (hd : decode bytes pc = .ok (.if_acmp .ne o, 3)) (ho : (pc : Int) + o = (pc1 : Int)) (hp : pc + 3 = pc2) (r1 : ¬ x = y → own_Run p l e R s m args below meth c n0 Kf h k q (mkF m pc1 Ls rest)) (r2 : x = y → own_Run p l e R s m args below meth c n0 Kf h k q (mkF m pc2 Ls rest)) : own_Run p l e R s m args below meth c n0 Kf h k q (mkF m pc Ls (y :: x :: rest)) := by
  by_cases hc : x = y
  · subst hp; exact own_st (fun T locs X eT t kk => Jvm.Free.XT.acmpNo X.here C.g_x rfl (hb C.g_by hd) rfl hx1 hy1 (Jvm.Free.XT.aa_ne_f hc) kk) (r2 hc)
  · exact own_st (fun T locs X eT t kk => Jvm.Free.XT.acmpYes X.here C.g_x rfl (pc0 := pc) (pc' := pc1) rfl (hb C.g_by hd) rfl hx1 hy1 (Jvm.Free.XT.aa_ne_t hc) (by omega) (by omega) kk) (r1 hc)
theorem own_nullNo (C : own_Ctx p s m meth c Z own nm bytes maxL ret) {o : Int} {a : Addr} (hd : decode bytes pc = .ok (.ifnull o, 3)) (hp : pc + 3 = pc') (r : own_Run p l e R s m args below meth c n0 Kf h k q (mkF m pc' Ls rest)) : own_Run p l e R s m args below meth c n0 Kf h k q (mkF m pc Ls (.ref a :: rest)) :=
  own_st (fun T locs X eT t kk => by subst hp; exact Jvm.Free.XS.ifnullNo X.here C.g_x rfl (hb C.g_by hd) rfl kk) r
theorem own_getF (C : own_Ctx p s m meth c Z own nm bytes maxL ret) {i : Nat} {O n d : String} {a : Addr} {v : Value} (w : (Jvm.Cond.fieldLink own i O n d).before a0 Z = true) (F : Fld Z h a O n d v) (hd : decode bytes pc = .ok (.getfield i, 3)) (hp : pc + 3 = pc') (r : own_Run p l e R s m args below meth c n0 Kf h k q (mkF m pc' Ls (v :: rest))) : own_Run p l e R s m args below meth c n0 Kf h k q (mkF m pc Ls (.ref a :: rest)) := fun T locs X eT N => by
  subst hp
  obtain ⟨T1, X1, e1, st1⟩ := getF X C.g_x C.g_z C.g_own (host := "") (Or.inl w) Via.refl eT F (g := mkF m pc Ls (.ref a :: rest)) rfl rfl (hb C.g_by hd)
  obtain ⟨t, o, h1, h2⟩ := r T1 locs X1 e1 N
  exact ⟨t, o, st1 _ h1, h2⟩
theorem own_putF (C : own_Ctx p s m meth c Z own nm bytes maxL ret) {i kk : Nat} {O n d K : String} {a : Addr} {v old : Value} {ty : FieldType} (w : (Jvm.Cond.fieldLink own i O n d).before a0 Z = true) (F : Fld Z h a O n d old) (E : Exa Z h a K) (L : (Jvm.Cond.lays K O n d).before a0 Z = true ∨ ((Jvm.Cond.laysFinal K O n d).before a0 Z = true ∧ own = O ∧ nm = "<init>")) (wi : (Jvm.Cond.instantiable K kk).before a0 Z = true) (hty : parseFieldDescriptor d = some ty) (hn : narrow ty v = v) (hf : fits ty v = true) (ga : n0 ≤ a) (hd : decode bytes pc = .ok (.putfield i, 3)) (hp : pc + 3 = pc')
    (r : ∀ h', Wr h h' a (Jvm.RoadKit.slotOf Z O n d) v → own_Run p l e R s m args below meth c n0 Kf h' k q (mkF m pc' Ls rest)) : own_Run p l e R s m args below meth c n0 Kf h k q (mkF m pc Ls (v :: .ref a :: rest)) := fun T locs X eT N => by
  subst hp
  obtain ⟨T1, h1, X1, e1, W1, st1⟩ := putF X C.g_x C.g_z C.g_own (host := "") (Or.inl w) Via.refl eT F E (L.imp id fun x => ⟨x.1, x.2.1, C.g_nm.trans x.2.2⟩) wi hty hn hf (g := mkF m pc Ls (v :: .ref a :: rest)) rfl rfl (hb C.g_by hd)
  obtain ⟨t, o, h2, h3⟩ := r h1 W1 T1 _ X1 e1 (Fr.snoc X1 N ga)
  exact ⟨t, o, st1 _ h2, h3⟩
theorem own_getS (C : own_Ctx p s m meth c Z own nm bytes maxL ret) {i : Nat} {O n d : String} {v : Value} (w : (Jvm.Cond.fieldLink own i O n d).before a0 Z = true) (F : Sta Z h O n d v) (hd : decode bytes pc = .ok (.getstatic i, 3)) (hp : pc + 3 = pc') (r : own_Run p l e R s m args below meth c n0 Kf h k q (mkF m pc' Ls (v :: rest))) : own_Run p l e R s m args below meth c n0 Kf h k q (mkF m pc Ls rest) := fun T locs X eT N => by
  subst hp
  obtain ⟨T1, X1, e1, st1⟩ := getS (host := "") X C.g_x C.g_z C.g_own w Via.refl eT F (g := mkF m pc Ls rest) rfl (hb C.g_by hd)
  obtain ⟨t, o, h1, h2⟩ := r T1 locs X1 e1 N
  exact ⟨t, o, st1 _ h1, h2⟩
theorem own_new (C : own_Ctx p s m meth c Z own nm bytes maxL ret) {i n : Nat} {K : String} (w : (Jvm.Cond.classLink own i K).before a0 Z = true) (wi : (Jvm.Cond.instantiable K n).before a0 Z = true) (wz : (Jvm.Cond.initialized K).before a0 Z = true) (Z0 : n0 ≤ h.size) (hd : decode bytes pc = .ok (.new i, 3)) (hp : pc + 3 = pc') (hc : k + 1 ≤ R.cells) (hs : q + n ≤ R.slots)
    (r : ∀ h' a, a = h.size → n0 ≤ a → n0 ≤ h'.size → Ext h h' → Exa Z h' a K → (∀ {O nm d : String} {ty : FieldType}, Laid Z a0 K O nm d → parseFieldDescriptor d = some ty → Fld Z h' a O nm d (defaultValue ty)) → own_Run p l e R s m args below meth c n0 Kf h' (k + 1) (q + n) (mkF m pc' Ls (.ref a :: rest))) : own_Run p l e R s m args below meth c n0 Kf h k q (mkF m pc Ls rest) := fun T locs X eT N => by
  subst hp
  obtain ⟨T1, h1, X1, e1, E1, A1, D1, -, st1⟩ := newO X C.g_x C.g_z C.g_own w wi wz eT (g := mkF m pc Ls rest) rfl (hb C.g_by hd) hc hs
  obtain ⟨t, o, h2, h3⟩ := r h1 h.size rfl Z0 (Nat.le_trans Z0 E1.1) E1 A1 (fun L ht => D1 L ht) T1 _ X1 e1 N
  exact ⟨t, o, st1 _ h2, h3⟩
theorem own_initO (C : own_Ctx p s m meth c Z own nm bytes maxL ret) {i : Nat} {a : Addr} {W : Nat} (w1 : (Jvm.Cond.methodLink own i Lib.objectInit).before a0 Z = true) (w2 : (Jvm.Cond.instanceMethod Lib.objectInit).before a0 Z = true) (w3 : (Jvm.Cond.code Lib.objectInit ⟨#[0xb1]⟩ 1 none).before a0 Z = true) (hd : decode bytes pc = .ok (.invokespecial i, 3)) (hp : pc + 3 = pc') (hsz : Ls.size = maxL) (hf : 1 ≤ R.frames) (hW : 0 + (rest.map fun v => v.category).sum ≤ W) (hl : W + 12 ≤ R.locals)
    (r : own_Run p l e R s m args below meth c n0 Kf h k q (mkF m pc' Ls rest)) : own_Run p l e R s m args below meth c n0 Kf h k q (mkF m pc Ls (.ref a :: rest)) := fun T locs X eT N => by
  subst hp
  obtain ⟨T1, X1, e1, st1⟩ := initO X C.g_x C.g_z C.g_own w1 w2 w3 eT (g := mkF m pc Ls (.ref a :: rest)) rfl (by rw [C.g_ml]; exact hsz) rfl (hb C.g_by hd) hf (W := W) (by show 2 * 0 + _ ≤ _; exact hW) hl
  obtain ⟨t, o, h1, h2⟩ := r T1 locs X1 e1 N
  exact ⟨t, o, st1 _ h1, h2⟩
theorem own_callN (C : own_Ctx p s m meth c Z own nm bytes maxL ret) {i : Nat} {y : MethodName} {cb : ByteArray} {cm : Nat} {rm : Room} {a : Addr} {argsL : List Value} {Q' : Option Value → Heap → Prop} (W : Nat) (hy1 : y.name = "<init>") (w1 : (Jvm.Cond.methodLink own i y).before a0 Z = true) (w2 : (Jvm.Cond.instanceMethod y).before a0 Z = true) (w3 : (Jvm.Cond.code y cb cm none).before a0 Z = true) (w4 : (Jvm.Cond.initialized y.cls).before a0 Z = true) (hy : y.cls ≠ "java/lang/invoke/MethodHandle" ∧ y.cls ≠ "java/lang/invoke/VarHandle")
    (hM : own_Met l Z n0 y cb cm none rm [] (.ref a :: argsL).toArray h Q') (hf : rm.frames + 1 ≤ R.frames) (hl : W + (cm + 11) + rm.locals ≤ R.locals) (hlen : ∀ sig, parseMethodDescriptor y.desc = some sig → argsL.length = sig.parameters.length) {st : List Value} (hst : st = argsL.reverse ++ .ref a :: rest) (hW : 0 + (rest.map fun v => v.category).sum ≤ W) (hd : decode bytes pc = .ok (.invokespecial i, 3)) (hp : pc + 3 = pc') (hsz : Ls.size = maxL) (hc : k + rm.cells ≤ R.cells) (hs : q + rm.slots ≤ R.slots)
    (r : ∀ v h', Q' v h' → own_Run p l e R s m args below meth c n0 Kf h' (k + rm.cells) (q + rm.slots) (mkF m pc' Ls (v.toList ++ rest))) : own_Run p l e R s m args below meth c n0 Kf h k q (mkF m pc Ls st) := fun T locs X eT N => by
  subst hp
  obtain ⟨v, _, ⟨T1, L1, k1, n1⟩, -, X1, ⟨Lc1, hQ1, l1, y1, z1⟩, st1⟩ := X.specialBack C.g_x (y := y) hy1 C.g_own (mvT C.g_z w1) (mvT C.g_z w2) (mvT C.g_z w3) hy (backOf (W := W) (Q := fun v h L => Fr n0 L ∧ Q' v h) hM C.g_z w3 w4 hf hl) (g := mkF m pc Ls st) rfl (by rw [C.g_ml]; exact hsz) (Steps.refl _) (a := a) (argsL := argsL) (rest := rest) hlen hst (by show 2 * 0 + _ ≤ _; exact hW) (hb C.g_by hd) (fun _ _ => ⟨rfl, eT, hc, hs⟩)
  dsimp only [Pt.U, Pt.locs, Pt.cells, Pt.slots] at X1 l1 y1 z1 st1 hQ1
  subst l1 y1 z1
  obtain ⟨t, o, h2, h3⟩ := r v T1.heap hQ1.2 T1 _ X1 rfl (Fr.app N hQ1.1)
  exact ⟨t, o, st1.trans h2, h3⟩
theorem own_callV (C : own_Ctx p s m meth c Z own nm bytes maxL ret) {i : Nat} {y : MethodName} {cb : ByteArray} {cm : Nat} {cret : Option FieldType} {rm : Room} {a : Addr} {argsL : List Value} {Q' : Option Value → Heap → Prop} (W : Nat) (E : Exa Z h a y.cls) (w1 : (Jvm.Cond.methodLink own i y).before a0 Z = true) (w2 : (Jvm.Cond.declares y).before a0 Z = true) (w3 : (Jvm.Cond.selects y.cls y y).before a0 Z = true) (w4 : (Jvm.Cond.instanceMethod y).before a0 Z = true) (w5 : (Jvm.Cond.code y cb cm cret).before a0 Z = true) (w6 : (Jvm.Cond.initialized y.cls).before a0 Z = true) (hy : y.cls ≠ "java/lang/invoke/MethodHandle" ∧ y.cls ≠ "java/lang/invoke/VarHandle")
    (hM : own_Met l Z n0 y cb cm cret rm [] (.ref a :: argsL).toArray h Q') (hf : rm.frames + 1 ≤ R.frames) (hl : W + (cm + 11) + rm.locals ≤ R.locals) (hlen : ∀ sig, parseMethodDescriptor y.desc = some sig → argsL.length = sig.parameters.length) {st : List Value} (hst : st = argsL.reverse ++ .ref a :: rest) (hW : 0 + (rest.map fun v => v.category).sum ≤ W) (hd : decode bytes pc = .ok (.invokevirtual i, 3)) (hp : pc + 3 = pc') (hsz : Ls.size = maxL) (hc : k + rm.cells ≤ R.cells) (hs : q + rm.slots ≤ R.slots)
    (r : ∀ v h', Q' v h' → own_Run p l e R s m args below meth c n0 Kf h' (k + rm.cells) (q + rm.slots) (mkF m pc' Ls (v.toList ++ rest))) : own_Run p l e R s m args below meth c n0 Kf h k q (mkF m pc Ls st) := fun T locs X eT N => by
  subst hp
  obtain ⟨cq, kq, qa, qb, qc⟩ := isOf C.g_z eT E
  obtain ⟨v, _, ⟨T1, L1, k1, n1⟩, -, X1, ⟨Lc1, hQ1, l1, y1, z1⟩, st1⟩ := X.virtualBack C.g_x (y := y) (z := y) C.g_own (mvT C.g_z w1) (mvT C.g_z w2) (notFace_of_selects (args := #[]) (mvT C.g_z w3)) (mvT C.g_z w3) (mvT C.g_z w4) hy (backOf (W := W) (Q := fun v h L => Fr n0 L ∧ Q' v h) hM C.g_z w5 w6 hf hl) qa qc (g := mkF m pc Ls st) rfl (by rw [C.g_ml]; exact hsz) (Steps.refl _) (argsL := argsL) (rest := rest) hlen hst (by show 2 * 0 + _ ≤ _; exact hW) (hb C.g_by hd) (fun _ _ => ⟨rfl, eT, hc, hs⟩)
  dsimp only [Pt.U, Pt.locs, Pt.cells, Pt.slots] at X1 l1 y1 z1 st1 hQ1
  subst l1 y1 z1
  obtain ⟨t, o, h2, h3⟩ := r v T1.heap hQ1.2 T1 _ X1 rfl (Fr.app N hQ1.1)
  exact ⟨t, o, st1.trans h2, h3⟩
theorem own_callS (C : own_Ctx p s m meth c Z own nm bytes maxL ret) {i : Nat} {y : MethodName} {cb : ByteArray} {cm : Nat} {cret : Option FieldType} {rm : Room} {argsL : List Value} {Q' : Option Value → Heap → Prop} (W : Nat) (w1 : (Jvm.Cond.methodLink own i y).before a0 Z = true) (w2 : (Jvm.Cond.static y).before a0 Z = true) (w3 : (Jvm.Cond.initialized y.cls).before a0 Z = true) (w4 : (Jvm.Cond.code y cb cm cret).before a0 Z = true) (hy : y.cls ≠ "java/lang/invoke/MethodHandle" ∧ y.cls ≠ "java/lang/invoke/VarHandle")
    (hM : own_Met l Z n0 y cb cm cret rm [] argsL.toArray h Q') (hf : rm.frames + 1 ≤ R.frames) (hl : W + (cm + 11) + rm.locals ≤ R.locals) (hlen : ∀ sig, parseMethodDescriptor y.desc = some sig → argsL.length = sig.parameters.length) {st : List Value} (hst : st = argsL.reverse ++ rest) (hW : 0 + (rest.map fun v => v.category).sum ≤ W) (hd : decode bytes pc = .ok (.invokestatic i, 3)) (hp : pc + 3 = pc') (hsz : Ls.size = maxL) (hc : k + rm.cells ≤ R.cells) (hs : q + rm.slots ≤ R.slots)
    (r : ∀ v h', Q' v h' → own_Run p l e R s m args below meth c n0 Kf h' (k + rm.cells) (q + rm.slots) (mkF m pc' Ls (v.toList ++ rest))) : own_Run p l e R s m args below meth c n0 Kf h k q (mkF m pc Ls st) := fun T locs X eT N => by
  subst hp
  obtain ⟨v, _, ⟨T1, L1, k1, n1⟩, -, X1, ⟨Lc1, hQ1, l1, y1, z1⟩, st1⟩ := Jvm.LawKit.callS X C.g_x (y := y) C.g_own (mvT C.g_z w1) (mvT C.g_z w2) (mvT C.g_z w3) (mvT C.g_z w4) hy (backOf (W := W) (Q := fun v h L => Fr n0 L ∧ Q' v h) hM C.g_z w4 w3 hf hl) (g := mkF m pc Ls st) rfl (by rw [C.g_ml]; exact hsz) (argsL := argsL) (rest := rest) hlen hst (by show 2 * 0 + _ ≤ _; exact hW) (hb C.g_by hd) (fun _ _ => ⟨rfl, eT, hc, hs⟩)
  dsimp only [Pt.U, Pt.locs, Pt.cells, Pt.slots] at X1 l1 y1 z1 st1 hQ1
  subst l1 y1 z1
  obtain ⟨t, o, h2, h3⟩ := r v T1.heap hQ1.2 T1 _ X1 rfl (Fr.app N hQ1.1)
  exact ⟨t, o, st1 _ h2, h3⟩
theorem own_callP (C : own_Ctx p s m meth c Z own nm bytes maxL ret) {i nf : Nat} {y : MethodName} {cb : ByteArray} {cm : Nat} {cret : Option FieldType} {rm : Room} {a : Addr} {argsL : List Value} {K : String} {Q' : Option Value → Heap → Prop} (W : Nat) (E : Exa Z h a K) (w1 : (Jvm.Cond.methodLink own i y).before a0 Z = true) (w2 : (Jvm.Cond.instanceMethod y).before a0 Z = true) (w3 : (Jvm.Cond.privateMethod y).before a0 Z = true) (w4 : (Jvm.Cond.instantiable y.cls nf).before a0 Z = true) (w5 : (Jvm.Cond.code y cb cm cret).before a0 Z = true) (w6 : (Jvm.Cond.initialized y.cls).before a0 Z = true) (hy : y.cls ≠ "java/lang/invoke/MethodHandle" ∧ y.cls ≠ "java/lang/invoke/VarHandle")
    (hM : own_Met l Z n0 y cb cm cret rm [] (.ref a :: argsL).toArray h Q') (hf : rm.frames + 1 ≤ R.frames) (hl : W + (cm + 11) + rm.locals ≤ R.locals) (hlen : ∀ sig, parseMethodDescriptor y.desc = some sig → argsL.length = sig.parameters.length) {st : List Value} (hst : st = argsL.reverse ++ .ref a :: rest) (hW : 0 + (rest.map fun v => v.category).sum ≤ W) (hd : decode bytes pc = .ok (.invokevirtual i, 3)) (hp : pc + 3 = pc') (hsz : Ls.size = maxL) (hc : k + rm.cells ≤ R.cells) (hs : q + rm.slots ≤ R.slots)
    (r : ∀ v h', Q' v h' → own_Run p l e R s m args below meth c n0 Kf h' (k + rm.cells) (q + rm.slots) (mkF m pc' Ls (v.toList ++ rest))) : own_Run p l e R s m args below meth c n0 Kf h k q (mkF m pc Ls st) := fun T locs X eT N => by
  subst hp
  have hK := backOf (l := l) (R := R) (p := p) (e := e) (s := s) (below := below) (args := args) (len := 3) (W := W) (Q := fun v h L => Fr n0 L ∧ Q' v h) hM C.g_z w5 w6 hf hl
  obtain ⟨mk, mM, hnamed, hmM, hsta, hab⟩ := Cond.instanceMethod_spec (mvT (args := args) C.g_z w2)
  obtain ⟨mM', cM, hmM', -, -, -, -, -, -, hsig⟩ := Cond.code_spec hnamed (mvT (args := args) C.g_z w5)
  cases hmM.symm.trans hmM'
  obtain ⟨cI, kI, i1, i2, -, i4, -⟩ := Cond.instantiable_spec (mvT (args := args) C.g_z w4)
  cases i1.symm.trans (findClass_of_methodNamed hnamed)
  have hni : kI.isInterface = false := (Bool.or_eq_false_iff.mp i4).1
  obtain ⟨cell, hc1, hc2⟩ := E.cell
  have hsel := selectMethod_private (p := e.platform) (c := cell.cls) hmM (Cond.privateMethod_at (mvP C.g_z w3 (args := #[])) mk mM hnamed hmM)
  obtain ⟨vm1, X1, st1⟩ := X.invokevirtual C.g_x C.g_own (mvT C.g_z w1) hnamed hmM hsta i2 hni hy (a := a) (cell := cell) (by rw [eT]; exact hc1) hc2 hsel hmM hab i2 hni (g := mkF m pc Ls st) rfl (argsL := argsL) (rest := rest) (hlen _ hsig) hst (hb C.g_by hd)
  obtain ⟨v, ⟨T1, L1, k1, n1⟩, X2, ⟨Lc1, hQ1, l1, y1, z1⟩, st2⟩ := hK m meth c ⟨T.setVm vm1, locs, k, q⟩ (mkF m pc Ls rest) (.invokevirtual i) mk (.ref a :: argsL).toArray X1 rfl (by rw [C.g_ml]; exact hsz) (hb C.g_by hd) (by show 2 * 0 + _ ≤ _; exact hW) (X1.named hnamed) ⟨rfl, eT, hc, hs⟩
  dsimp only [Pt.U, Pt.locs, Pt.cells, Pt.slots] at X2 l1 y1 z1 st2 hQ1
  subst l1 y1 z1
  obtain ⟨t, o, h2, h3⟩ := r v T1.heap hQ1.2 T1 _ X2 rfl (Fr.app N hQ1.1)
  exact ⟨t, o, st1 _ fun acts => by rw [doInvoke_state]; exact st2.trans h2, h3⟩
theorem own_ret (C : own_Ctx p s m meth c Z own nm bytes maxL ret) {v : Value} {t : FieldType} {i : Instr} (hret : ret = some t) (hn : narrow t v = v)
    (hi : (i = .ireturn ∧ (t = .int ∨ t = .boolean ∨ t = .byte ∨ t = .char ∨ t = .short) ∧ ∃ z, v = .int z) ∨ (i = .lreturn ∧ t = .long ∧ ∃ z, v = .long z) ∨ (i = .dreturn ∧ t = .double ∧ ∃ z, v = .double z) ∨ (i = .freturn ∧ t = .float ∧ ∃ z, v = .float z) ∨ (i = .areturn ∧ t.isReference = true ∧ v.isRef = true))
    (hd : decode bytes pc = .ok (i, 1)) (hc : k ≤ R.cells) (hs : q ≤ R.slots) (hQ : Q (some v) h) : own_Run p l e R s m args below meth c n0 (own_K below R s n0 Q) h k q (mkF m pc Ls (v :: rest)) := fun T locs X eT N => by
  have hlocks := C.g_lk
  obtain ⟨fs, hr, hrun, hended, hW, hsame⟩ := X.leave (v := some v) (fun hh => by rw [C.g_rt, hret] at hh; cases hh) hlocks
  refine ⟨_, _, retOut X C.g_x (C.g_rt.trans hret) hn hi (hb C.g_by hd) hr, hrun, hended, _, _, rfl, ⟨N, ?_⟩, ⟨_, rfl⟩, hW, hsame.mono hc hs⟩
  show Q (some v) T.heap
  rw [eT]; exact hQ
theorem own_retV (C : own_Ctx p s m meth c Z own nm bytes maxL ret) (hret : ret = none) (hd : decode bytes pc = .ok (.return_, 1)) (hc : k ≤ R.cells) (hs : q ≤ R.slots) (hQ : Q none h) : own_Run p l e R s m args below meth c n0 (own_K below R s n0 Q) h k q (mkF m pc Ls []) := fun T locs X eT N => by
  have hlocks := C.g_lk
  obtain ⟨fs, hr, hrun, hended, hW, hsame⟩ := X.leave (v := none) (fun _ => rfl) hlocks
  refine ⟨_, _, X.returnOut C.g_x (C.g_rt.trans hret) (hb C.g_by hd) hr, hrun, hended, _, _, rfl, ⟨N, ?_⟩, ⟨_, rfl⟩, hW, hsame.mono hc hs⟩
  show Q none T.heap
  rw [eT]; exact hQ
theorem own_refne {a b : Addr} (hn : a ≠ b) : ¬ (Value.ref a = Value.ref b) := fun e => hn (Value.ref.inj e)
theorem own_nb {v : Int32} (hv : v = 0 ∨ v = 1) : narrow .boolean (.int v) = .int v := by rcases hv with rfl | rfl <;> rfl
theorem own_fb {v : Int32} (hv : v = 0 ∨ v = 1) : fits .boolean (.int v) = true := by rcases hv with rfl | rfl <;> rfl
theorem own_join {α : Type} {g : JFrame} (P : α → Prop) (F : α → JFrame) (j : ∀ v, P v → own_Run p l e R s m args below meth c n0 Kf h k q (F v)) (r : (∀ v, P v → own_Run p l e R s m args below meth c n0 Kf h k q (F v)) → own_Run p l e R s m args below meth c n0 Kf h k q g) : own_Run p l e R s m args below meth c n0 Kf h k q g := r j
theorem own_join2 {α β : Type} {g : JFrame} (P : α → β → Prop) (F : α → β → JFrame) (j : ∀ v w, P v w → own_Run p l e R s m args below meth c n0 Kf h k q (F v w)) (r : (∀ v w, P v w → own_Run p l e R s m args below meth c n0 Kf h k q (F v w)) → own_Run p l e R s m args below meth c n0 Kf h k q g) : own_Run p l e R s m args below meth c n0 Kf h k q g := r j
theorem own_join3 {α β γ : Type} {g : JFrame} (P : α → β → γ → Prop) (F : α → β → γ → JFrame) (j : ∀ v w x, P v w x → own_Run p l e R s m args below meth c n0 Kf h k q (F v w x)) (r : (∀ v w x, P v w x → own_Run p l e R s m args below meth c n0 Kf h k q (F v w x)) → own_Run p l e R s m args below meth c n0 Kf h k q g) : own_Run p l e R s m args below meth c n0 Kf h k q g := r j
def own_upd {α : Type} (f : Nat → α) (i : Nat) (x : α) : Nat → α := fun j => if j = i then x else f j
theorem own_upd_eq {α : Type} (f : Nat → α) (i : Nat) (x : α) : own_upd f i x i = x := if_pos rfl
theorem own_upd_ne {α : Type} (f : Nat → α) {i j : Nat} (x : α) (hne : j ≠ i) : own_upd f i x j = f j := if_neg hne
/-- an array: her length, and what each place holds -/
def own_A (Z : State) (h : Heap) (a : Addr) (ty : FieldType) (n : Nat) (f : Nat → Value) : Prop := n < 2 ^ 31 ∧ ∃ cl : Cell, Arr Z h a cl ty ∧ cl.slots.size = n ∧ ∀ j, j < n → cl.slots[j]? = some (f j)
abbrev own_AI (Z : State) (h : Heap) (a : Addr) (n : Nat) (f : Nat → Int32) : Prop := own_A Z h a .int n (fun j => .int (f j))
abbrev own_AB (Z : State) (h : Heap) (a : Addr) (n : Nat) (f : Nat → Int32) : Prop := own_A Z h a .byte n (fun j => .int (f j))
abbrev own_AZ (Z : State) (h : Heap) (a : Addr) (n : Nat) (f : Nat → Int32) : Prop := own_A Z h a .boolean n (fun j => .int (f j))
abbrev own_AJ (Z : State) (h : Heap) (a : Addr) (n : Nat) (f : Nat → Int64) : Prop := own_A Z h a .long n (fun j => .long (f j))
theorem own_A.lt {h : Heap} {a : Addr} {ty : FieldType} {n : Nat} {f : Nat → Value} (V : own_A Z h a ty n f) : a < h.size := by obtain ⟨_, cl, A, _⟩ := V; exact A.lt
theorem own_A.ext {h h' : Heap} {a : Addr} {ty : FieldType} {n : Nat} {f : Nat → Value} (V : own_A Z h a ty n f) (E : Ext h h') : own_A Z h' a ty n f := by obtain ⟨hn, cl, A, r⟩ := V; exact ⟨hn, cl, A.ext E, r⟩
theorem own_A.other {h h' : Heap} {a b : Addr} {sl : Nat} {w : Value} {ty : FieldType} {n : Nat} {f : Nat → Value} (V : own_A Z h b ty n f) (W : Wr h h' a sl w) (hne : b ≠ a) : own_A Z h' b ty n f := by obtain ⟨hn, cl, A, r⟩ := V; exact ⟨hn, cl, A.other W hne, r⟩
theorem own_A.keep {h h' : Heap} {a : Addr} {ws : List Addr} {ty : FieldType} {n : Nat} {f : Nat → Value} (V : own_A Z h a ty n f) (K : Keep h h' ws) (hne : a ∉ ws) : own_A Z h' a ty n f := by obtain ⟨hn, cl, A, r⟩ := V; exact ⟨hn, cl, ⟨K.2.1 a cl A.1 hne, A.2⟩, r⟩
theorem own_A.congr {h : Heap} {a : Addr} {ty : FieldType} {n : Nat} {f g : Nat → Value} (V : own_A Z h a ty n f) (e : ∀ j, j < n → f j = g j) : own_A Z h a ty n g := by obtain ⟨hn, cl, A, S, H⟩ := V; exact ⟨hn, cl, A, S, fun j hj => by rw [← e j hj]; exact H j hj⟩
theorem own_A.set {h h' : Heap} {a : Addr} {i : Nat} {w : Value} {ty : FieldType} {n : Nat} {f : Nat → Value} (V : own_A Z h a ty n f) (W : Wr h h' a i w) (hi : i < n) : own_A Z h' a ty n (own_upd f i w) := by
  obtain ⟨hn, cl, A, S, H⟩ := V
  refine ⟨hn, _, A.same W, by rw [sz_set]; exact S, fun j hj => ?_⟩
  by_cases e : j = i
  · subst e
    rw [own_upd_eq]; simp [Cell.setSlot, S, hj]
  · rw [own_upd_ne _ _ e]
    show (cl.slots.setIfInBounds i w)[j]? = _
    rw [Array.getElem?_setIfInBounds_ne (Ne.symm e)]; exact H j hj
theorem own_nat {j : Int32} {i : Nat} (hj : j.toInt = (i : Int)) : ¬ j < 0 ∧ j.toNatClampNeg = i := by
  have z : (0 : Int32).toInt = 0 := rfl
  refine ⟨?_, ?_⟩
  · rw [Int32.lt_iff_toInt_lt]; omega
  · simp only [Int32.toNatClampNeg]; omega
theorem own_inb {j : Int32} {i : Nat} {cl : Cell} {n : Nat} (hj : j.toInt = (i : Int)) (S : cl.slots.size = n) (hi : i < n) : ¬ (j < 0 ∨ cl.slots.size ≤ j.toNatClampNeg) := by
  obtain ⟨h1, h2⟩ := own_nat hj
  rw [S, h2]; exact fun hh => hh.elim h1 (Nat.not_le.mpr hi)
theorem own_newA (C : own_Ctx p s m meth c Z own nm bytes maxL ret) {aty : ArrayType} (w : (Jvm.Cond.arrayClass (newarray.typeOf aty)).before a0 Z = true) (Z0 : n0 ≤ h.size) (hd : decode bytes pc = .ok (.newarray aty, 2)) (hp : pc + 2 = pc') {n : Int32} {nn cap : Nat} (hn : n.toInt = (nn : Int)) (hcap : nn ≤ cap) (hbig : cap * 8 ≤ 536870912) (hc : k + 1 ≤ R.cells) (hl : q + cap ≤ R.slots)
    (r : ∀ h' a, a = h.size → n0 ≤ a → n0 ≤ h'.size → Ext h h' → own_A Z h' a (newarray.typeOf aty) nn (fun _ => defaultValue (newarray.typeOf aty)) → own_Run p l e R s m args below meth c n0 Kf h' (k + 1) (q + cap) (mkF m pc' Ls (.ref a :: rest))) : own_Run p l e R s m args below meth c n0 Kf h k q (mkF m pc Ls (.int n :: rest)) := fun T locs X eT N => by
  subst hp
  obtain ⟨p1, p2⟩ := own_nat hn
  obtain ⟨T1, h1, cA, X1, e1, E1, A1, st1⟩ := newP X C.g_x C.g_z w eT (g := mkF m pc Ls (.int n :: rest)) rfl (hb C.g_by hd) rfl p1 (cap := cap) (by rw [p2]; exact hcap) hbig hc hl
  have V : own_A Z h1 h.size (newarray.typeOf aty) nn (fun _ => defaultValue (newarray.typeOf aty)) := by
    refine ⟨by have := Int32.toInt_lt n; omega, _, A1, by rw [sz_new, p2], fun j hj => ?_⟩
    simp [newA, p2, hj]
  obtain ⟨t, o, h2, h3⟩ := r h1 h.size rfl Z0 (Nat.le_trans Z0 E1.1) E1 V T1 _ X1 e1 N
  exact ⟨t, o, st1 _ h2, h3⟩
theorem own_newAI (C : own_Ctx p s m meth c Z own nm bytes maxL ret) (w : (Jvm.Cond.arrayClass .int).before a0 Z = true) (Z0 : n0 ≤ h.size) (hd : decode bytes pc = .ok (.newarray .int, 2)) (hp : pc + 2 = pc') {n : Int32} {nn cap : Nat} (hn : n.toInt = (nn : Int)) (hcap : nn ≤ cap) (hbig : cap * 8 ≤ 536870912) (hc : k + 1 ≤ R.cells) (hl : q + cap ≤ R.slots)
    (r : ∀ h' a, a = h.size → n0 ≤ a → n0 ≤ h'.size → Ext h h' → own_AI Z h' a nn (fun _ => (0 : Int32)) → own_Run p l e R s m args below meth c n0 Kf h' (k + 1) (q + cap) (mkF m pc' Ls (.ref a :: rest))) : own_Run p l e R s m args below meth c n0 Kf h k q (mkF m pc Ls (.int n :: rest)) := own_newA C (aty := .int) w Z0 hd hp hn hcap hbig hc hl r
theorem own_stI (C : own_Ctx p s m meth c Z own nm bytes maxL ret) {a : Addr} {n : Nat} {f : Nat → Int32} (V : own_AI Z h a n f) {j : Int32} {i : Nat} {x : Int32} (hj : j.toInt = (i : Int)) (hi : i < n) (ga : n0 ≤ a) (hd : decode bytes pc = .ok (.iastore, 1)) (hp : pc + 1 = pc')
    (r : ∀ h', Wr h h' a i (.int x) → own_AI Z h' a n (own_upd f i x) → own_Run p l e R s m args below meth c n0 Kf h' k q (mkF m pc' Ls rest)) : own_Run p l e R s m args below meth c n0 Kf h k q (mkF m pc Ls (.int x :: .int j :: .ref a :: rest)) := fun T locs X eT N => by
  subst hp
  obtain ⟨p1, p2⟩ := own_nat hj
  obtain ⟨hn, cl, A, S, H⟩ := id V
  obtain ⟨T1, h1, X1, e1, W1, st1⟩ := stI X C.g_x C.g_z eT A (own_inb hj S hi) (g := mkF m pc Ls (.int x :: .int j :: .ref a :: rest)) rfl rfl (hb C.g_by hd)
  have W2 : Wr h h1 a i (.int x) := by rw [← p2]; exact W1
  obtain ⟨t, o, h2, h3⟩ := r h1 W2 ((own_A.set V W2 hi).congr fun j hj => by by_cases e : j = i <;> simp [own_upd, e]) T1 _ X1 e1 (Fr.snoc X1 N ga)
  exact ⟨t, o, st1 _ h2, h3⟩
theorem own_lenI (C : own_Ctx p s m meth c Z own nm bytes maxL ret) {a : Addr} {n : Nat} {f : Nat → Int32} (V : own_AI Z h a n f) (hd : decode bytes pc = .ok (.arraylength, 1)) (hp : pc + 1 = pc') (r : own_Run p l e R s m args below meth c n0 Kf h k q (mkF m pc' Ls (.int (Nat.toInt32 n) :: rest))) : own_Run p l e R s m args below meth c n0 Kf h k q (mkF m pc Ls (.ref a :: rest)) := by
  obtain ⟨hn, cl, A, S, H⟩ := V
  subst hp
  rw [← S] at r
  exact own_st (fun T locs X eT t kk => X.arraylength C.g_x (by rw [eT]; exact A.1) (State.isArrayOf_alike C.g_z.alike A.2.1) (g := mkF m pc Ls (.ref a :: rest)) rfl rfl (hb C.g_by hd) t kk) r
theorem own_ldI (C : own_Ctx p s m meth c Z own nm bytes maxL ret) {a : Addr} {n : Nat} {f : Nat → Int32} (V : own_AI Z h a n f) {j : Int32} {i : Nat} (hj : j.toInt = (i : Int)) (hi : i < n) (hd : decode bytes pc = .ok (.iaload, 1)) (hp : pc + 1 = pc') (r : own_Run p l e R s m args below meth c n0 Kf h k q (mkF m pc' Ls (.int (f i) :: rest))) : own_Run p l e R s m args below meth c n0 Kf h k q (mkF m pc Ls (.int j :: .ref a :: rest)) := by
  obtain ⟨p1, p2⟩ := own_nat hj
  obtain ⟨hn, cl, A, S, H⟩ := V
  subst hp
  exact own_st (fun T locs X eT t kk => X.iaload C.g_x (by rw [eT]; exact A.1) (State.isArrayOf_alike C.g_z.alike A.2.1) A.2.2 (own_inb hj S hi) (by rw [p2]; exact H i hi) (g := mkF m pc Ls (.int j :: .ref a :: rest)) rfl rfl (hb C.g_by hd) t kk) r
theorem own_ldIV (C : own_Ctx p s m meth c Z own nm bytes maxL ret) {a : Addr} {n : Nat} {f : Nat → Int32} (V : own_AI Z h a n f) {j : Int32} {i : Nat} {v : Int32} (hj : j.toInt = (i : Int)) (hi : i < n) (hv : f i = v) (hd : decode bytes pc = .ok (.iaload, 1)) (hp : pc + 1 = pc') (r : own_Run p l e R s m args below meth c n0 Kf h k q (mkF m pc' Ls (.int v :: rest))) : own_Run p l e R s m args below meth c n0 Kf h k q (mkF m pc Ls (.int j :: .ref a :: rest)) := by
  subst hv; exact own_ldI C V hj hi hd hp r
theorem own_newAB (C : own_Ctx p s m meth c Z own nm bytes maxL ret) (w : (Jvm.Cond.arrayClass .byte).before a0 Z = true) (Z0 : n0 ≤ h.size) (hd : decode bytes pc = .ok (.newarray .byte, 2)) (hp : pc + 2 = pc') {n : Int32} {nn cap : Nat} (hn : n.toInt = (nn : Int)) (hcap : nn ≤ cap) (hbig : cap * 8 ≤ 536870912) (hc : k + 1 ≤ R.cells) (hl : q + cap ≤ R.slots)
    (r : ∀ h' a, a = h.size → n0 ≤ a → n0 ≤ h'.size → Ext h h' → own_AB Z h' a nn (fun _ => (0 : Int32)) → own_Run p l e R s m args below meth c n0 Kf h' (k + 1) (q + cap) (mkF m pc' Ls (.ref a :: rest))) : own_Run p l e R s m args below meth c n0 Kf h k q (mkF m pc Ls (.int n :: rest)) := own_newA C (aty := .byte) w Z0 hd hp hn hcap hbig hc hl r
theorem own_stB (C : own_Ctx p s m meth c Z own nm bytes maxL ret) {a : Addr} {n : Nat} {f : Nat → Int32} (V : own_AB Z h a n f) {j : Int32} {i : Nat} {x : Int32} (hj : j.toInt = (i : Int)) (hi : i < n) (ga : n0 ≤ a) (hd : decode bytes pc = .ok (.bastore, 1)) (hp : pc + 1 = pc')
    (r : ∀ h', Wr h h' a i (.int (x.toInt8.toInt32)) → own_AB Z h' a n (own_upd f i (x.toInt8.toInt32)) → own_Run p l e R s m args below meth c n0 Kf h' k q (mkF m pc' Ls rest)) : own_Run p l e R s m args below meth c n0 Kf h k q (mkF m pc Ls (.int x :: .int j :: .ref a :: rest)) := fun T locs X eT N => by
  subst hp
  obtain ⟨p1, p2⟩ := own_nat hj
  obtain ⟨hn, cl, A, S, H⟩ := id V
  obtain ⟨T1, h1, X1, e1, W1, st1⟩ := stB X C.g_x C.g_z eT A (own_inb hj S hi) (g := mkF m pc Ls (.int x :: .int j :: .ref a :: rest)) rfl rfl (hb C.g_by hd)
  have W2 : Wr h h1 a i (.int (x.toInt8.toInt32)) := by rw [← p2]; exact W1
  obtain ⟨t, o, h2, h3⟩ := r h1 W2 ((own_A.set V W2 hi).congr fun j hj => by by_cases e : j = i <;> simp [own_upd, e]) T1 _ X1 e1 (Fr.snoc X1 N ga)
  exact ⟨t, o, st1 _ h2, h3⟩
theorem own_lenB (C : own_Ctx p s m meth c Z own nm bytes maxL ret) {a : Addr} {n : Nat} {f : Nat → Int32} (V : own_AB Z h a n f) (hd : decode bytes pc = .ok (.arraylength, 1)) (hp : pc + 1 = pc') (r : own_Run p l e R s m args below meth c n0 Kf h k q (mkF m pc' Ls (.int (Nat.toInt32 n) :: rest))) : own_Run p l e R s m args below meth c n0 Kf h k q (mkF m pc Ls (.ref a :: rest)) := by
  obtain ⟨hn, cl, A, S, H⟩ := V
  subst hp
  rw [← S] at r
  exact own_st (fun T locs X eT t kk => X.arraylength C.g_x (by rw [eT]; exact A.1) (State.isArrayOf_alike C.g_z.alike A.2.1) (g := mkF m pc Ls (.ref a :: rest)) rfl rfl (hb C.g_by hd) t kk) r
theorem own_ldB (C : own_Ctx p s m meth c Z own nm bytes maxL ret) {a : Addr} {n : Nat} {f : Nat → Int32} (V : own_AB Z h a n f) {j : Int32} {i : Nat} (hj : j.toInt = (i : Int)) (hi : i < n) (hd : decode bytes pc = .ok (.baload, 1)) (hp : pc + 1 = pc') (r : own_Run p l e R s m args below meth c n0 Kf h k q (mkF m pc' Ls (.int (f i) :: rest))) : own_Run p l e R s m args below meth c n0 Kf h k q (mkF m pc Ls (.int j :: .ref a :: rest)) := by
  obtain ⟨p1, p2⟩ := own_nat hj
  obtain ⟨hn, cl, A, S, H⟩ := V
  subst hp
  exact own_st (fun T locs X eT t kk => X.baloadBytes C.g_x (by rw [eT]; exact A.1) (State.isArrayOf_alike C.g_z.alike A.2.1) A.2.2 (own_inb hj S hi) (by rw [p2]; exact H i hi) (g := mkF m pc Ls (.int j :: .ref a :: rest)) rfl rfl (hb C.g_by hd) t kk) r
theorem own_ldBV (C : own_Ctx p s m meth c Z own nm bytes maxL ret) {a : Addr} {n : Nat} {f : Nat → Int32} (V : own_AB Z h a n f) {j : Int32} {i : Nat} {v : Int32} (hj : j.toInt = (i : Int)) (hi : i < n) (hv : f i = v) (hd : decode bytes pc = .ok (.baload, 1)) (hp : pc + 1 = pc') (r : own_Run p l e R s m args below meth c n0 Kf h k q (mkF m pc' Ls (.int v :: rest))) : own_Run p l e R s m args below meth c n0 Kf h k q (mkF m pc Ls (.int j :: .ref a :: rest)) := by
  subst hv; exact own_ldB C V hj hi hd hp r
theorem own_newAZ (C : own_Ctx p s m meth c Z own nm bytes maxL ret) (w : (Jvm.Cond.arrayClass .boolean).before a0 Z = true) (Z0 : n0 ≤ h.size) (hd : decode bytes pc = .ok (.newarray .boolean, 2)) (hp : pc + 2 = pc') {n : Int32} {nn cap : Nat} (hn : n.toInt = (nn : Int)) (hcap : nn ≤ cap) (hbig : cap * 8 ≤ 536870912) (hc : k + 1 ≤ R.cells) (hl : q + cap ≤ R.slots)
    (r : ∀ h' a, a = h.size → n0 ≤ a → n0 ≤ h'.size → Ext h h' → own_AZ Z h' a nn (fun _ => (0 : Int32)) → own_Run p l e R s m args below meth c n0 Kf h' (k + 1) (q + cap) (mkF m pc' Ls (.ref a :: rest))) : own_Run p l e R s m args below meth c n0 Kf h k q (mkF m pc Ls (.int n :: rest)) := own_newA C (aty := .boolean) w Z0 hd hp hn hcap hbig hc hl r
theorem own_stZ (C : own_Ctx p s m meth c Z own nm bytes maxL ret) {a : Addr} {n : Nat} {f : Nat → Int32} (V : own_AZ Z h a n f) {j : Int32} {i : Nat} {x : Int32} (hj : j.toInt = (i : Int)) (hi : i < n) (ga : n0 ≤ a) (hd : decode bytes pc = .ok (.bastore, 1)) (hp : pc + 1 = pc')
    (r : ∀ h', Wr h h' a i (.int (x &&& 1)) → own_AZ Z h' a n (own_upd f i (x &&& 1)) → own_Run p l e R s m args below meth c n0 Kf h' k q (mkF m pc' Ls rest)) : own_Run p l e R s m args below meth c n0 Kf h k q (mkF m pc Ls (.int x :: .int j :: .ref a :: rest)) := fun T locs X eT N => by
  subst hp
  obtain ⟨p1, p2⟩ := own_nat hj
  obtain ⟨hn, cl, A, S, H⟩ := id V
  obtain ⟨T1, h1, X1, e1, W1, st1⟩ := stZ X C.g_x C.g_z eT A (own_inb hj S hi) (g := mkF m pc Ls (.int x :: .int j :: .ref a :: rest)) rfl rfl (hb C.g_by hd)
  have W2 : Wr h h1 a i (.int (x &&& 1)) := by rw [← p2]; exact W1
  obtain ⟨t, o, h2, h3⟩ := r h1 W2 ((own_A.set V W2 hi).congr fun j hj => by by_cases e : j = i <;> simp [own_upd, e]) T1 _ X1 e1 (Fr.snoc X1 N ga)
  exact ⟨t, o, st1 _ h2, h3⟩
theorem own_lenZ (C : own_Ctx p s m meth c Z own nm bytes maxL ret) {a : Addr} {n : Nat} {f : Nat → Int32} (V : own_AZ Z h a n f) (hd : decode bytes pc = .ok (.arraylength, 1)) (hp : pc + 1 = pc') (r : own_Run p l e R s m args below meth c n0 Kf h k q (mkF m pc' Ls (.int (Nat.toInt32 n) :: rest))) : own_Run p l e R s m args below meth c n0 Kf h k q (mkF m pc Ls (.ref a :: rest)) := by
  obtain ⟨hn, cl, A, S, H⟩ := V
  subst hp
  rw [← S] at r
  exact own_st (fun T locs X eT t kk => X.arraylength C.g_x (by rw [eT]; exact A.1) (State.isArrayOf_alike C.g_z.alike A.2.1) (g := mkF m pc Ls (.ref a :: rest)) rfl rfl (hb C.g_by hd) t kk) r
theorem own_newAJ (C : own_Ctx p s m meth c Z own nm bytes maxL ret) (w : (Jvm.Cond.arrayClass .long).before a0 Z = true) (Z0 : n0 ≤ h.size) (hd : decode bytes pc = .ok (.newarray .long, 2)) (hp : pc + 2 = pc') {n : Int32} {nn cap : Nat} (hn : n.toInt = (nn : Int)) (hcap : nn ≤ cap) (hbig : cap * 8 ≤ 536870912) (hc : k + 1 ≤ R.cells) (hl : q + cap ≤ R.slots)
    (r : ∀ h' a, a = h.size → n0 ≤ a → n0 ≤ h'.size → Ext h h' → own_AJ Z h' a nn (fun _ => (0 : Int64)) → own_Run p l e R s m args below meth c n0 Kf h' (k + 1) (q + cap) (mkF m pc' Ls (.ref a :: rest))) : own_Run p l e R s m args below meth c n0 Kf h k q (mkF m pc Ls (.int n :: rest)) := own_newA C (aty := .long) w Z0 hd hp hn hcap hbig hc hl r
theorem own_stJ (C : own_Ctx p s m meth c Z own nm bytes maxL ret) {a : Addr} {n : Nat} {f : Nat → Int64} (V : own_AJ Z h a n f) {j : Int32} {i : Nat} {x : Int64} (hj : j.toInt = (i : Int)) (hi : i < n) (ga : n0 ≤ a) (hd : decode bytes pc = .ok (.lastore, 1)) (hp : pc + 1 = pc')
    (r : ∀ h', Wr h h' a i (.long x) → own_AJ Z h' a n (own_upd f i x) → own_Run p l e R s m args below meth c n0 Kf h' k q (mkF m pc' Ls rest)) : own_Run p l e R s m args below meth c n0 Kf h k q (mkF m pc Ls (.long x :: .int j :: .ref a :: rest)) := fun T locs X eT N => by
  subst hp
  obtain ⟨p1, p2⟩ := own_nat hj
  obtain ⟨hn, cl, A, S, H⟩ := id V
  obtain ⟨T1, h1, X1, e1, W1, st1⟩ := stJ X C.g_x C.g_z eT A (own_inb hj S hi) (g := mkF m pc Ls (.long x :: .int j :: .ref a :: rest)) rfl rfl (hb C.g_by hd)
  have W2 : Wr h h1 a i (.long x) := by rw [← p2]; exact W1
  obtain ⟨t, o, h2, h3⟩ := r h1 W2 ((own_A.set V W2 hi).congr fun j hj => by by_cases e : j = i <;> simp [own_upd, e]) T1 _ X1 e1 (Fr.snoc X1 N ga)
  exact ⟨t, o, st1 _ h2, h3⟩
theorem own_lenJ (C : own_Ctx p s m meth c Z own nm bytes maxL ret) {a : Addr} {n : Nat} {f : Nat → Int64} (V : own_AJ Z h a n f) (hd : decode bytes pc = .ok (.arraylength, 1)) (hp : pc + 1 = pc') (r : own_Run p l e R s m args below meth c n0 Kf h k q (mkF m pc' Ls (.int (Nat.toInt32 n) :: rest))) : own_Run p l e R s m args below meth c n0 Kf h k q (mkF m pc Ls (.ref a :: rest)) := by
  obtain ⟨hn, cl, A, S, H⟩ := V
  subst hp
  rw [← S] at r
  exact own_st (fun T locs X eT t kk => X.arraylength C.g_x (by rw [eT]; exact A.1) (State.isArrayOf_alike C.g_z.alike A.2.1) (g := mkF m pc Ls (.ref a :: rest)) rfl rfl (hb C.g_by hd) t kk) r
end Own

theorem own_succ (i : Nat) : Nat.toInt32 i + (1 : Int32) = Nat.toInt32 (i + 1) := by
  show Int32.ofNat i + Int32.ofNat 1 = Int32.ofNat (i + 1)
  rw [Int32.ofNat_add]
theorem own_ti {i : Nat} (hi : i < 2 ^ 31) : (Nat.toInt32 i).toInt = (i : Int) := len_toInt hi
theorem own_tlt {i n : Nat} (hi : i < 2 ^ 31) (hn : n < 2 ^ 31) : Nat.toInt32 i < Nat.toInt32 n ↔ i < n := by
  rw [Int32.lt_iff_toInt_lt, own_ti hi, own_ti hn]; omega
theorem own_nz {n : Int32} {N : Nat} (hn : n.toInt = (N : Int)) (h0 : 0 < N) : n ≠ 0 := by
  intro e; subst e
  have z : (0 : Int32).toInt = 0 := rfl
  omega
theorem own_pos (p : Int32) : ∃ P : Nat, (p &&& (2147483647 : Int32)).toInt = (P : Int) ∧ P < 2147483648 := by
  have h1 := (Jvm.RoadKit.c_andS p (2147483647 : Int32)).2.2 (by decide)
  have h2 := Int32.toInt_lt (p &&& (2147483647 : Int32))
  exact ⟨(p &&& (2147483647 : Int32)).toInt.toNat, by omega, by omega⟩
theorem own_mod {x n : Int32} {X N : Nat} (hx : x.toInt = (X : Int)) (hn : n.toInt = (N : Int)) (h0 : 0 < N) : (x % n).toInt = ((X % N : Nat) : Int) := by
  have h := Int32.toInt_lt n
  rw [Int32.toInt_mod, hx, hn, Int.tmod_eq_emod_of_nonneg (by omega)]
  rfl
theorem own_rem (p : Int32) {n : Int32} {N : Nat} (hn : n.toInt = (N : Int)) (h0 : 0 < N) : ∃ A : Nat, A < N ∧ ((p &&& (2147483647 : Int32)) % n).toInt = (A : Int) := by
  obtain ⟨P, hP, _⟩ := own_pos p
  exact ⟨P % N, Nat.mod_lt _ h0, own_mod hP hn h0⟩
theorem own_add {x y : Int32} {X Y : Nat} (hx : x.toInt = (X : Int)) (hy : y.toInt = (Y : Int)) (hb : X + Y < 2147483648) : (x + y).toInt = ((X + Y : Nat) : Int) := by
  rw [Jvm.Free.XT.add32 ⟨by rw [hx, hy]; omega, by rw [hx, hy]; omega⟩, hx, hy]; omega
theorem own_sub1 {x : Int32} {X : Nat} (hx : x.toInt = (X : Int)) (h0 : 0 < X) : (x - (1 : Int32)).toInt = ((X - 1 : Nat) : Int) := by
  have h := Int32.toInt_lt x
  have o : (1 : Int32).toInt = 1 := rfl
  rw [Jvm.Free.XT.sub32 ⟨by rw [hx, o]; omega, by rw [hx, o]; omega⟩, hx, o]; omega
theorem own_inj {x y : Int32} {X Y : Nat} (hx : x.toInt = (X : Int)) (hy : y.toInt = (Y : Int)) : x = y ↔ X = Y := by
  rw [← Int32.toInt_inj, hx, hy]; omega
theorem own_low (p m : Int32) (M : Nat) (hm : m.toBitVec.toNat = M) (hM : M < 2147483648) : ∃ P : Nat, P ≤ M ∧ (p &&& m).toInt = (P : Int) := by
  have e : (p &&& m).toBitVec = p.toBitVec &&& m.toBitVec := rfl
  have l : (p &&& m).toBitVec.toNat ≤ M := by rw [e, BitVec.toNat_and, ← hm]; exact Nat.and_le_right
  refine ⟨(p &&& m).toBitVec.toNat, l, ?_⟩
  show (p &&& m).toBitVec.toInt = _
  rw [BitVec.toInt_eq_toNat_cond]; split <;> omega
theorem own_m4 (p : Int32) : (p &&& (3 : Int32)) = 0 ∨ (p &&& (3 : Int32)) = 1 ∨ (p &&& (3 : Int32)) = 2 ∨ (p &&& (3 : Int32)) = 3 := by
  obtain ⟨P, h1, h2⟩ := own_low p 3 3 rfl (by decide)
  have t : P = 0 ∨ P = 1 ∨ P = 2 ∨ P = 3 := by omega
  rcases t with rfl | rfl | rfl | rfl
  · exact Or.inl (Int32.toInt_inj.mp h2)
  · exact Or.inr (Or.inl (Int32.toInt_inj.mp h2))
  · exact Or.inr (Or.inr (Or.inl (Int32.toInt_inj.mp h2)))
  · exact Or.inr (Or.inr (Or.inr (Int32.toInt_inj.mp h2)))
theorem own_nn (x : Int32) : ¬ ((x &&& (127 : Int32)).toInt8.toInt32).toInt8.toInt32 < 0 := by
  obtain ⟨P, h1, h2⟩ := own_low x 127 127 rfl (by decide)
  have e : x &&& (127 : Int32) = Int32.ofNat P := by
    apply Int32.toInt_inj.mp; rw [h2]; exact (Int32.toInt_ofNat_small (by omega)).symm
  rw [e]
  have key : ∀ n : Fin 128, ¬ ((Int32.ofNat n.1).toInt8.toInt32).toInt8.toInt32 < 0 := by decide +kernel
  exact key ⟨P, by omega⟩

theorem own_d1_0 : decode prog_17_method_1_code 0 = .ok (.aload_n 0, 1) := by decide +kernel
theorem own_d1_1 : decode prog_17_method_1_code 1 = .ok (.invokespecial 1, 3) := by decide +kernel
theorem own_d1_4 : decode prog_17_method_1_code 4 = .ok (.aload_n 0, 1) := by decide +kernel
theorem own_d1_5 : decode prog_17_method_1_code 5 = .ok (.aload_n 1, 1) := by decide +kernel
theorem own_d1_6 : decode prog_17_method_1_code 6 = .ok (.putfield 7, 3) := by decide +kernel
theorem own_d1_9 : decode prog_17_method_1_code 9 = .ok (.return_, 1) := by decide +kernel
theorem own_d3_0 : decode prog_17_method_2_code 0 = .ok (.aload_n 0, 1) := by decide +kernel
theorem own_d3_1 : decode prog_17_method_2_code 1 = .ok (.getfield 13, 3) := by decide +kernel
theorem own_d3_4 : decode prog_17_method_2_code 4 = .ok (.aload_n 0, 1) := by decide +kernel
theorem own_d3_5 : decode prog_17_method_2_code 5 = .ok (.getfield 7, 3) := by decide +kernel
theorem own_d3_8 : decode prog_17_method_2_code 8 = .ok (.arraylength, 1) := by decide +kernel
theorem own_d3_9 : decode prog_17_method_2_code 9 = .ok (.if_icmp .ne 7, 3) := by decide +kernel
theorem own_d3_12 : decode prog_17_method_2_code 12 = .ok (.iconst 1, 1) := by decide +kernel
theorem own_d3_13 : decode prog_17_method_2_code 13 = .ok (.goto 4, 3) := by decide +kernel
theorem own_d3_16 : decode prog_17_method_2_code 16 = .ok (.iconst 0, 1) := by decide +kernel
theorem own_d3_17 : decode prog_17_method_2_code 17 = .ok (.ireturn, 1) := by decide +kernel
theorem own_d4_0 : decode prog_17_method_3_code 0 = .ok (.iconst 0, 1) := by decide +kernel
theorem own_d4_1 : decode prog_17_method_3_code 1 = .ok (.istore_n 1, 1) := by decide +kernel
theorem own_d4_2 : decode prog_17_method_3_code 2 = .ok (.iconst 0, 1) := by decide +kernel
theorem own_d4_3 : decode prog_17_method_3_code 3 = .ok (.istore_n 2, 1) := by decide +kernel
theorem own_d4_4 : decode prog_17_method_3_code 4 = .ok (.aload_n 0, 1) := by decide +kernel
theorem own_d4_5 : decode prog_17_method_3_code 5 = .ok (.getfield 7, 3) := by decide +kernel
theorem own_d4_8 : decode prog_17_method_3_code 8 = .ok (.aload_n 0, 1) := by decide +kernel
theorem own_d4_9 : decode prog_17_method_3_code 9 = .ok (.dup, 1) := by decide +kernel
theorem own_d4_10 : decode prog_17_method_3_code 10 = .ok (.getfield 13, 3) := by decide +kernel
theorem own_d4_13 : decode prog_17_method_3_code 13 = .ok (.dup_x1, 1) := by decide +kernel
theorem own_d4_14 : decode prog_17_method_3_code 14 = .ok (.iconst 1, 1) := by decide +kernel
theorem own_d4_15 : decode prog_17_method_3_code 15 = .ok (.iadd, 1) := by decide +kernel
theorem own_d4_16 : decode prog_17_method_3_code 16 = .ok (.putfield 13, 3) := by decide +kernel
theorem own_d4_19 : decode prog_17_method_3_code 19 = .ok (.baload, 1) := by decide +kernel
theorem own_d4_20 : decode prog_17_method_3_code 20 = .ok (.istore_n 3, 1) := by decide +kernel
theorem own_d4_21 : decode prog_17_method_3_code 21 = .ok (.iload_n 1, 1) := by decide +kernel
theorem own_d4_22 : decode prog_17_method_3_code 22 = .ok (.iload_n 3, 1) := by decide +kernel
theorem own_d4_23 : decode prog_17_method_3_code 23 = .ok (.bipush 127, 2) := by decide +kernel
theorem own_d4_25 : decode prog_17_method_3_code 25 = .ok (.iand, 1) := by decide +kernel
theorem own_d4_26 : decode prog_17_method_3_code 26 = .ok (.iload_n 2, 1) := by decide +kernel
theorem own_d4_27 : decode prog_17_method_3_code 27 = .ok (.ishl, 1) := by decide +kernel
theorem own_d4_28 : decode prog_17_method_3_code 28 = .ok (.ior, 1) := by decide +kernel
theorem own_d4_29 : decode prog_17_method_3_code 29 = .ok (.istore_n 1, 1) := by decide +kernel
theorem own_d4_30 : decode prog_17_method_3_code 30 = .ok (.iinc 2 7, 3) := by decide +kernel
theorem own_d4_33 : decode prog_17_method_3_code 33 = .ok (.iload_n 3, 1) := by decide +kernel
theorem own_d4_34 : decode prog_17_method_3_code 34 = .ok (.ifCond .lt (-30), 3) := by decide +kernel
theorem own_d4_37 : decode prog_17_method_3_code 37 = .ok (.iload_n 1, 1) := by decide +kernel
theorem own_d4_38 : decode prog_17_method_3_code 38 = .ok (.ireturn, 1) := by decide +kernel
theorem own_d5_0 : decode method_2_code 0 = .ok (.aload_n 0, 1) := by decide +kernel
theorem own_d5_1 : decode method_2_code 1 = .ok (.iload_n 1, 1) := by decide +kernel
theorem own_d5_2 : decode method_2_code 2 = .ok (.baload, 1) := by decide +kernel
theorem own_d5_3 : decode method_2_code 3 = .ok (.ifCond .lt 7, 3) := by decide +kernel
theorem own_d5_6 : decode method_2_code 6 = .ok (.iload_n 1, 1) := by decide +kernel
theorem own_d5_7 : decode method_2_code 7 = .ok (.iconst 1, 1) := by decide +kernel
theorem own_d5_8 : decode method_2_code 8 = .ok (.iadd, 1) := by decide +kernel
theorem own_d5_9 : decode method_2_code 9 = .ok (.ireturn, 1) := by decide +kernel
theorem own_d5_10 : decode method_2_code 10 = .ok (.aload_n 0, 1) := by decide +kernel
theorem own_d5_11 : decode method_2_code 11 = .ok (.iload_n 1, 1) := by decide +kernel
theorem own_d5_12 : decode method_2_code 12 = .ok (.iconst 1, 1) := by decide +kernel
theorem own_d5_13 : decode method_2_code 13 = .ok (.iadd, 1) := by decide +kernel
theorem own_d5_14 : decode method_2_code 14 = .ok (.baload, 1) := by decide +kernel
theorem own_d5_15 : decode method_2_code 15 = .ok (.ifCond .lt 7, 3) := by decide +kernel
theorem own_d5_18 : decode method_2_code 18 = .ok (.iload_n 1, 1) := by decide +kernel
theorem own_d5_19 : decode method_2_code 19 = .ok (.iconst 2, 1) := by decide +kernel
theorem own_d5_20 : decode method_2_code 20 = .ok (.iadd, 1) := by decide +kernel
theorem own_d5_21 : decode method_2_code 21 = .ok (.ireturn, 1) := by decide +kernel
theorem own_d5_22 : decode method_2_code 22 = .ok (.iload_n 1, 1) := by decide +kernel
theorem own_d5_23 : decode method_2_code 23 = .ok (.iconst 3, 1) := by decide +kernel
theorem own_d5_24 : decode method_2_code 24 = .ok (.iadd, 1) := by decide +kernel
theorem own_d5_25 : decode method_2_code 25 = .ok (.ireturn, 1) := by decide +kernel
theorem own_pn0 : plainName "com/example/words_to_weights/wordstoweights/index/VarIntReader" = true := by first | (simp [plainName, overriddenIn]; done) | decide +kernel
theorem own_pn1 : plainName "com/example/words_to_weights/wordstoweights/index/VarIntReaderAtEndPinLaw" = true := by first | (simp [plainName, overriddenIn]; done) | decide +kernel
theorem own_pd0 : parseMethodDescriptor "([B)V" = some ⟨[(.array .byte)], none⟩ := by decide +kernel
theorem own_pd1 : parseMethodDescriptor "()Z" = some ⟨[], some .boolean⟩ := by decide +kernel
theorem own_pd2 : parseMethodDescriptor "()I" = some ⟨[], some .int⟩ := by decide +kernel
theorem own_pd3 : parseMethodDescriptor "([BI)I" = some ⟨[(.array .byte), .int], some .int⟩ := by decide +kernel
set_option maxRecDepth 65536 in
set_option maxHeartbeats 40000000 in
theorem own_m1 {l : Launch} {Z : State} {a0 : Array Value} (hw : ∀ d ∈ tables_1, d.before a0 Z = true) {n0 : Nat} {ws : List Jvm.Cond} {h : Heap} (a : Addr) (ar : Addr) (Z0 : n0 ≤ h.size) (f0 : Exa Z h a "com/example/words_to_weights/wordstoweights/index/VarIntReader") (f1 : n0 ≤ a) (f2 : Fld Z h a "com/example/words_to_weights/wordstoweights/index/VarIntReader" "bytes" "[B" .null) (f3 : Fld Z h a "com/example/words_to_weights/wordstoweights/index/VarIntReader" "position" "I" (.int (0 : Int32))) :
    own_Met l Z n0 (⟨"com/example/words_to_weights/wordstoweights/index/VarIntReader", "<init>", "([B)V"⟩ : MethodName) prog_17_method_1_code 2 none ({ frames := 1, cells := 0, slots := 0, locals := 12 } : Room) ws #[(.ref a), (.ref ar)] h (fun v h' => (v = none) ∧ (Keep h h' [a]) ∧ (Exa Z h' a "com/example/words_to_weights/wordstoweights/index/VarIntReader") ∧ (Fld Z h' a "com/example/words_to_weights/wordstoweights/index/VarIntReader" "bytes" "[B" (.ref ar)) ∧ (Fld Z h' a "com/example/words_to_weights/wordstoweights/index/VarIntReader" "position" "I" (.int (0 : Int32)))) := by
  refine own_met own_pn0 #[.val (.ref a), .val (.ref ar)] (fun m => by first | (simp [entryFrame, mkF, argsToLocals, Value.category]; done) | rfl) ?_
  intro p_ e_ s_ m_ b_ mt_ c_ C
  replace C : own_Ctx p_ s_ m_ mt_ c_ Z "com/example/words_to_weights/wordstoweights/index/VarIntReader" "<init>" prog_17_method_1_code 2 none := C
  have K0 : Keep h h [a] := Keep.refl _ _
  refine own_aloadN C (pc' := 1) own_d1_0 rfl rfl rfl ?_
  refine own_initO C (pc' := 4) (W := 0) (hw _ (List.mem_of_getElem? (i := 7) rfl)) (hw _ (List.mem_of_getElem? (i := 8) rfl)) (hw _ (List.mem_of_getElem? (i := 9) rfl)) own_d1_1 rfl rfl (by decide) (Nat.le_of_eq rfl) (by decide) ?_
  refine own_aloadN C (pc' := 5) own_d1_4 rfl rfl rfl ?_
  refine own_aloadN C (pc' := 6) own_d1_5 rfl rfl rfl ?_
  refine own_putF C (pc' := 9) (hw _ (List.mem_of_getElem? (i := 10) rfl)) f2 f0 (Or.inr ⟨(hw _ (List.mem_of_getElem? (i := 11) rfl)), rfl, rfl⟩) (hw _ (List.mem_of_getElem? (i := 2) rfl)) (ty := (.array .byte)) (by decide) rfl rfl f1 own_d1_6 rfl (fun h1 W2 => ?_)
  have Z3 : n0 ≤ h1.size := Nat.le_trans Z0 (Nat.le_of_eq (Wr.size W2).symm)
  have K4 := Keep.wr K0 W2 (Or.inl (List.mem_of_getElem? (i := 0) rfl))
  have F5 : Exa Z h1 a "com/example/words_to_weights/wordstoweights/index/VarIntReader" := Exa.wr W2 f0
  have F6 : Fld Z h1 a "com/example/words_to_weights/wordstoweights/index/VarIntReader" "bytes" "[B" (.ref ar) := Fld.same W2 f2
  have F7 : Fld Z h1 a "com/example/words_to_weights/wordstoweights/index/VarIntReader" "position" "I" (.int (0 : Int32)) := Fld.other W2 f3 (Or.inr (slot_ne (Or.inl (hw _ (List.mem_of_getElem? (i := 18) rfl))) (Or.inr (hw _ (List.mem_of_getElem? (i := 11) rfl))) (by decide) (t := .int) (t' := (.array .byte)) (by decide) (by decide)))
  exact own_retV C rfl own_d1_9 (by decide) (by decide) (⟨rfl, K4, F5, F6, F7⟩)
set_option maxRecDepth 65536 in
set_option maxHeartbeats 40000000 in
theorem own_m3 {l : Launch} {Z : State} {a0 : Array Value} (hw : ∀ d ∈ tables_1, d.before a0 Z = true) {n0 : Nat} {ws : List Jvm.Cond} {h : Heap} (a : Addr) (ar : Addr) (n : Nat) (f : Nat → Int32) (p : Int32) (b : Int32) (Z0 : n0 ≤ h.size) (f0 : Fld Z h a "com/example/words_to_weights/wordstoweights/index/VarIntReader" "position" "I" (.int p)) (f1 : Fld Z h a "com/example/words_to_weights/wordstoweights/index/VarIntReader" "bytes" "[B" (.ref ar)) (f2 : own_AB Z h ar n f) (hb : (if p = (Nat.toInt32 n) then (1 : Int32) else (0 : Int32)) = b) :
    own_Met l Z n0 (⟨"com/example/words_to_weights/wordstoweights/index/VarIntReader", "atEnd", "()Z"⟩ : MethodName) prog_17_method_2_code 1 (some .boolean) ({ frames := 0, cells := 0, slots := 0, locals := 0 } : Room) ws #[(.ref a)] h (fun v h' => (v = some (.int b)) ∧ (h = h')) := by
  refine own_met own_pn0 #[.val (.ref a)] (fun m => by first | (simp [entryFrame, mkF, argsToLocals, Value.category]; done) | rfl) ?_
  intro p_ e_ s_ m_ b_ mt_ c_ C
  replace C : own_Ctx p_ s_ m_ mt_ c_ Z "com/example/words_to_weights/wordstoweights/index/VarIntReader" "atEnd" prog_17_method_2_code 1 (some .boolean) := C
  refine own_aloadN C (pc' := 1) own_d3_0 rfl rfl rfl ?_
  refine own_getF C (pc' := 4) (hw _ (List.mem_of_getElem? (i := 17) rfl)) f0 own_d3_1 rfl ?_
  refine own_aloadN C (pc' := 5) own_d3_4 rfl rfl rfl ?_
  refine own_getF C (pc' := 8) (hw _ (List.mem_of_getElem? (i := 10) rfl)) f1 own_d3_5 rfl ?_
  refine own_lenB C (pc' := 9) f2 own_d3_8 rfl ?_
  refine own_ii_ne C (pc1 := 16) (pc2 := 12) own_d3_9 rfl rfl (fun c8 => ?_) (fun c8 => ?_)
  · skip
    refine own_iconst C (pc' := 17) (v := (0 : Int32)) own_d3_16 rfl (by decide) ?_
    exact own_ret C (t := .boolean) rfl rfl (Or.inl ⟨rfl, by simp, _, rfl⟩) own_d3_17 (by decide) (by decide) (⟨by rw [← hb, if_neg c8], rfl⟩)
  · skip
    refine own_iconst C (pc' := 13) (v := (1 : Int32)) own_d3_12 rfl (by decide) ?_
    refine own_goto C (pc' := 17) own_d3_13 rfl ?_
    exact own_ret C (t := .boolean) rfl rfl (Or.inl ⟨rfl, by simp, _, rfl⟩) own_d3_17 (by decide) (by decide) (⟨by rw [← hb, if_pos c8], rfl⟩)
set_option maxRecDepth 65536 in
set_option maxHeartbeats 40000000 in
theorem own_read1 {l : Launch} {Z : State} {a0 : Array Value} (hw : ∀ d ∈ tables_1, d.before a0 Z = true) {n0 : Nat} {ws : List Jvm.Cond} {h : Heap} (a : Addr) (ar : Addr) (n : Nat) (f : Nat → Int32) (p : Int32) (q0 : Nat) (p' : Int32) (Z0 : n0 ≤ h.size) (f0 : Exa Z h a "com/example/words_to_weights/wordstoweights/index/VarIntReader") (f1 : n0 ≤ a) (f2 : a ≠ ar) (f3 : Fld Z h a "com/example/words_to_weights/wordstoweights/index/VarIntReader" "bytes" "[B" (.ref ar)) (f4 : Fld Z h a "com/example/words_to_weights/wordstoweights/index/VarIntReader" "position" "I" (.int p)) (f5 : own_AB Z h ar n f) (h0 : p.toInt = (q0 : Int)) (b0 : q0 < n) (s0 : ¬ (f q0) < 0) (hp : (p + (1 : Int32)) = p') :
    own_Met l Z n0 (⟨"com/example/words_to_weights/wordstoweights/index/VarIntReader", "read", "()I"⟩ : MethodName) prog_17_method_3_code 4 (some .int) ({ frames := 0, cells := 0, slots := 0, locals := 0 } : Room) ws #[(.ref a)] h (fun v h' => (v = some (.int ((0 : Int32) ||| (((f q0) &&& (127 : Int32)) <<< ((0 : Int32) &&& 31))))) ∧ (Keep h h' [a]) ∧ (Exa Z h' a "com/example/words_to_weights/wordstoweights/index/VarIntReader") ∧ (Fld Z h' a "com/example/words_to_weights/wordstoweights/index/VarIntReader" "bytes" "[B" (.ref ar)) ∧ (Fld Z h' a "com/example/words_to_weights/wordstoweights/index/VarIntReader" "position" "I" (.int p'))) := by
  refine own_met own_pn0 #[.val (.ref a), .unset, .unset, .unset] (fun m => by first | (simp [entryFrame, mkF, argsToLocals, Value.category]; done) | rfl) ?_
  intro p_ e_ s_ m_ b_ mt_ c_ C
  replace C : own_Ctx p_ s_ m_ mt_ c_ Z "com/example/words_to_weights/wordstoweights/index/VarIntReader" "read" prog_17_method_3_code 4 (some .int) := C
  have K0 : Keep h h [a] := Keep.refl _ _
  refine own_iconst C (pc' := 1) (v := (0 : Int32)) own_d4_0 rfl (by decide) ?_
  refine own_istoreN C (pc' := 2) (Ls' := #[.val (.ref a), .val (.int (0 : Int32)), .unset, .unset]) own_d4_1 rfl rfl ?_
  refine own_iconst C (pc' := 3) (v := (0 : Int32)) own_d4_2 rfl (by decide) ?_
  refine own_istoreN C (pc' := 4) (Ls' := #[.val (.ref a), .val (.int (0 : Int32)), .val (.int (0 : Int32)), .unset]) own_d4_3 rfl rfl ?_
  refine own_aloadN C (pc' := 5) own_d4_4 rfl rfl rfl ?_
  refine own_getF C (pc' := 8) (hw _ (List.mem_of_getElem? (i := 10) rfl)) f3 own_d4_5 rfl ?_
  refine own_aloadN C (pc' := 9) own_d4_8 rfl rfl rfl ?_
  refine own_dup C (pc' := 10) own_d4_9 rfl rfl ?_
  refine own_getF C (pc' := 13) (hw _ (List.mem_of_getElem? (i := 17) rfl)) f4 own_d4_10 rfl ?_
  refine own_dupX1 C (pc' := 14) own_d4_13 rfl rfl rfl ?_
  refine own_iconst C (pc' := 15) (v := (1 : Int32)) own_d4_14 rfl (by decide) ?_
  refine own_iadd C (pc' := 16) own_d4_15 rfl ?_
  refine own_putF C (pc' := 19) (hw _ (List.mem_of_getElem? (i := 17) rfl)) f4 f0 (Or.inl (hw _ (List.mem_of_getElem? (i := 18) rfl))) (hw _ (List.mem_of_getElem? (i := 2) rfl)) (ty := .int) (by decide) rfl rfl f1 own_d4_16 rfl (fun h9 W10 => ?_)
  have Z11 : n0 ≤ h9.size := Nat.le_trans Z0 (Nat.le_of_eq (Wr.size W10).symm)
  have K12 := Keep.wr K0 W10 (Or.inl (List.mem_of_getElem? (i := 0) rfl))
  have F13 : Exa Z h9 a "com/example/words_to_weights/wordstoweights/index/VarIntReader" := Exa.wr W10 f0
  have F14 : Fld Z h9 a "com/example/words_to_weights/wordstoweights/index/VarIntReader" "bytes" "[B" (.ref ar) := Fld.other W10 f3 (Or.inr (slot_ne (Or.inr (hw _ (List.mem_of_getElem? (i := 11) rfl))) (Or.inl (hw _ (List.mem_of_getElem? (i := 18) rfl))) (by decide) (t := (.array .byte)) (t' := .int) (by decide) (by decide)))
  have F15 : Fld Z h9 a "com/example/words_to_weights/wordstoweights/index/VarIntReader" "position" "I" (.int (p + (1 : Int32))) := Fld.same W10 f4
  have F16 : own_AB Z h9 ar n f := own_A.other f5 W10 (Ne.symm f2)
  refine own_ldB C (pc' := 20) F16 (i := q0) h0 b0 own_d4_19 rfl ?_
  refine own_istoreN C (pc' := 21) (Ls' := #[.val (.ref a), .val (.int (0 : Int32)), .val (.int (0 : Int32)), .val (.int (f q0))]) own_d4_20 rfl rfl ?_
  refine own_iloadN C (pc' := 22) own_d4_21 rfl rfl ?_
  refine own_iloadN C (pc' := 23) own_d4_22 rfl rfl ?_
  refine own_bipush C (pc' := 25) (v := (127 : Int32)) own_d4_23 rfl (by decide) ?_
  refine own_iand C (pc' := 26) own_d4_25 rfl ?_
  refine own_iloadN C (pc' := 27) own_d4_26 rfl rfl ?_
  refine own_ishl C (pc' := 28) own_d4_27 rfl ?_
  refine own_ior C (pc' := 29) own_d4_28 rfl ?_
  refine own_istoreN C (pc' := 30) (Ls' := #[.val (.ref a), .val (.int ((0 : Int32) ||| (((f q0) &&& (127 : Int32)) <<< ((0 : Int32) &&& 31)))), .val (.int (0 : Int32)), .val (.int (f q0))]) own_d4_29 rfl rfl ?_
  refine own_iincV C (pc' := 33) (w := (7 : Int32)) (x := (7 : Int32)) (Ls' := #[.val (.ref a), .val (.int ((0 : Int32) ||| (((f q0) &&& (127 : Int32)) <<< ((0 : Int32) &&& 31)))), .val (.int (7 : Int32)), .val (.int (f q0))]) own_d4_30 rfl (by decide) (by decide) rfl rfl ?_
  refine own_iloadN C (pc' := 34) own_d4_33 rfl rfl ?_
  refine own_i0_lt C (pc1 := 4) (pc2 := 37) own_d4_34 rfl rfl (fun c17 => absurd c17 s0) (fun c17 => ?_)
  refine own_iloadN C (pc' := 38) own_d4_37 rfl rfl ?_
  exact own_ret C (t := .int) rfl rfl (Or.inl ⟨rfl, by simp, _, rfl⟩) own_d4_38 (by decide) (by decide) (⟨rfl, K12, F13, F14, (by rw [← hp]; exact F15)⟩)
set_option maxRecDepth 65536 in
set_option maxHeartbeats 40000000 in
theorem own_read2 {l : Launch} {Z : State} {a0 : Array Value} (hw : ∀ d ∈ tables_1, d.before a0 Z = true) {n0 : Nat} {ws : List Jvm.Cond} {h : Heap} (a : Addr) (ar : Addr) (n : Nat) (f : Nat → Int32) (p : Int32) (q0 : Nat) (q1 : Nat) (p' : Int32) (Z0 : n0 ≤ h.size) (f0 : Exa Z h a "com/example/words_to_weights/wordstoweights/index/VarIntReader") (f1 : n0 ≤ a) (f2 : a ≠ ar) (f3 : Fld Z h a "com/example/words_to_weights/wordstoweights/index/VarIntReader" "bytes" "[B" (.ref ar)) (f4 : Fld Z h a "com/example/words_to_weights/wordstoweights/index/VarIntReader" "position" "I" (.int p)) (f5 : own_AB Z h ar n f) (h0 : p.toInt = (q0 : Int)) (b0 : q0 < n) (s0 : (f q0) < 0) (h1 : (p + (1 : Int32)).toInt = (q1 : Int)) (b1 : q1 < n) (s1 : ¬ (f q1) < 0) (hp : ((p + (1 : Int32)) + (1 : Int32)) = p') :
    own_Met l Z n0 (⟨"com/example/words_to_weights/wordstoweights/index/VarIntReader", "read", "()I"⟩ : MethodName) prog_17_method_3_code 4 (some .int) ({ frames := 0, cells := 0, slots := 0, locals := 0 } : Room) ws #[(.ref a)] h (fun v h' => (v = some (.int (((0 : Int32) ||| (((f q0) &&& (127 : Int32)) <<< ((0 : Int32) &&& 31))) ||| (((f q1) &&& (127 : Int32)) <<< ((7 : Int32) &&& 31))))) ∧ (Keep h h' [a]) ∧ (Exa Z h' a "com/example/words_to_weights/wordstoweights/index/VarIntReader") ∧ (Fld Z h' a "com/example/words_to_weights/wordstoweights/index/VarIntReader" "bytes" "[B" (.ref ar)) ∧ (Fld Z h' a "com/example/words_to_weights/wordstoweights/index/VarIntReader" "position" "I" (.int p'))) := by
  refine own_met own_pn0 #[.val (.ref a), .unset, .unset, .unset] (fun m => by first | (simp [entryFrame, mkF, argsToLocals, Value.category]; done) | rfl) ?_
  intro p_ e_ s_ m_ b_ mt_ c_ C
  replace C : own_Ctx p_ s_ m_ mt_ c_ Z "com/example/words_to_weights/wordstoweights/index/VarIntReader" "read" prog_17_method_3_code 4 (some .int) := C
  have K0 : Keep h h [a] := Keep.refl _ _
  refine own_iconst C (pc' := 1) (v := (0 : Int32)) own_d4_0 rfl (by decide) ?_
  refine own_istoreN C (pc' := 2) (Ls' := #[.val (.ref a), .val (.int (0 : Int32)), .unset, .unset]) own_d4_1 rfl rfl ?_
  refine own_iconst C (pc' := 3) (v := (0 : Int32)) own_d4_2 rfl (by decide) ?_
  refine own_istoreN C (pc' := 4) (Ls' := #[.val (.ref a), .val (.int (0 : Int32)), .val (.int (0 : Int32)), .unset]) own_d4_3 rfl rfl ?_
  refine own_aloadN C (pc' := 5) own_d4_4 rfl rfl rfl ?_
  refine own_getF C (pc' := 8) (hw _ (List.mem_of_getElem? (i := 10) rfl)) f3 own_d4_5 rfl ?_
  refine own_aloadN C (pc' := 9) own_d4_8 rfl rfl rfl ?_
  refine own_dup C (pc' := 10) own_d4_9 rfl rfl ?_
  refine own_getF C (pc' := 13) (hw _ (List.mem_of_getElem? (i := 17) rfl)) f4 own_d4_10 rfl ?_
  refine own_dupX1 C (pc' := 14) own_d4_13 rfl rfl rfl ?_
  refine own_iconst C (pc' := 15) (v := (1 : Int32)) own_d4_14 rfl (by decide) ?_
  refine own_iadd C (pc' := 16) own_d4_15 rfl ?_
  refine own_putF C (pc' := 19) (hw _ (List.mem_of_getElem? (i := 17) rfl)) f4 f0 (Or.inl (hw _ (List.mem_of_getElem? (i := 18) rfl))) (hw _ (List.mem_of_getElem? (i := 2) rfl)) (ty := .int) (by decide) rfl rfl f1 own_d4_16 rfl (fun h18 W19 => ?_)
  have Z20 : n0 ≤ h18.size := Nat.le_trans Z0 (Nat.le_of_eq (Wr.size W19).symm)
  have K21 := Keep.wr K0 W19 (Or.inl (List.mem_of_getElem? (i := 0) rfl))
  have F22 : Exa Z h18 a "com/example/words_to_weights/wordstoweights/index/VarIntReader" := Exa.wr W19 f0
  have F23 : Fld Z h18 a "com/example/words_to_weights/wordstoweights/index/VarIntReader" "bytes" "[B" (.ref ar) := Fld.other W19 f3 (Or.inr (slot_ne (Or.inr (hw _ (List.mem_of_getElem? (i := 11) rfl))) (Or.inl (hw _ (List.mem_of_getElem? (i := 18) rfl))) (by decide) (t := (.array .byte)) (t' := .int) (by decide) (by decide)))
  have F24 : Fld Z h18 a "com/example/words_to_weights/wordstoweights/index/VarIntReader" "position" "I" (.int (p + (1 : Int32))) := Fld.same W19 f4
  have F25 : own_AB Z h18 ar n f := own_A.other f5 W19 (Ne.symm f2)
  refine own_ldB C (pc' := 20) F25 (i := q0) h0 b0 own_d4_19 rfl ?_
  refine own_istoreN C (pc' := 21) (Ls' := #[.val (.ref a), .val (.int (0 : Int32)), .val (.int (0 : Int32)), .val (.int (f q0))]) own_d4_20 rfl rfl ?_
  refine own_iloadN C (pc' := 22) own_d4_21 rfl rfl ?_
  refine own_iloadN C (pc' := 23) own_d4_22 rfl rfl ?_
  refine own_bipush C (pc' := 25) (v := (127 : Int32)) own_d4_23 rfl (by decide) ?_
  refine own_iand C (pc' := 26) own_d4_25 rfl ?_
  refine own_iloadN C (pc' := 27) own_d4_26 rfl rfl ?_
  refine own_ishl C (pc' := 28) own_d4_27 rfl ?_
  refine own_ior C (pc' := 29) own_d4_28 rfl ?_
  refine own_istoreN C (pc' := 30) (Ls' := #[.val (.ref a), .val (.int ((0 : Int32) ||| (((f q0) &&& (127 : Int32)) <<< ((0 : Int32) &&& 31)))), .val (.int (0 : Int32)), .val (.int (f q0))]) own_d4_29 rfl rfl ?_
  refine own_iincV C (pc' := 33) (w := (7 : Int32)) (x := (7 : Int32)) (Ls' := #[.val (.ref a), .val (.int ((0 : Int32) ||| (((f q0) &&& (127 : Int32)) <<< ((0 : Int32) &&& 31)))), .val (.int (7 : Int32)), .val (.int (f q0))]) own_d4_30 rfl (by decide) (by decide) rfl rfl ?_
  refine own_iloadN C (pc' := 34) own_d4_33 rfl rfl ?_
  refine own_i0_lt C (pc1 := 4) (pc2 := 37) own_d4_34 rfl rfl (fun c26 => ?_) (fun c26 => absurd c26 (not_not_intro s0))
  refine own_aloadN C (pc' := 5) own_d4_4 rfl rfl rfl ?_
  refine own_getF C (pc' := 8) (hw _ (List.mem_of_getElem? (i := 10) rfl)) F23 own_d4_5 rfl ?_
  refine own_aloadN C (pc' := 9) own_d4_8 rfl rfl rfl ?_
  refine own_dup C (pc' := 10) own_d4_9 rfl rfl ?_
  refine own_getF C (pc' := 13) (hw _ (List.mem_of_getElem? (i := 17) rfl)) F24 own_d4_10 rfl ?_
  refine own_dupX1 C (pc' := 14) own_d4_13 rfl rfl rfl ?_
  refine own_iconst C (pc' := 15) (v := (1 : Int32)) own_d4_14 rfl (by decide) ?_
  refine own_iadd C (pc' := 16) own_d4_15 rfl ?_
  refine own_putF C (pc' := 19) (hw _ (List.mem_of_getElem? (i := 17) rfl)) F24 F22 (Or.inl (hw _ (List.mem_of_getElem? (i := 18) rfl))) (hw _ (List.mem_of_getElem? (i := 2) rfl)) (ty := .int) (by decide) rfl rfl f1 own_d4_16 rfl (fun h27 W28 => ?_)
  have Z29 : n0 ≤ h27.size := Nat.le_trans Z20 (Nat.le_of_eq (Wr.size W28).symm)
  have K30 := Keep.wr K21 W28 (Or.inl (List.mem_of_getElem? (i := 0) rfl))
  have F31 : Exa Z h27 a "com/example/words_to_weights/wordstoweights/index/VarIntReader" := Exa.wr W28 F22
  have F32 : Fld Z h27 a "com/example/words_to_weights/wordstoweights/index/VarIntReader" "bytes" "[B" (.ref ar) := Fld.other W28 F23 (Or.inr (slot_ne (Or.inr (hw _ (List.mem_of_getElem? (i := 11) rfl))) (Or.inl (hw _ (List.mem_of_getElem? (i := 18) rfl))) (by decide) (t := (.array .byte)) (t' := .int) (by decide) (by decide)))
  have F33 : Fld Z h27 a "com/example/words_to_weights/wordstoweights/index/VarIntReader" "position" "I" (.int ((p + (1 : Int32)) + (1 : Int32))) := Fld.same W28 F24
  have F34 : own_AB Z h27 ar n f := own_A.other F25 W28 (Ne.symm f2)
  refine own_ldB C (pc' := 20) F34 (i := q1) h1 b1 own_d4_19 rfl ?_
  refine own_istoreN C (pc' := 21) (Ls' := #[.val (.ref a), .val (.int ((0 : Int32) ||| (((f q0) &&& (127 : Int32)) <<< ((0 : Int32) &&& 31)))), .val (.int (7 : Int32)), .val (.int (f q1))]) own_d4_20 rfl rfl ?_
  refine own_iloadN C (pc' := 22) own_d4_21 rfl rfl ?_
  refine own_iloadN C (pc' := 23) own_d4_22 rfl rfl ?_
  refine own_bipush C (pc' := 25) (v := (127 : Int32)) own_d4_23 rfl (by decide) ?_
  refine own_iand C (pc' := 26) own_d4_25 rfl ?_
  refine own_iloadN C (pc' := 27) own_d4_26 rfl rfl ?_
  refine own_ishl C (pc' := 28) own_d4_27 rfl ?_
  refine own_ior C (pc' := 29) own_d4_28 rfl ?_
  refine own_istoreN C (pc' := 30) (Ls' := #[.val (.ref a), .val (.int (((0 : Int32) ||| (((f q0) &&& (127 : Int32)) <<< ((0 : Int32) &&& 31))) ||| (((f q1) &&& (127 : Int32)) <<< ((7 : Int32) &&& 31)))), .val (.int (7 : Int32)), .val (.int (f q1))]) own_d4_29 rfl rfl ?_
  refine own_iincV C (pc' := 33) (w := (7 : Int32)) (x := (14 : Int32)) (Ls' := #[.val (.ref a), .val (.int (((0 : Int32) ||| (((f q0) &&& (127 : Int32)) <<< ((0 : Int32) &&& 31))) ||| (((f q1) &&& (127 : Int32)) <<< ((7 : Int32) &&& 31)))), .val (.int (14 : Int32)), .val (.int (f q1))]) own_d4_30 rfl (by decide) (by decide) rfl rfl ?_
  refine own_iloadN C (pc' := 34) own_d4_33 rfl rfl ?_
  refine own_i0_lt C (pc1 := 4) (pc2 := 37) own_d4_34 rfl rfl (fun c35 => absurd c35 s1) (fun c35 => ?_)
  refine own_iloadN C (pc' := 38) own_d4_37 rfl rfl ?_
  exact own_ret C (t := .int) rfl rfl (Or.inl ⟨rfl, by simp, _, rfl⟩) own_d4_38 (by decide) (by decide) (⟨rfl, K30, F31, F32, (by rw [← hp]; exact F33)⟩)
set_option maxRecDepth 65536 in
set_option maxHeartbeats 40000000 in
theorem own_read3 {l : Launch} {Z : State} {a0 : Array Value} (hw : ∀ d ∈ tables_1, d.before a0 Z = true) {n0 : Nat} {ws : List Jvm.Cond} {h : Heap} (a : Addr) (ar : Addr) (n : Nat) (f : Nat → Int32) (p : Int32) (q0 : Nat) (q1 : Nat) (q2 : Nat) (p' : Int32) (Z0 : n0 ≤ h.size) (f0 : Exa Z h a "com/example/words_to_weights/wordstoweights/index/VarIntReader") (f1 : n0 ≤ a) (f2 : a ≠ ar) (f3 : Fld Z h a "com/example/words_to_weights/wordstoweights/index/VarIntReader" "bytes" "[B" (.ref ar)) (f4 : Fld Z h a "com/example/words_to_weights/wordstoweights/index/VarIntReader" "position" "I" (.int p)) (f5 : own_AB Z h ar n f) (h0 : p.toInt = (q0 : Int)) (b0 : q0 < n) (s0 : (f q0) < 0) (h1 : (p + (1 : Int32)).toInt = (q1 : Int)) (b1 : q1 < n) (s1 : (f q1) < 0) (h2 : ((p + (1 : Int32)) + (1 : Int32)).toInt = (q2 : Int)) (b2 : q2 < n) (s2 : ¬ (f q2) < 0) (hp : (((p + (1 : Int32)) + (1 : Int32)) + (1 : Int32)) = p') :
    own_Met l Z n0 (⟨"com/example/words_to_weights/wordstoweights/index/VarIntReader", "read", "()I"⟩ : MethodName) prog_17_method_3_code 4 (some .int) ({ frames := 0, cells := 0, slots := 0, locals := 0 } : Room) ws #[(.ref a)] h (fun v h' => (v = some (.int ((((0 : Int32) ||| (((f q0) &&& (127 : Int32)) <<< ((0 : Int32) &&& 31))) ||| (((f q1) &&& (127 : Int32)) <<< ((7 : Int32) &&& 31))) ||| (((f q2) &&& (127 : Int32)) <<< ((14 : Int32) &&& 31))))) ∧ (Keep h h' [a]) ∧ (Exa Z h' a "com/example/words_to_weights/wordstoweights/index/VarIntReader") ∧ (Fld Z h' a "com/example/words_to_weights/wordstoweights/index/VarIntReader" "bytes" "[B" (.ref ar)) ∧ (Fld Z h' a "com/example/words_to_weights/wordstoweights/index/VarIntReader" "position" "I" (.int p'))) := by
  refine own_met own_pn0 #[.val (.ref a), .unset, .unset, .unset] (fun m => by first | (simp [entryFrame, mkF, argsToLocals, Value.category]; done) | rfl) ?_
  intro p_ e_ s_ m_ b_ mt_ c_ C
  replace C : own_Ctx p_ s_ m_ mt_ c_ Z "com/example/words_to_weights/wordstoweights/index/VarIntReader" "read" prog_17_method_3_code 4 (some .int) := C
  have K0 : Keep h h [a] := Keep.refl _ _
  refine own_iconst C (pc' := 1) (v := (0 : Int32)) own_d4_0 rfl (by decide) ?_
  refine own_istoreN C (pc' := 2) (Ls' := #[.val (.ref a), .val (.int (0 : Int32)), .unset, .unset]) own_d4_1 rfl rfl ?_
  refine own_iconst C (pc' := 3) (v := (0 : Int32)) own_d4_2 rfl (by decide) ?_
  refine own_istoreN C (pc' := 4) (Ls' := #[.val (.ref a), .val (.int (0 : Int32)), .val (.int (0 : Int32)), .unset]) own_d4_3 rfl rfl ?_
  refine own_aloadN C (pc' := 5) own_d4_4 rfl rfl rfl ?_
  refine own_getF C (pc' := 8) (hw _ (List.mem_of_getElem? (i := 10) rfl)) f3 own_d4_5 rfl ?_
  refine own_aloadN C (pc' := 9) own_d4_8 rfl rfl rfl ?_
  refine own_dup C (pc' := 10) own_d4_9 rfl rfl ?_
  refine own_getF C (pc' := 13) (hw _ (List.mem_of_getElem? (i := 17) rfl)) f4 own_d4_10 rfl ?_
  refine own_dupX1 C (pc' := 14) own_d4_13 rfl rfl rfl ?_
  refine own_iconst C (pc' := 15) (v := (1 : Int32)) own_d4_14 rfl (by decide) ?_
  refine own_iadd C (pc' := 16) own_d4_15 rfl ?_
  refine own_putF C (pc' := 19) (hw _ (List.mem_of_getElem? (i := 17) rfl)) f4 f0 (Or.inl (hw _ (List.mem_of_getElem? (i := 18) rfl))) (hw _ (List.mem_of_getElem? (i := 2) rfl)) (ty := .int) (by decide) rfl rfl f1 own_d4_16 rfl (fun h36 W37 => ?_)
  have Z38 : n0 ≤ h36.size := Nat.le_trans Z0 (Nat.le_of_eq (Wr.size W37).symm)
  have K39 := Keep.wr K0 W37 (Or.inl (List.mem_of_getElem? (i := 0) rfl))
  have F40 : Exa Z h36 a "com/example/words_to_weights/wordstoweights/index/VarIntReader" := Exa.wr W37 f0
  have F41 : Fld Z h36 a "com/example/words_to_weights/wordstoweights/index/VarIntReader" "bytes" "[B" (.ref ar) := Fld.other W37 f3 (Or.inr (slot_ne (Or.inr (hw _ (List.mem_of_getElem? (i := 11) rfl))) (Or.inl (hw _ (List.mem_of_getElem? (i := 18) rfl))) (by decide) (t := (.array .byte)) (t' := .int) (by decide) (by decide)))
  have F42 : Fld Z h36 a "com/example/words_to_weights/wordstoweights/index/VarIntReader" "position" "I" (.int (p + (1 : Int32))) := Fld.same W37 f4
  have F43 : own_AB Z h36 ar n f := own_A.other f5 W37 (Ne.symm f2)
  refine own_ldB C (pc' := 20) F43 (i := q0) h0 b0 own_d4_19 rfl ?_
  refine own_istoreN C (pc' := 21) (Ls' := #[.val (.ref a), .val (.int (0 : Int32)), .val (.int (0 : Int32)), .val (.int (f q0))]) own_d4_20 rfl rfl ?_
  refine own_iloadN C (pc' := 22) own_d4_21 rfl rfl ?_
  refine own_iloadN C (pc' := 23) own_d4_22 rfl rfl ?_
  refine own_bipush C (pc' := 25) (v := (127 : Int32)) own_d4_23 rfl (by decide) ?_
  refine own_iand C (pc' := 26) own_d4_25 rfl ?_
  refine own_iloadN C (pc' := 27) own_d4_26 rfl rfl ?_
  refine own_ishl C (pc' := 28) own_d4_27 rfl ?_
  refine own_ior C (pc' := 29) own_d4_28 rfl ?_
  refine own_istoreN C (pc' := 30) (Ls' := #[.val (.ref a), .val (.int ((0 : Int32) ||| (((f q0) &&& (127 : Int32)) <<< ((0 : Int32) &&& 31)))), .val (.int (0 : Int32)), .val (.int (f q0))]) own_d4_29 rfl rfl ?_
  refine own_iincV C (pc' := 33) (w := (7 : Int32)) (x := (7 : Int32)) (Ls' := #[.val (.ref a), .val (.int ((0 : Int32) ||| (((f q0) &&& (127 : Int32)) <<< ((0 : Int32) &&& 31)))), .val (.int (7 : Int32)), .val (.int (f q0))]) own_d4_30 rfl (by decide) (by decide) rfl rfl ?_
  refine own_iloadN C (pc' := 34) own_d4_33 rfl rfl ?_
  refine own_i0_lt C (pc1 := 4) (pc2 := 37) own_d4_34 rfl rfl (fun c44 => ?_) (fun c44 => absurd c44 (not_not_intro s0))
  refine own_aloadN C (pc' := 5) own_d4_4 rfl rfl rfl ?_
  refine own_getF C (pc' := 8) (hw _ (List.mem_of_getElem? (i := 10) rfl)) F41 own_d4_5 rfl ?_
  refine own_aloadN C (pc' := 9) own_d4_8 rfl rfl rfl ?_
  refine own_dup C (pc' := 10) own_d4_9 rfl rfl ?_
  refine own_getF C (pc' := 13) (hw _ (List.mem_of_getElem? (i := 17) rfl)) F42 own_d4_10 rfl ?_
  refine own_dupX1 C (pc' := 14) own_d4_13 rfl rfl rfl ?_
  refine own_iconst C (pc' := 15) (v := (1 : Int32)) own_d4_14 rfl (by decide) ?_
  refine own_iadd C (pc' := 16) own_d4_15 rfl ?_
  refine own_putF C (pc' := 19) (hw _ (List.mem_of_getElem? (i := 17) rfl)) F42 F40 (Or.inl (hw _ (List.mem_of_getElem? (i := 18) rfl))) (hw _ (List.mem_of_getElem? (i := 2) rfl)) (ty := .int) (by decide) rfl rfl f1 own_d4_16 rfl (fun h45 W46 => ?_)
  have Z47 : n0 ≤ h45.size := Nat.le_trans Z38 (Nat.le_of_eq (Wr.size W46).symm)
  have K48 := Keep.wr K39 W46 (Or.inl (List.mem_of_getElem? (i := 0) rfl))
  have F49 : Exa Z h45 a "com/example/words_to_weights/wordstoweights/index/VarIntReader" := Exa.wr W46 F40
  have F50 : Fld Z h45 a "com/example/words_to_weights/wordstoweights/index/VarIntReader" "bytes" "[B" (.ref ar) := Fld.other W46 F41 (Or.inr (slot_ne (Or.inr (hw _ (List.mem_of_getElem? (i := 11) rfl))) (Or.inl (hw _ (List.mem_of_getElem? (i := 18) rfl))) (by decide) (t := (.array .byte)) (t' := .int) (by decide) (by decide)))
  have F51 : Fld Z h45 a "com/example/words_to_weights/wordstoweights/index/VarIntReader" "position" "I" (.int ((p + (1 : Int32)) + (1 : Int32))) := Fld.same W46 F42
  have F52 : own_AB Z h45 ar n f := own_A.other F43 W46 (Ne.symm f2)
  refine own_ldB C (pc' := 20) F52 (i := q1) h1 b1 own_d4_19 rfl ?_
  refine own_istoreN C (pc' := 21) (Ls' := #[.val (.ref a), .val (.int ((0 : Int32) ||| (((f q0) &&& (127 : Int32)) <<< ((0 : Int32) &&& 31)))), .val (.int (7 : Int32)), .val (.int (f q1))]) own_d4_20 rfl rfl ?_
  refine own_iloadN C (pc' := 22) own_d4_21 rfl rfl ?_
  refine own_iloadN C (pc' := 23) own_d4_22 rfl rfl ?_
  refine own_bipush C (pc' := 25) (v := (127 : Int32)) own_d4_23 rfl (by decide) ?_
  refine own_iand C (pc' := 26) own_d4_25 rfl ?_
  refine own_iloadN C (pc' := 27) own_d4_26 rfl rfl ?_
  refine own_ishl C (pc' := 28) own_d4_27 rfl ?_
  refine own_ior C (pc' := 29) own_d4_28 rfl ?_
  refine own_istoreN C (pc' := 30) (Ls' := #[.val (.ref a), .val (.int (((0 : Int32) ||| (((f q0) &&& (127 : Int32)) <<< ((0 : Int32) &&& 31))) ||| (((f q1) &&& (127 : Int32)) <<< ((7 : Int32) &&& 31)))), .val (.int (7 : Int32)), .val (.int (f q1))]) own_d4_29 rfl rfl ?_
  refine own_iincV C (pc' := 33) (w := (7 : Int32)) (x := (14 : Int32)) (Ls' := #[.val (.ref a), .val (.int (((0 : Int32) ||| (((f q0) &&& (127 : Int32)) <<< ((0 : Int32) &&& 31))) ||| (((f q1) &&& (127 : Int32)) <<< ((7 : Int32) &&& 31)))), .val (.int (14 : Int32)), .val (.int (f q1))]) own_d4_30 rfl (by decide) (by decide) rfl rfl ?_
  refine own_iloadN C (pc' := 34) own_d4_33 rfl rfl ?_
  refine own_i0_lt C (pc1 := 4) (pc2 := 37) own_d4_34 rfl rfl (fun c53 => ?_) (fun c53 => absurd c53 (not_not_intro s1))
  refine own_aloadN C (pc' := 5) own_d4_4 rfl rfl rfl ?_
  refine own_getF C (pc' := 8) (hw _ (List.mem_of_getElem? (i := 10) rfl)) F50 own_d4_5 rfl ?_
  refine own_aloadN C (pc' := 9) own_d4_8 rfl rfl rfl ?_
  refine own_dup C (pc' := 10) own_d4_9 rfl rfl ?_
  refine own_getF C (pc' := 13) (hw _ (List.mem_of_getElem? (i := 17) rfl)) F51 own_d4_10 rfl ?_
  refine own_dupX1 C (pc' := 14) own_d4_13 rfl rfl rfl ?_
  refine own_iconst C (pc' := 15) (v := (1 : Int32)) own_d4_14 rfl (by decide) ?_
  refine own_iadd C (pc' := 16) own_d4_15 rfl ?_
  refine own_putF C (pc' := 19) (hw _ (List.mem_of_getElem? (i := 17) rfl)) F51 F49 (Or.inl (hw _ (List.mem_of_getElem? (i := 18) rfl))) (hw _ (List.mem_of_getElem? (i := 2) rfl)) (ty := .int) (by decide) rfl rfl f1 own_d4_16 rfl (fun h54 W55 => ?_)
  have Z56 : n0 ≤ h54.size := Nat.le_trans Z47 (Nat.le_of_eq (Wr.size W55).symm)
  have K57 := Keep.wr K48 W55 (Or.inl (List.mem_of_getElem? (i := 0) rfl))
  have F58 : Exa Z h54 a "com/example/words_to_weights/wordstoweights/index/VarIntReader" := Exa.wr W55 F49
  have F59 : Fld Z h54 a "com/example/words_to_weights/wordstoweights/index/VarIntReader" "bytes" "[B" (.ref ar) := Fld.other W55 F50 (Or.inr (slot_ne (Or.inr (hw _ (List.mem_of_getElem? (i := 11) rfl))) (Or.inl (hw _ (List.mem_of_getElem? (i := 18) rfl))) (by decide) (t := (.array .byte)) (t' := .int) (by decide) (by decide)))
  have F60 : Fld Z h54 a "com/example/words_to_weights/wordstoweights/index/VarIntReader" "position" "I" (.int (((p + (1 : Int32)) + (1 : Int32)) + (1 : Int32))) := Fld.same W55 F51
  have F61 : own_AB Z h54 ar n f := own_A.other F52 W55 (Ne.symm f2)
  refine own_ldB C (pc' := 20) F61 (i := q2) h2 b2 own_d4_19 rfl ?_
  refine own_istoreN C (pc' := 21) (Ls' := #[.val (.ref a), .val (.int (((0 : Int32) ||| (((f q0) &&& (127 : Int32)) <<< ((0 : Int32) &&& 31))) ||| (((f q1) &&& (127 : Int32)) <<< ((7 : Int32) &&& 31)))), .val (.int (14 : Int32)), .val (.int (f q2))]) own_d4_20 rfl rfl ?_
  refine own_iloadN C (pc' := 22) own_d4_21 rfl rfl ?_
  refine own_iloadN C (pc' := 23) own_d4_22 rfl rfl ?_
  refine own_bipush C (pc' := 25) (v := (127 : Int32)) own_d4_23 rfl (by decide) ?_
  refine own_iand C (pc' := 26) own_d4_25 rfl ?_
  refine own_iloadN C (pc' := 27) own_d4_26 rfl rfl ?_
  refine own_ishl C (pc' := 28) own_d4_27 rfl ?_
  refine own_ior C (pc' := 29) own_d4_28 rfl ?_
  refine own_istoreN C (pc' := 30) (Ls' := #[.val (.ref a), .val (.int ((((0 : Int32) ||| (((f q0) &&& (127 : Int32)) <<< ((0 : Int32) &&& 31))) ||| (((f q1) &&& (127 : Int32)) <<< ((7 : Int32) &&& 31))) ||| (((f q2) &&& (127 : Int32)) <<< ((14 : Int32) &&& 31)))), .val (.int (14 : Int32)), .val (.int (f q2))]) own_d4_29 rfl rfl ?_
  refine own_iincV C (pc' := 33) (w := (7 : Int32)) (x := (21 : Int32)) (Ls' := #[.val (.ref a), .val (.int ((((0 : Int32) ||| (((f q0) &&& (127 : Int32)) <<< ((0 : Int32) &&& 31))) ||| (((f q1) &&& (127 : Int32)) <<< ((7 : Int32) &&& 31))) ||| (((f q2) &&& (127 : Int32)) <<< ((14 : Int32) &&& 31)))), .val (.int (21 : Int32)), .val (.int (f q2))]) own_d4_30 rfl (by decide) (by decide) rfl rfl ?_
  refine own_iloadN C (pc' := 34) own_d4_33 rfl rfl ?_
  refine own_i0_lt C (pc1 := 4) (pc2 := 37) own_d4_34 rfl rfl (fun c62 => absurd c62 s2) (fun c62 => ?_)
  refine own_iloadN C (pc' := 38) own_d4_37 rfl rfl ?_
  exact own_ret C (t := .int) rfl rfl (Or.inl ⟨rfl, by simp, _, rfl⟩) own_d4_38 (by decide) (by decide) (⟨rfl, K57, F58, F59, (by rw [← hp]; exact F60)⟩)
set_option maxRecDepth 65536 in
set_option maxHeartbeats 40000000 in
theorem own_next1 {l : Launch} {Z : State} {a0 : Array Value} (hw : ∀ d ∈ tables_1, d.before a0 Z = true) {n0 : Nat} {ws : List Jvm.Cond} {h : Heap} (ar : Addr) (n : Nat) (f : Nat → Int32) (p : Int32) (q0 : Nat) (p' : Int32) (Z0 : n0 ≤ h.size) (f0 : own_AB Z h ar n f) (h0 : p.toInt = (q0 : Int)) (b0 : q0 < n) (s0 : ¬ (f q0) < 0) (hp : p + (1 : Int32) = p') :
    own_Met l Z n0 (⟨"com/example/words_to_weights/wordstoweights/index/VarIntReaderAtEndPinLaw", "next", "([BI)I"⟩ : MethodName) method_2_code 2 (some .int) ({ frames := 0, cells := 0, slots := 0, locals := 0 } : Room) ws #[(.ref ar), (.int p)] h (fun v h' => (v = some (.int p')) ∧ (h = h')) := by
  refine own_met own_pn1 #[.val (.ref ar), .val (.int p)] (fun m => by first | (simp [entryFrame, mkF, argsToLocals, Value.category]; done) | rfl) ?_
  intro p_ e_ s_ m_ b_ mt_ c_ C
  replace C : own_Ctx p_ s_ m_ mt_ c_ Z "com/example/words_to_weights/wordstoweights/index/VarIntReaderAtEndPinLaw" "next" method_2_code 2 (some .int) := C
  refine own_aloadN C (pc' := 1) own_d5_0 rfl rfl rfl ?_
  refine own_iloadN C (pc' := 2) own_d5_1 rfl rfl ?_
  refine own_ldB C (pc' := 3) f0 (i := q0) h0 b0 own_d5_2 rfl ?_
  refine own_i0_lt C (pc1 := 10) (pc2 := 6) own_d5_3 rfl rfl (fun c63 => absurd c63 s0) (fun c63 => ?_)
  refine own_iloadN C (pc' := 7) own_d5_6 rfl rfl ?_
  refine own_iconst C (pc' := 8) (v := (1 : Int32)) own_d5_7 rfl (by decide) ?_
  refine own_iadd C (pc' := 9) own_d5_8 rfl ?_
  exact own_ret C (t := .int) rfl rfl (Or.inl ⟨rfl, by simp, _, rfl⟩) own_d5_9 (by decide) (by decide) (⟨by rw [← hp], rfl⟩)
set_option maxRecDepth 65536 in
set_option maxHeartbeats 40000000 in
theorem own_next2 {l : Launch} {Z : State} {a0 : Array Value} (hw : ∀ d ∈ tables_1, d.before a0 Z = true) {n0 : Nat} {ws : List Jvm.Cond} {h : Heap} (ar : Addr) (n : Nat) (f : Nat → Int32) (p : Int32) (q0 : Nat) (q1 : Nat) (p' : Int32) (Z0 : n0 ≤ h.size) (f0 : own_AB Z h ar n f) (h0 : p.toInt = (q0 : Int)) (b0 : q0 < n) (s0 : (f q0) < 0) (h1 : (p + (1 : Int32)).toInt = (q1 : Int)) (b1 : q1 < n) (s1 : ¬ (f q1) < 0) (hp : p + (2 : Int32) = p') :
    own_Met l Z n0 (⟨"com/example/words_to_weights/wordstoweights/index/VarIntReaderAtEndPinLaw", "next", "([BI)I"⟩ : MethodName) method_2_code 2 (some .int) ({ frames := 0, cells := 0, slots := 0, locals := 0 } : Room) ws #[(.ref ar), (.int p)] h (fun v h' => (v = some (.int p')) ∧ (h = h')) := by
  refine own_met own_pn1 #[.val (.ref ar), .val (.int p)] (fun m => by first | (simp [entryFrame, mkF, argsToLocals, Value.category]; done) | rfl) ?_
  intro p_ e_ s_ m_ b_ mt_ c_ C
  replace C : own_Ctx p_ s_ m_ mt_ c_ Z "com/example/words_to_weights/wordstoweights/index/VarIntReaderAtEndPinLaw" "next" method_2_code 2 (some .int) := C
  refine own_aloadN C (pc' := 1) own_d5_0 rfl rfl rfl ?_
  refine own_iloadN C (pc' := 2) own_d5_1 rfl rfl ?_
  refine own_ldB C (pc' := 3) f0 (i := q0) h0 b0 own_d5_2 rfl ?_
  refine own_i0_lt C (pc1 := 10) (pc2 := 6) own_d5_3 rfl rfl (fun c64 => ?_) (fun c64 => absurd c64 (not_not_intro s0))
  refine own_aloadN C (pc' := 11) own_d5_10 rfl rfl rfl ?_
  refine own_iloadN C (pc' := 12) own_d5_11 rfl rfl ?_
  refine own_iconst C (pc' := 13) (v := (1 : Int32)) own_d5_12 rfl (by decide) ?_
  refine own_iadd C (pc' := 14) own_d5_13 rfl ?_
  refine own_ldB C (pc' := 15) f0 (i := q1) h1 b1 own_d5_14 rfl ?_
  refine own_i0_lt C (pc1 := 22) (pc2 := 18) own_d5_15 rfl rfl (fun c65 => absurd c65 s1) (fun c65 => ?_)
  refine own_iloadN C (pc' := 19) own_d5_18 rfl rfl ?_
  refine own_iconst C (pc' := 20) (v := (2 : Int32)) own_d5_19 rfl (by decide) ?_
  refine own_iadd C (pc' := 21) own_d5_20 rfl ?_
  exact own_ret C (t := .int) rfl rfl (Or.inl ⟨rfl, by simp, _, rfl⟩) own_d5_21 (by decide) (by decide) (⟨by rw [← hp], rfl⟩)
set_option maxRecDepth 65536 in
set_option maxHeartbeats 40000000 in
theorem own_next3 {l : Launch} {Z : State} {a0 : Array Value} (hw : ∀ d ∈ tables_1, d.before a0 Z = true) {n0 : Nat} {ws : List Jvm.Cond} {h : Heap} (ar : Addr) (n : Nat) (f : Nat → Int32) (p : Int32) (q0 : Nat) (q1 : Nat) (p' : Int32) (Z0 : n0 ≤ h.size) (f0 : own_AB Z h ar n f) (h0 : p.toInt = (q0 : Int)) (b0 : q0 < n) (s0 : (f q0) < 0) (h1 : (p + (1 : Int32)).toInt = (q1 : Int)) (b1 : q1 < n) (s1 : (f q1) < 0) (hp : p + (3 : Int32) = p') :
    own_Met l Z n0 (⟨"com/example/words_to_weights/wordstoweights/index/VarIntReaderAtEndPinLaw", "next", "([BI)I"⟩ : MethodName) method_2_code 2 (some .int) ({ frames := 0, cells := 0, slots := 0, locals := 0 } : Room) ws #[(.ref ar), (.int p)] h (fun v h' => (v = some (.int p')) ∧ (h = h')) := by
  refine own_met own_pn1 #[.val (.ref ar), .val (.int p)] (fun m => by first | (simp [entryFrame, mkF, argsToLocals, Value.category]; done) | rfl) ?_
  intro p_ e_ s_ m_ b_ mt_ c_ C
  replace C : own_Ctx p_ s_ m_ mt_ c_ Z "com/example/words_to_weights/wordstoweights/index/VarIntReaderAtEndPinLaw" "next" method_2_code 2 (some .int) := C
  refine own_aloadN C (pc' := 1) own_d5_0 rfl rfl rfl ?_
  refine own_iloadN C (pc' := 2) own_d5_1 rfl rfl ?_
  refine own_ldB C (pc' := 3) f0 (i := q0) h0 b0 own_d5_2 rfl ?_
  refine own_i0_lt C (pc1 := 10) (pc2 := 6) own_d5_3 rfl rfl (fun c66 => ?_) (fun c66 => absurd c66 (not_not_intro s0))
  refine own_aloadN C (pc' := 11) own_d5_10 rfl rfl rfl ?_
  refine own_iloadN C (pc' := 12) own_d5_11 rfl rfl ?_
  refine own_iconst C (pc' := 13) (v := (1 : Int32)) own_d5_12 rfl (by decide) ?_
  refine own_iadd C (pc' := 14) own_d5_13 rfl ?_
  refine own_ldB C (pc' := 15) f0 (i := q1) h1 b1 own_d5_14 rfl ?_
  refine own_i0_lt C (pc1 := 22) (pc2 := 18) own_d5_15 rfl rfl (fun c67 => ?_) (fun c67 => absurd c67 (not_not_intro s1))
  refine own_iloadN C (pc' := 23) own_d5_22 rfl rfl ?_
  refine own_iconst C (pc' := 24) (v := (3 : Int32)) own_d5_23 rfl (by decide) ?_
  refine own_iadd C (pc' := 25) own_d5_24 rfl ?_
  exact own_ret C (t := .int) rfl rfl (Or.inl ⟨rfl, by simp, _, rfl⟩) own_d5_25 (by decide) (by decide) (⟨by rw [← hp], rfl⟩)
set_option maxRecDepth 65536 in
set_option maxHeartbeats 40000000 in
theorem own_law {l : Launch} {Z : State} {a0 : Array Value} (hw : ∀ d ∈ tables_1, d.before a0 Z = true) {n0 : Nat} {ws : List Jvm.Cond} {h : Heap} (p0 : Int32) (p1 : Int32) (p2 : Int32) (p3 : Int32) (Z0 : n0 ≤ h.size) :
    own_Met l Z n0 x code maxLocals ret room_1 ws #[(.int p0), (.int p1), (.int p2), (.int p3)] h (fun v h' => v = some (.int 1)) := by
  refine own_met own_pn1 #[.val (.int p0), .val (.int p1), .val (.int p2), .val (.int p3), .unset, .unset, .unset, .unset, .unset] (fun m => by first | (simp [entryFrame, mkF, argsToLocals, Value.category, maxLocals]; done) | rfl) ?_
  intro p_ e_ s_ m_ b_ mt_ c_ C
  replace C : own_Ctx p_ s_ m_ mt_ c_ Z "com/example/words_to_weights/wordstoweights/index/VarIntReaderAtEndPinLaw" "law" code maxLocals ret := C
  refine own_iloadN C (pc' := 1) at_0 rfl rfl ?_
  refine own_iconst C (pc' := 2) (v := (3 : Int32)) at_1 rfl (by decide) ?_
  refine own_iand C (pc' := 3) at_2 rfl ?_
  refine own_istore C (pc' := 5) (Ls' := #[.val (.int p0), .val (.int p1), .val (.int p2), .val (.int p3), .val (.int (p0 &&& (3 : Int32))), .unset, .unset, .unset, .unset]) at_3 rfl rfl ?_
  rcases own_m4 p0 with e68 | e68 | e68 | e68
  · skip
    rw [e68]
    show own_Run p_ l e_ _ s_ m_ _ b_ mt_ c_ n0 _ h _ _ (mkF m_ 5 #[.val (.int p0), .val (.int p1), .val (.int p2), .val (.int p3), .val (.int (0 : Int32)), .unset, .unset, .unset, .unset] [])
    refine own_iload C (pc' := 7) at_5 rfl rfl ?_
    refine own_newAB C (pc' := 9) (hw _ (List.mem_of_getElem? (i := 0) rfl)) Z0 at_7 rfl (nn := 0) (cap := 0) (by decide) (by decide) (by decide) (by decide) (by decide) (fun h69 a70 ea71 ga72 Z73 E74 V75 => ?_)
    refine own_astore C (pc' := 11) (Ls' := #[.val (.int p0), .val (.int p1), .val (.int p2), .val (.int p3), .val (.int (0 : Int32)), .val (.ref a70), .unset, .unset, .unset]) at_9 rfl rfl rfl ?_
    refine own_iload C (pc' := 13) at_11 rfl rfl ?_
    refine own_i0_le C (pc1 := 22) (pc2 := 16) at_13 rfl rfl (fun c76 => ?_) (fun c76 => absurd c76 (by decide))
    refine own_iload C (pc' := 24) at_22 rfl rfl ?_
    refine own_iconst C (pc' := 25) (v := (1 : Int32)) at_24 rfl (by decide) ?_
    refine own_ii_le C (pc1 := 34) (pc2 := 28) at_25 rfl rfl (fun c77 => ?_) (fun c77 => absurd c77 (by decide))
    refine own_iload C (pc' := 36) at_34 rfl rfl ?_
    refine own_iconst C (pc' := 37) (v := (2 : Int32)) at_36 rfl (by decide) ?_
    refine own_ii_le C (pc1 := 46) (pc2 := 40) at_37 rfl rfl (fun c78 => ?_) (fun c78 => absurd c78 (by decide))
    refine own_iload C (pc' := 48) at_46 rfl rfl ?_
    refine own_i0_le C (pc1 := 69) (pc2 := 51) at_48 rfl rfl (fun c79 => ?_) (fun c79 => absurd c79 (by decide))
    refine own_new C (pc' := 72) (hw _ (List.mem_of_getElem? (i := 1) rfl)) (hw _ (List.mem_of_getElem? (i := 2) rfl)) (hw _ (List.mem_of_getElem? (i := 3) rfl)) Z73 at_69 rfl (by decide) (by decide) (fun h80 a81 ea82 ga83 Z84 E85 A86 D87 => ?_)
    have ne88 : a70 ≠ a81 := by rw [ea82]; exact Nat.ne_of_lt (own_A.lt V75)
    have F89 : own_AB Z h80 a70 0 (fun _ => (0 : Int32)) := own_A.ext V75 E85
    have F90 : Fld Z h80 a81 "com/example/words_to_weights/wordstoweights/index/VarIntReader" "bytes" "[B" .null := D87 (Or.inr (hw _ (List.mem_of_getElem? (i := 11) rfl))) (ty := (.array .byte)) (by decide)
    have F91 : Fld Z h80 a81 "com/example/words_to_weights/wordstoweights/index/VarIntReader" "position" "I" (.int (0 : Int32)) := D87 (Or.inl (hw _ (List.mem_of_getElem? (i := 18) rfl))) (ty := .int) (by decide)
    refine own_dup C (pc' := 73) at_72 rfl rfl ?_
    refine own_aload C (pc' := 75) at_73 rfl rfl rfl ?_
    refine own_callN C (pc' := 78) (y := (⟨"com/example/words_to_weights/wordstoweights/index/VarIntReader", "<init>", "([B)V"⟩ : MethodName)) (a := a81) (argsL := [(.ref a70)]) (rest := [(.ref a81)]) 1 rfl (hw _ (List.mem_of_getElem? (i := 4) rfl)) (hw _ (List.mem_of_getElem? (i := 5) rfl)) (hw _ (List.mem_of_getElem? (i := 6) rfl)) (hw _ (List.mem_of_getElem? (i := 3) rfl)) (by decide) (own_m1 hw a81 a70 Z84 A86 ga83 F90 F91 ) (by decide) (by decide) (lenOf own_pd0 rfl) rfl (Nat.le_of_eq rfl) at_75 rfl rfl (by decide) (by decide) (fun v92 h93 hq94 => ?_)
    obtain ⟨rfl, K95, F96, F97, F98⟩ := hq94
    have Z100 : n0 ≤ h93.size := Nat.le_trans Z84 K95.1
    have F101 : own_AB Z h93 a70 0 (fun _ => (0 : Int32)) := own_A.keep F89 K95 (ninS ne88 nin0)
    have F102 : Exa Z h93 a81 "com/example/words_to_weights/wordstoweights/index/VarIntReader" := Exa.keep A86 K95
    show own_Run p_ l e_ _ s_ m_ _ b_ mt_ c_ n0 _ h93 _ _ (mkF m_ 78 #[.val (.int p0), .val (.int p1), .val (.int p2), .val (.int p3), .val (.int (0 : Int32)), .val (.ref a70), .unset, .unset, .unset] [(.ref a81)])
    refine own_astore C (pc' := 80) (Ls' := #[.val (.int p0), .val (.int p1), .val (.int p2), .val (.int p3), .val (.int (0 : Int32)), .val (.ref a70), .val (.ref a81), .unset, .unset]) at_78 rfl rfl rfl ?_
    refine own_aload C (pc' := 82) at_80 rfl rfl rfl ?_
    refine own_callV C (pc' := 85) (y := (⟨"com/example/words_to_weights/wordstoweights/index/VarIntReader", "atEnd", "()Z"⟩ : MethodName)) (a := a81) (argsL := []) (rest := []) 0 F96 (hw _ (List.mem_of_getElem? (i := 12) rfl)) (hw _ (List.mem_of_getElem? (i := 13) rfl)) (hw _ (List.mem_of_getElem? (i := 15) rfl)) (hw _ (List.mem_of_getElem? (i := 14) rfl)) (hw _ (List.mem_of_getElem? (i := 16) rfl)) (hw _ (List.mem_of_getElem? (i := 3) rfl)) (by decide) (own_m3 hw a81 a70 0 (fun _ => (0 : Int32)) (0 : Int32) (1 : Int32) Z100 F98 F97 F101 (by decide)) (by decide) (by decide) (lenOf own_pd1 rfl) rfl (Nat.le_of_eq rfl) at_82 rfl rfl (by decide) (by decide) (fun v103 h104 hq105 => ?_)
    obtain ⟨rfl, rfl⟩ := hq105
    show own_Run p_ l e_ _ s_ m_ _ b_ mt_ c_ n0 _ h93 _ _ (mkF m_ 85 #[.val (.int p0), .val (.int p1), .val (.int p2), .val (.int p3), .val (.int (0 : Int32)), .val (.ref a70), .val (.ref a81), .unset, .unset] [(.int (1 : Int32))])
    refine own_iload C (pc' := 87) at_85 rfl rfl ?_
    refine own_i0_ne C (pc1 := 94) (pc2 := 90) at_87 rfl rfl (fun c106 => absurd c106 (by decide)) (fun c106 => ?_)
    refine own_iconst C (pc' := 91) (v := (1 : Int32)) at_90 rfl (by decide) ?_
    refine own_goto C (pc' := 95) at_91 rfl ?_
    refine own_ii_ne C (pc1 := 102) (pc2 := 98) at_95 rfl rfl (fun c107 => absurd c107 (by decide)) (fun c107 => ?_)
    refine own_iconst C (pc' := 99) (v := (1 : Int32)) at_98 rfl (by decide) ?_
    refine own_goto C (pc' := 103) at_99 rfl ?_
    refine own_istore C (pc' := 105) (Ls' := #[.val (.int p0), .val (.int p1), .val (.int p2), .val (.int p3), .val (.int (0 : Int32)), .val (.ref a70), .val (.ref a81), .val (.int (1 : Int32)), .unset]) at_103 rfl rfl ?_
    refine own_iconst C (pc' := 106) (v := (0 : Int32)) at_105 rfl (by decide) ?_
    refine own_istore C (pc' := 108) (Ls' := #[.val (.int p0), .val (.int p1), .val (.int p2), .val (.int p3), .val (.int (0 : Int32)), .val (.ref a70), .val (.ref a81), .val (.int (1 : Int32)), .val (.int (0 : Int32))]) at_106 rfl rfl ?_
    refine own_iload C (pc' := 110) at_108 rfl rfl ?_
    refine own_iload C (pc' := 112) at_110 rfl rfl ?_
    refine own_ii_ge C (pc1 := 162) (pc2 := 115) at_112 rfl rfl (fun c108 => ?_) (fun c108 => absurd c108 (by decide))
    refine own_iload C (pc' := 164) at_162 rfl rfl ?_
    refine own_iload C (pc' := 166) at_164 rfl rfl ?_
    refine own_ii_ge C (pc1 := 216) (pc2 := 169) at_166 rfl rfl (fun c109 => ?_) (fun c109 => absurd c109 (by decide))
    refine own_iload C (pc' := 218) at_216 rfl rfl ?_
    refine own_iload C (pc' := 220) at_218 rfl rfl ?_
    refine own_ii_ge C (pc1 := 270) (pc2 := 223) at_220 rfl rfl (fun c110 => ?_) (fun c110 => absurd c110 (by decide))
    refine own_iload C (pc' := 272) at_270 rfl rfl ?_
    refine own_i0_eq C (pc1 := 294) (pc2 := 275) at_272 rfl rfl (fun c111 => absurd c111 (by decide)) (fun c111 => ?_)
    refine own_iload C (pc' := 277) at_275 rfl rfl ?_
    refine own_iload C (pc' := 279) at_277 rfl rfl ?_
    refine own_ii_ne C (pc1 := 294) (pc2 := 282) at_279 rfl rfl (fun c112 => absurd c112 (by decide)) (fun c112 => ?_)
    refine own_aload C (pc' := 284) at_282 rfl rfl rfl ?_
    refine own_callV C (pc' := 287) (y := (⟨"com/example/words_to_weights/wordstoweights/index/VarIntReader", "atEnd", "()Z"⟩ : MethodName)) (a := a81) (argsL := []) (rest := []) 0 F96 (hw _ (List.mem_of_getElem? (i := 12) rfl)) (hw _ (List.mem_of_getElem? (i := 13) rfl)) (hw _ (List.mem_of_getElem? (i := 15) rfl)) (hw _ (List.mem_of_getElem? (i := 14) rfl)) (hw _ (List.mem_of_getElem? (i := 16) rfl)) (hw _ (List.mem_of_getElem? (i := 3) rfl)) (by decide) (own_m3 hw a81 a70 0 (fun _ => (0 : Int32)) (0 : Int32) (1 : Int32) Z100 F98 F97 F101 (by decide)) (by decide) (by decide) (lenOf own_pd1 rfl) rfl (Nat.le_of_eq rfl) at_284 rfl rfl (by decide) (by decide) (fun v113 h114 hq115 => ?_)
    obtain ⟨rfl, rfl⟩ := hq115
    show own_Run p_ l e_ _ s_ m_ _ b_ mt_ c_ n0 _ h93 _ _ (mkF m_ 287 #[.val (.int p0), .val (.int p1), .val (.int p2), .val (.int p3), .val (.int (0 : Int32)), .val (.ref a70), .val (.ref a81), .val (.int (1 : Int32)), .val (.int (0 : Int32))] [(.int (1 : Int32))])
    refine own_i0_eq C (pc1 := 294) (pc2 := 290) at_287 rfl rfl (fun c116 => absurd c116 (by decide)) (fun c116 => ?_)
    refine own_iconst C (pc' := 291) (v := (1 : Int32)) at_290 rfl (by decide) ?_
    refine own_goto C (pc' := 295) at_291 rfl ?_
    refine own_istore C (pc' := 297) (Ls' := #[.val (.int p0), .val (.int p1), .val (.int p2), .val (.int p3), .val (.int (0 : Int32)), .val (.ref a70), .val (.ref a81), .val (.int (1 : Int32)), .val (.int (0 : Int32))]) at_295 rfl rfl ?_
    refine own_iload C (pc' := 299) at_297 rfl rfl ?_
    exact own_ret C (t := .boolean) rfl rfl (Or.inl ⟨rfl, by simp, _, rfl⟩) at_299 (by decide) (by decide) (rfl)
  · skip
    rw [e68]
    show own_Run p_ l e_ _ s_ m_ _ b_ mt_ c_ n0 _ h _ _ (mkF m_ 5 #[.val (.int p0), .val (.int p1), .val (.int p2), .val (.int p3), .val (.int (1 : Int32)), .unset, .unset, .unset, .unset] [])
    refine own_iload C (pc' := 7) at_5 rfl rfl ?_
    refine own_newAB C (pc' := 9) (hw _ (List.mem_of_getElem? (i := 0) rfl)) Z0 at_7 rfl (nn := 1) (cap := 1) (by decide) (by decide) (by decide) (by decide) (by decide) (fun h117 a118 ea119 ga120 Z121 E122 V123 => ?_)
    refine own_astore C (pc' := 11) (Ls' := #[.val (.int p0), .val (.int p1), .val (.int p2), .val (.int p3), .val (.int (1 : Int32)), .val (.ref a118), .unset, .unset, .unset]) at_9 rfl rfl rfl ?_
    refine own_iload C (pc' := 13) at_11 rfl rfl ?_
    refine own_i0_le C (pc1 := 22) (pc2 := 16) at_13 rfl rfl (fun c124 => absurd c124 (by decide)) (fun c124 => ?_)
    refine own_aload C (pc' := 18) at_16 rfl rfl rfl ?_
    refine own_iconst C (pc' := 19) (v := (0 : Int32)) at_18 rfl (by decide) ?_
    refine own_iloadN C (pc' := 20) at_19 rfl rfl ?_
    refine own_i2b C (pc' := 21) at_20 rfl ?_
    refine own_stB C (pc' := 22) V123 (i := 0) (by decide) (by decide) ga120 at_21 rfl (fun h125 W126 V127 => ?_)
    have Z128 : n0 ≤ h125.size := Nat.le_trans Z121 (Nat.le_of_eq (Wr.size W126).symm)
    have F129 : own_AB Z h125 a118 1 (own_upd (fun _ => (0 : Int32)) 0 ((p1.toInt8.toInt32).toInt8.toInt32)) := V127
    refine own_iload C (pc' := 24) at_22 rfl rfl ?_
    refine own_iconst C (pc' := 25) (v := (1 : Int32)) at_24 rfl (by decide) ?_
    refine own_ii_le C (pc1 := 34) (pc2 := 28) at_25 rfl rfl (fun c130 => ?_) (fun c130 => absurd c130 (by decide))
    refine own_iload C (pc' := 36) at_34 rfl rfl ?_
    refine own_iconst C (pc' := 37) (v := (2 : Int32)) at_36 rfl (by decide) ?_
    refine own_ii_le C (pc1 := 46) (pc2 := 40) at_37 rfl rfl (fun c131 => ?_) (fun c131 => absurd c131 (by decide))
    refine own_iload C (pc' := 48) at_46 rfl rfl ?_
    refine own_i0_le C (pc1 := 69) (pc2 := 51) at_48 rfl rfl (fun c132 => absurd c132 (by decide)) (fun c132 => ?_)
    refine own_aload C (pc' := 53) at_51 rfl rfl rfl ?_
    refine own_iload C (pc' := 55) at_53 rfl rfl ?_
    refine own_iconst C (pc' := 56) (v := (1 : Int32)) at_55 rfl (by decide) ?_
    refine own_isubV C (pc' := 57) (v := (0 : Int32)) at_56 rfl (by decide) ?_
    refine own_aload C (pc' := 59) at_57 rfl rfl rfl ?_
    refine own_iload C (pc' := 61) at_59 rfl rfl ?_
    refine own_iconst C (pc' := 62) (v := (1 : Int32)) at_61 rfl (by decide) ?_
    refine own_isubV C (pc' := 63) (v := (0 : Int32)) at_62 rfl (by decide) ?_
    refine own_ldBV C (pc' := 64) F129 (i := 0) (v := ((p1.toInt8.toInt32).toInt8.toInt32)) (by decide) (by decide) rfl at_63 rfl ?_
    refine own_bipush C (pc' := 66) (v := (127 : Int32)) at_64 rfl (by decide) ?_
    refine own_iand C (pc' := 67) at_66 rfl ?_
    refine own_i2b C (pc' := 68) at_67 rfl ?_
    refine own_stB C (pc' := 69) F129 (i := 0) (by decide) (by decide) ga120 at_68 rfl (fun h133 W134 V135 => ?_)
    have Z136 : n0 ≤ h133.size := Nat.le_trans Z128 (Nat.le_of_eq (Wr.size W134).symm)
    have F137 : own_AB Z h133 a118 1 (own_upd (own_upd (fun _ => (0 : Int32)) 0 ((p1.toInt8.toInt32).toInt8.toInt32)) 0 (((((p1.toInt8.toInt32).toInt8.toInt32) &&& (127 : Int32)).toInt8.toInt32).toInt8.toInt32)) := V135
    obtain ⟨g, hg⟩ : ∃ g : Nat → Int32, g = (own_upd (own_upd (fun _ => (0 : Int32)) 0 ((p1.toInt8.toInt32).toInt8.toInt32)) 0 (((((p1.toInt8.toInt32).toInt8.toInt32) &&& (127 : Int32)).toInt8.toInt32).toInt8.toInt32)) := ⟨_, rfl⟩
    rw [← hg] at F137
    have s0 : ¬ (g 0) < 0 := by rw [hg, own_upd_eq]; exact own_nn _
    refine own_new C (pc' := 72) (hw _ (List.mem_of_getElem? (i := 1) rfl)) (hw _ (List.mem_of_getElem? (i := 2) rfl)) (hw _ (List.mem_of_getElem? (i := 3) rfl)) Z136 at_69 rfl (by decide) (by decide) (fun h138 a139 ea140 ga141 Z142 E143 A144 D145 => ?_)
    have ne146 : a118 ≠ a139 := by rw [ea140]; exact Nat.ne_of_lt (own_A.lt F137)
    have F147 : own_AB Z h138 a118 1 g := own_A.ext F137 E143
    have F148 : Fld Z h138 a139 "com/example/words_to_weights/wordstoweights/index/VarIntReader" "bytes" "[B" .null := D145 (Or.inr (hw _ (List.mem_of_getElem? (i := 11) rfl))) (ty := (.array .byte)) (by decide)
    have F149 : Fld Z h138 a139 "com/example/words_to_weights/wordstoweights/index/VarIntReader" "position" "I" (.int (0 : Int32)) := D145 (Or.inl (hw _ (List.mem_of_getElem? (i := 18) rfl))) (ty := .int) (by decide)
    refine own_dup C (pc' := 73) at_72 rfl rfl ?_
    refine own_aload C (pc' := 75) at_73 rfl rfl rfl ?_
    refine own_callN C (pc' := 78) (y := (⟨"com/example/words_to_weights/wordstoweights/index/VarIntReader", "<init>", "([B)V"⟩ : MethodName)) (a := a139) (argsL := [(.ref a118)]) (rest := [(.ref a139)]) 1 rfl (hw _ (List.mem_of_getElem? (i := 4) rfl)) (hw _ (List.mem_of_getElem? (i := 5) rfl)) (hw _ (List.mem_of_getElem? (i := 6) rfl)) (hw _ (List.mem_of_getElem? (i := 3) rfl)) (by decide) (own_m1 hw a139 a118 Z142 A144 ga141 F148 F149 ) (by decide) (by decide) (lenOf own_pd0 rfl) rfl (Nat.le_of_eq rfl) at_75 rfl rfl (by decide) (by decide) (fun v150 h151 hq152 => ?_)
    obtain ⟨rfl, K153, F154, F155, F156⟩ := hq152
    have Z158 : n0 ≤ h151.size := Nat.le_trans Z142 K153.1
    have F159 : own_AB Z h151 a118 1 g := own_A.keep F147 K153 (ninS ne146 nin0)
    have F160 : Exa Z h151 a139 "com/example/words_to_weights/wordstoweights/index/VarIntReader" := Exa.keep A144 K153
    show own_Run p_ l e_ _ s_ m_ _ b_ mt_ c_ n0 _ h151 _ _ (mkF m_ 78 #[.val (.int p0), .val (.int p1), .val (.int p2), .val (.int p3), .val (.int (1 : Int32)), .val (.ref a118), .unset, .unset, .unset] [(.ref a139)])
    refine own_astore C (pc' := 80) (Ls' := #[.val (.int p0), .val (.int p1), .val (.int p2), .val (.int p3), .val (.int (1 : Int32)), .val (.ref a118), .val (.ref a139), .unset, .unset]) at_78 rfl rfl rfl ?_
    refine own_aload C (pc' := 82) at_80 rfl rfl rfl ?_
    refine own_callV C (pc' := 85) (y := (⟨"com/example/words_to_weights/wordstoweights/index/VarIntReader", "atEnd", "()Z"⟩ : MethodName)) (a := a139) (argsL := []) (rest := []) 0 F154 (hw _ (List.mem_of_getElem? (i := 12) rfl)) (hw _ (List.mem_of_getElem? (i := 13) rfl)) (hw _ (List.mem_of_getElem? (i := 15) rfl)) (hw _ (List.mem_of_getElem? (i := 14) rfl)) (hw _ (List.mem_of_getElem? (i := 16) rfl)) (hw _ (List.mem_of_getElem? (i := 3) rfl)) (by decide) (own_m3 hw a139 a118 1 g (0 : Int32) (0 : Int32) Z158 F156 F155 F159 (by decide)) (by decide) (by decide) (lenOf own_pd1 rfl) rfl (Nat.le_of_eq rfl) at_82 rfl rfl (by decide) (by decide) (fun v161 h162 hq163 => ?_)
    obtain ⟨rfl, rfl⟩ := hq163
    show own_Run p_ l e_ _ s_ m_ _ b_ mt_ c_ n0 _ h151 _ _ (mkF m_ 85 #[.val (.int p0), .val (.int p1), .val (.int p2), .val (.int p3), .val (.int (1 : Int32)), .val (.ref a118), .val (.ref a139), .unset, .unset] [(.int (0 : Int32))])
    refine own_iload C (pc' := 87) at_85 rfl rfl ?_
    refine own_i0_ne C (pc1 := 94) (pc2 := 90) at_87 rfl rfl (fun c164 => ?_) (fun c164 => absurd c164 (by decide))
    refine own_iconst C (pc' := 95) (v := (0 : Int32)) at_94 rfl (by decide) ?_
    refine own_ii_ne C (pc1 := 102) (pc2 := 98) at_95 rfl rfl (fun c165 => absurd c165 (by decide)) (fun c165 => ?_)
    refine own_iconst C (pc' := 99) (v := (1 : Int32)) at_98 rfl (by decide) ?_
    refine own_goto C (pc' := 103) at_99 rfl ?_
    refine own_istore C (pc' := 105) (Ls' := #[.val (.int p0), .val (.int p1), .val (.int p2), .val (.int p3), .val (.int (1 : Int32)), .val (.ref a118), .val (.ref a139), .val (.int (1 : Int32)), .unset]) at_103 rfl rfl ?_
    refine own_iconst C (pc' := 106) (v := (0 : Int32)) at_105 rfl (by decide) ?_
    refine own_istore C (pc' := 108) (Ls' := #[.val (.int p0), .val (.int p1), .val (.int p2), .val (.int p3), .val (.int (1 : Int32)), .val (.ref a118), .val (.ref a139), .val (.int (1 : Int32)), .val (.int (0 : Int32))]) at_106 rfl rfl ?_
    refine own_iload C (pc' := 110) at_108 rfl rfl ?_
    refine own_iload C (pc' := 112) at_110 rfl rfl ?_
    refine own_ii_ge C (pc1 := 162) (pc2 := 115) at_112 rfl rfl (fun c166 => absurd c166 (by decide)) (fun c166 => ?_)
    refine own_aload C (pc' := 117) at_115 rfl rfl rfl ?_
    refine own_callV C (pc' := 120) (y := (⟨"com/example/words_to_weights/wordstoweights/index/VarIntReader", "read", "()I"⟩ : MethodName)) (a := a139) (argsL := []) (rest := []) 0 F154 (hw _ (List.mem_of_getElem? (i := 19) rfl)) (hw _ (List.mem_of_getElem? (i := 20) rfl)) (hw _ (List.mem_of_getElem? (i := 22) rfl)) (hw _ (List.mem_of_getElem? (i := 21) rfl)) (hw _ (List.mem_of_getElem? (i := 23) rfl)) (hw _ (List.mem_of_getElem? (i := 3) rfl)) (by decide) (own_read1 hw a139 a118 1 g (0 : Int32) 0 (1 : Int32) Z158 F154 ga141 (Ne.symm ne146) F155 F156 F159 (by decide) (by decide) s0 (by decide)) (by decide) (by decide) (lenOf own_pd2 rfl) rfl (Nat.le_of_eq rfl) at_117 rfl rfl (by decide) (by decide) (fun v167 h168 hq169 => ?_)
    obtain ⟨rfl, K170, F171, F172, F173⟩ := hq169
    have Z175 : n0 ≤ h168.size := Nat.le_trans Z158 K170.1
    have F176 : own_AB Z h168 a118 1 g := own_A.keep F159 K170 (ninS ne146 nin0)
    have F177 : Exa Z h168 a139 "com/example/words_to_weights/wordstoweights/index/VarIntReader" := Exa.keep F154 K170
    show own_Run p_ l e_ _ s_ m_ _ b_ mt_ c_ n0 _ h168 _ _ (mkF m_ 120 #[.val (.int p0), .val (.int p1), .val (.int p2), .val (.int p3), .val (.int (1 : Int32)), .val (.ref a118), .val (.ref a139), .val (.int (1 : Int32)), .val (.int (0 : Int32))] [(.int ((0 : Int32) ||| (((g 0) &&& (127 : Int32)) <<< ((0 : Int32) &&& 31))))])
    refine own_pop C (pc' := 121) at_120 rfl rfl ?_
    refine own_aload C (pc' := 123) at_121 rfl rfl rfl ?_
    refine own_iload C (pc' := 125) at_123 rfl rfl ?_
    refine own_callS C (pc' := 128) (y := (⟨"com/example/words_to_weights/wordstoweights/index/VarIntReaderAtEndPinLaw", "next", "([BI)I"⟩ : MethodName)) (argsL := [(.ref a118), (.int (0 : Int32))]) (rest := []) 0 (hw _ (List.mem_of_getElem? (i := 24) rfl)) (hw _ (List.mem_of_getElem? (i := 25) rfl)) (hw _ (List.mem_of_getElem? (i := 26) rfl)) (hw _ (List.mem_of_getElem? (i := 27) rfl)) (by decide) (own_next1 hw a118 1 g (0 : Int32) 0 (1 : Int32) Z175 F176 (by decide) (by decide) s0 (by decide)) (by decide) (by decide) (lenOf own_pd3 rfl) rfl (Nat.le_of_eq rfl) at_125 rfl rfl (by decide) (by decide) (fun v178 h179 hq180 => ?_)
    obtain ⟨rfl, rfl⟩ := hq180
    show own_Run p_ l e_ _ s_ m_ _ b_ mt_ c_ n0 _ h168 _ _ (mkF m_ 128 #[.val (.int p0), .val (.int p1), .val (.int p2), .val (.int p3), .val (.int (1 : Int32)), .val (.ref a118), .val (.ref a139), .val (.int (1 : Int32)), .val (.int (0 : Int32))] [(.int (1 : Int32))])
    refine own_istore C (pc' := 130) (Ls' := #[.val (.int p0), .val (.int p1), .val (.int p2), .val (.int p3), .val (.int (1 : Int32)), .val (.ref a118), .val (.ref a139), .val (.int (1 : Int32)), .val (.int (1 : Int32))]) at_128 rfl rfl ?_
    refine own_iload C (pc' := 132) at_130 rfl rfl ?_
    refine own_i0_eq C (pc1 := 159) (pc2 := 135) at_132 rfl rfl (fun c181 => absurd c181 (by decide)) (fun c181 => ?_)
    refine own_aload C (pc' := 137) at_135 rfl rfl rfl ?_
    refine own_callV C (pc' := 140) (y := (⟨"com/example/words_to_weights/wordstoweights/index/VarIntReader", "atEnd", "()Z"⟩ : MethodName)) (a := a139) (argsL := []) (rest := []) 0 F171 (hw _ (List.mem_of_getElem? (i := 12) rfl)) (hw _ (List.mem_of_getElem? (i := 13) rfl)) (hw _ (List.mem_of_getElem? (i := 15) rfl)) (hw _ (List.mem_of_getElem? (i := 14) rfl)) (hw _ (List.mem_of_getElem? (i := 16) rfl)) (hw _ (List.mem_of_getElem? (i := 3) rfl)) (by decide) (own_m3 hw a139 a118 1 g (1 : Int32) (1 : Int32) Z175 F173 F172 F176 (by decide)) (by decide) (by decide) (lenOf own_pd1 rfl) rfl (Nat.le_of_eq rfl) at_137 rfl rfl (by decide) (by decide) (fun v182 h183 hq184 => ?_)
    obtain ⟨rfl, rfl⟩ := hq184
    show own_Run p_ l e_ _ s_ m_ _ b_ mt_ c_ n0 _ h168 _ _ (mkF m_ 140 #[.val (.int p0), .val (.int p1), .val (.int p2), .val (.int p3), .val (.int (1 : Int32)), .val (.ref a118), .val (.ref a139), .val (.int (1 : Int32)), .val (.int (1 : Int32))] [(.int (1 : Int32))])
    refine own_iload C (pc' := 142) at_140 rfl rfl ?_
    refine own_iload C (pc' := 144) at_142 rfl rfl ?_
    refine own_ii_ne C (pc1 := 151) (pc2 := 147) at_144 rfl rfl (fun c185 => absurd c185 (by decide)) (fun c185 => ?_)
    refine own_iconst C (pc' := 148) (v := (1 : Int32)) at_147 rfl (by decide) ?_
    refine own_goto C (pc' := 152) at_148 rfl ?_
    refine own_ii_ne C (pc1 := 159) (pc2 := 155) at_152 rfl rfl (fun c186 => absurd c186 (by decide)) (fun c186 => ?_)
    refine own_iconst C (pc' := 156) (v := (1 : Int32)) at_155 rfl (by decide) ?_
    refine own_goto C (pc' := 160) at_156 rfl ?_
    refine own_istore C (pc' := 162) (Ls' := #[.val (.int p0), .val (.int p1), .val (.int p2), .val (.int p3), .val (.int (1 : Int32)), .val (.ref a118), .val (.ref a139), .val (.int (1 : Int32)), .val (.int (1 : Int32))]) at_160 rfl rfl ?_
    refine own_iload C (pc' := 164) at_162 rfl rfl ?_
    refine own_iload C (pc' := 166) at_164 rfl rfl ?_
    refine own_ii_ge C (pc1 := 216) (pc2 := 169) at_166 rfl rfl (fun c187 => ?_) (fun c187 => absurd c187 (by decide))
    refine own_iload C (pc' := 218) at_216 rfl rfl ?_
    refine own_iload C (pc' := 220) at_218 rfl rfl ?_
    refine own_ii_ge C (pc1 := 270) (pc2 := 223) at_220 rfl rfl (fun c188 => ?_) (fun c188 => absurd c188 (by decide))
    refine own_iload C (pc' := 272) at_270 rfl rfl ?_
    refine own_i0_eq C (pc1 := 294) (pc2 := 275) at_272 rfl rfl (fun c189 => absurd c189 (by decide)) (fun c189 => ?_)
    refine own_iload C (pc' := 277) at_275 rfl rfl ?_
    refine own_iload C (pc' := 279) at_277 rfl rfl ?_
    refine own_ii_ne C (pc1 := 294) (pc2 := 282) at_279 rfl rfl (fun c190 => absurd c190 (by decide)) (fun c190 => ?_)
    refine own_aload C (pc' := 284) at_282 rfl rfl rfl ?_
    refine own_callV C (pc' := 287) (y := (⟨"com/example/words_to_weights/wordstoweights/index/VarIntReader", "atEnd", "()Z"⟩ : MethodName)) (a := a139) (argsL := []) (rest := []) 0 F171 (hw _ (List.mem_of_getElem? (i := 12) rfl)) (hw _ (List.mem_of_getElem? (i := 13) rfl)) (hw _ (List.mem_of_getElem? (i := 15) rfl)) (hw _ (List.mem_of_getElem? (i := 14) rfl)) (hw _ (List.mem_of_getElem? (i := 16) rfl)) (hw _ (List.mem_of_getElem? (i := 3) rfl)) (by decide) (own_m3 hw a139 a118 1 g (1 : Int32) (1 : Int32) Z175 F173 F172 F176 (by decide)) (by decide) (by decide) (lenOf own_pd1 rfl) rfl (Nat.le_of_eq rfl) at_284 rfl rfl (by decide) (by decide) (fun v191 h192 hq193 => ?_)
    obtain ⟨rfl, rfl⟩ := hq193
    show own_Run p_ l e_ _ s_ m_ _ b_ mt_ c_ n0 _ h168 _ _ (mkF m_ 287 #[.val (.int p0), .val (.int p1), .val (.int p2), .val (.int p3), .val (.int (1 : Int32)), .val (.ref a118), .val (.ref a139), .val (.int (1 : Int32)), .val (.int (1 : Int32))] [(.int (1 : Int32))])
    refine own_i0_eq C (pc1 := 294) (pc2 := 290) at_287 rfl rfl (fun c194 => absurd c194 (by decide)) (fun c194 => ?_)
    refine own_iconst C (pc' := 291) (v := (1 : Int32)) at_290 rfl (by decide) ?_
    refine own_goto C (pc' := 295) at_291 rfl ?_
    refine own_istore C (pc' := 297) (Ls' := #[.val (.int p0), .val (.int p1), .val (.int p2), .val (.int p3), .val (.int (1 : Int32)), .val (.ref a118), .val (.ref a139), .val (.int (1 : Int32)), .val (.int (1 : Int32))]) at_295 rfl rfl ?_
    refine own_iload C (pc' := 299) at_297 rfl rfl ?_
    exact own_ret C (t := .boolean) rfl rfl (Or.inl ⟨rfl, by simp, _, rfl⟩) at_299 (by decide) (by decide) (rfl)
  · skip
    rw [e68]
    show own_Run p_ l e_ _ s_ m_ _ b_ mt_ c_ n0 _ h _ _ (mkF m_ 5 #[.val (.int p0), .val (.int p1), .val (.int p2), .val (.int p3), .val (.int (2 : Int32)), .unset, .unset, .unset, .unset] [])
    refine own_iload C (pc' := 7) at_5 rfl rfl ?_
    refine own_newAB C (pc' := 9) (hw _ (List.mem_of_getElem? (i := 0) rfl)) Z0 at_7 rfl (nn := 2) (cap := 2) (by decide) (by decide) (by decide) (by decide) (by decide) (fun h195 a196 ea197 ga198 Z199 E200 V201 => ?_)
    refine own_astore C (pc' := 11) (Ls' := #[.val (.int p0), .val (.int p1), .val (.int p2), .val (.int p3), .val (.int (2 : Int32)), .val (.ref a196), .unset, .unset, .unset]) at_9 rfl rfl rfl ?_
    refine own_iload C (pc' := 13) at_11 rfl rfl ?_
    refine own_i0_le C (pc1 := 22) (pc2 := 16) at_13 rfl rfl (fun c202 => absurd c202 (by decide)) (fun c202 => ?_)
    refine own_aload C (pc' := 18) at_16 rfl rfl rfl ?_
    refine own_iconst C (pc' := 19) (v := (0 : Int32)) at_18 rfl (by decide) ?_
    refine own_iloadN C (pc' := 20) at_19 rfl rfl ?_
    refine own_i2b C (pc' := 21) at_20 rfl ?_
    refine own_stB C (pc' := 22) V201 (i := 0) (by decide) (by decide) ga198 at_21 rfl (fun h203 W204 V205 => ?_)
    have Z206 : n0 ≤ h203.size := Nat.le_trans Z199 (Nat.le_of_eq (Wr.size W204).symm)
    have F207 : own_AB Z h203 a196 2 (own_upd (fun _ => (0 : Int32)) 0 ((p1.toInt8.toInt32).toInt8.toInt32)) := V205
    refine own_iload C (pc' := 24) at_22 rfl rfl ?_
    refine own_iconst C (pc' := 25) (v := (1 : Int32)) at_24 rfl (by decide) ?_
    refine own_ii_le C (pc1 := 34) (pc2 := 28) at_25 rfl rfl (fun c208 => absurd c208 (by decide)) (fun c208 => ?_)
    refine own_aload C (pc' := 30) at_28 rfl rfl rfl ?_
    refine own_iconst C (pc' := 31) (v := (1 : Int32)) at_30 rfl (by decide) ?_
    refine own_iloadN C (pc' := 32) at_31 rfl rfl ?_
    refine own_i2b C (pc' := 33) at_32 rfl ?_
    refine own_stB C (pc' := 34) F207 (i := 1) (by decide) (by decide) ga198 at_33 rfl (fun h209 W210 V211 => ?_)
    have Z212 : n0 ≤ h209.size := Nat.le_trans Z206 (Nat.le_of_eq (Wr.size W210).symm)
    have F213 : own_AB Z h209 a196 2 (own_upd (own_upd (fun _ => (0 : Int32)) 0 ((p1.toInt8.toInt32).toInt8.toInt32)) 1 ((p2.toInt8.toInt32).toInt8.toInt32)) := V211
    refine own_iload C (pc' := 36) at_34 rfl rfl ?_
    refine own_iconst C (pc' := 37) (v := (2 : Int32)) at_36 rfl (by decide) ?_
    refine own_ii_le C (pc1 := 46) (pc2 := 40) at_37 rfl rfl (fun c214 => ?_) (fun c214 => absurd c214 (by decide))
    refine own_iload C (pc' := 48) at_46 rfl rfl ?_
    refine own_i0_le C (pc1 := 69) (pc2 := 51) at_48 rfl rfl (fun c215 => absurd c215 (by decide)) (fun c215 => ?_)
    refine own_aload C (pc' := 53) at_51 rfl rfl rfl ?_
    refine own_iload C (pc' := 55) at_53 rfl rfl ?_
    refine own_iconst C (pc' := 56) (v := (1 : Int32)) at_55 rfl (by decide) ?_
    refine own_isubV C (pc' := 57) (v := (1 : Int32)) at_56 rfl (by decide) ?_
    refine own_aload C (pc' := 59) at_57 rfl rfl rfl ?_
    refine own_iload C (pc' := 61) at_59 rfl rfl ?_
    refine own_iconst C (pc' := 62) (v := (1 : Int32)) at_61 rfl (by decide) ?_
    refine own_isubV C (pc' := 63) (v := (1 : Int32)) at_62 rfl (by decide) ?_
    refine own_ldBV C (pc' := 64) F213 (i := 1) (v := ((p2.toInt8.toInt32).toInt8.toInt32)) (by decide) (by decide) rfl at_63 rfl ?_
    refine own_bipush C (pc' := 66) (v := (127 : Int32)) at_64 rfl (by decide) ?_
    refine own_iand C (pc' := 67) at_66 rfl ?_
    refine own_i2b C (pc' := 68) at_67 rfl ?_
    refine own_stB C (pc' := 69) F213 (i := 1) (by decide) (by decide) ga198 at_68 rfl (fun h216 W217 V218 => ?_)
    have Z219 : n0 ≤ h216.size := Nat.le_trans Z212 (Nat.le_of_eq (Wr.size W217).symm)
    have F220 : own_AB Z h216 a196 2 (own_upd (own_upd (own_upd (fun _ => (0 : Int32)) 0 ((p1.toInt8.toInt32).toInt8.toInt32)) 1 ((p2.toInt8.toInt32).toInt8.toInt32)) 1 (((((p2.toInt8.toInt32).toInt8.toInt32) &&& (127 : Int32)).toInt8.toInt32).toInt8.toInt32)) := V218
    obtain ⟨g, hg⟩ : ∃ g : Nat → Int32, g = (own_upd (own_upd (own_upd (fun _ => (0 : Int32)) 0 ((p1.toInt8.toInt32).toInt8.toInt32)) 1 ((p2.toInt8.toInt32).toInt8.toInt32)) 1 (((((p2.toInt8.toInt32).toInt8.toInt32) &&& (127 : Int32)).toInt8.toInt32).toInt8.toInt32)) := ⟨_, rfl⟩
    rw [← hg] at F220
    have s1 : ¬ (g 1) < 0 := by rw [hg, own_upd_eq]; exact own_nn _
    by_cases s0 : (g 0) < 0
    · skip
      refine own_new C (pc' := 72) (hw _ (List.mem_of_getElem? (i := 1) rfl)) (hw _ (List.mem_of_getElem? (i := 2) rfl)) (hw _ (List.mem_of_getElem? (i := 3) rfl)) Z219 at_69 rfl (by decide) (by decide) (fun h221 a222 ea223 ga224 Z225 E226 A227 D228 => ?_)
      have ne229 : a196 ≠ a222 := by rw [ea223]; exact Nat.ne_of_lt (own_A.lt F220)
      have F230 : own_AB Z h221 a196 2 g := own_A.ext F220 E226
      have F231 : Fld Z h221 a222 "com/example/words_to_weights/wordstoweights/index/VarIntReader" "bytes" "[B" .null := D228 (Or.inr (hw _ (List.mem_of_getElem? (i := 11) rfl))) (ty := (.array .byte)) (by decide)
      have F232 : Fld Z h221 a222 "com/example/words_to_weights/wordstoweights/index/VarIntReader" "position" "I" (.int (0 : Int32)) := D228 (Or.inl (hw _ (List.mem_of_getElem? (i := 18) rfl))) (ty := .int) (by decide)
      refine own_dup C (pc' := 73) at_72 rfl rfl ?_
      refine own_aload C (pc' := 75) at_73 rfl rfl rfl ?_
      refine own_callN C (pc' := 78) (y := (⟨"com/example/words_to_weights/wordstoweights/index/VarIntReader", "<init>", "([B)V"⟩ : MethodName)) (a := a222) (argsL := [(.ref a196)]) (rest := [(.ref a222)]) 1 rfl (hw _ (List.mem_of_getElem? (i := 4) rfl)) (hw _ (List.mem_of_getElem? (i := 5) rfl)) (hw _ (List.mem_of_getElem? (i := 6) rfl)) (hw _ (List.mem_of_getElem? (i := 3) rfl)) (by decide) (own_m1 hw a222 a196 Z225 A227 ga224 F231 F232 ) (by decide) (by decide) (lenOf own_pd0 rfl) rfl (Nat.le_of_eq rfl) at_75 rfl rfl (by decide) (by decide) (fun v233 h234 hq235 => ?_)
      obtain ⟨rfl, K236, F237, F238, F239⟩ := hq235
      have Z241 : n0 ≤ h234.size := Nat.le_trans Z225 K236.1
      have F242 : own_AB Z h234 a196 2 g := own_A.keep F230 K236 (ninS ne229 nin0)
      have F243 : Exa Z h234 a222 "com/example/words_to_weights/wordstoweights/index/VarIntReader" := Exa.keep A227 K236
      show own_Run p_ l e_ _ s_ m_ _ b_ mt_ c_ n0 _ h234 _ _ (mkF m_ 78 #[.val (.int p0), .val (.int p1), .val (.int p2), .val (.int p3), .val (.int (2 : Int32)), .val (.ref a196), .unset, .unset, .unset] [(.ref a222)])
      refine own_astore C (pc' := 80) (Ls' := #[.val (.int p0), .val (.int p1), .val (.int p2), .val (.int p3), .val (.int (2 : Int32)), .val (.ref a196), .val (.ref a222), .unset, .unset]) at_78 rfl rfl rfl ?_
      refine own_aload C (pc' := 82) at_80 rfl rfl rfl ?_
      refine own_callV C (pc' := 85) (y := (⟨"com/example/words_to_weights/wordstoweights/index/VarIntReader", "atEnd", "()Z"⟩ : MethodName)) (a := a222) (argsL := []) (rest := []) 0 F237 (hw _ (List.mem_of_getElem? (i := 12) rfl)) (hw _ (List.mem_of_getElem? (i := 13) rfl)) (hw _ (List.mem_of_getElem? (i := 15) rfl)) (hw _ (List.mem_of_getElem? (i := 14) rfl)) (hw _ (List.mem_of_getElem? (i := 16) rfl)) (hw _ (List.mem_of_getElem? (i := 3) rfl)) (by decide) (own_m3 hw a222 a196 2 g (0 : Int32) (0 : Int32) Z241 F239 F238 F242 (by decide)) (by decide) (by decide) (lenOf own_pd1 rfl) rfl (Nat.le_of_eq rfl) at_82 rfl rfl (by decide) (by decide) (fun v244 h245 hq246 => ?_)
      obtain ⟨rfl, rfl⟩ := hq246
      show own_Run p_ l e_ _ s_ m_ _ b_ mt_ c_ n0 _ h234 _ _ (mkF m_ 85 #[.val (.int p0), .val (.int p1), .val (.int p2), .val (.int p3), .val (.int (2 : Int32)), .val (.ref a196), .val (.ref a222), .unset, .unset] [(.int (0 : Int32))])
      refine own_iload C (pc' := 87) at_85 rfl rfl ?_
      refine own_i0_ne C (pc1 := 94) (pc2 := 90) at_87 rfl rfl (fun c247 => ?_) (fun c247 => absurd c247 (by decide))
      refine own_iconst C (pc' := 95) (v := (0 : Int32)) at_94 rfl (by decide) ?_
      refine own_ii_ne C (pc1 := 102) (pc2 := 98) at_95 rfl rfl (fun c248 => absurd c248 (by decide)) (fun c248 => ?_)
      refine own_iconst C (pc' := 99) (v := (1 : Int32)) at_98 rfl (by decide) ?_
      refine own_goto C (pc' := 103) at_99 rfl ?_
      refine own_istore C (pc' := 105) (Ls' := #[.val (.int p0), .val (.int p1), .val (.int p2), .val (.int p3), .val (.int (2 : Int32)), .val (.ref a196), .val (.ref a222), .val (.int (1 : Int32)), .unset]) at_103 rfl rfl ?_
      refine own_iconst C (pc' := 106) (v := (0 : Int32)) at_105 rfl (by decide) ?_
      refine own_istore C (pc' := 108) (Ls' := #[.val (.int p0), .val (.int p1), .val (.int p2), .val (.int p3), .val (.int (2 : Int32)), .val (.ref a196), .val (.ref a222), .val (.int (1 : Int32)), .val (.int (0 : Int32))]) at_106 rfl rfl ?_
      refine own_iload C (pc' := 110) at_108 rfl rfl ?_
      refine own_iload C (pc' := 112) at_110 rfl rfl ?_
      refine own_ii_ge C (pc1 := 162) (pc2 := 115) at_112 rfl rfl (fun c249 => absurd c249 (by decide)) (fun c249 => ?_)
      refine own_aload C (pc' := 117) at_115 rfl rfl rfl ?_
      refine own_callV C (pc' := 120) (y := (⟨"com/example/words_to_weights/wordstoweights/index/VarIntReader", "read", "()I"⟩ : MethodName)) (a := a222) (argsL := []) (rest := []) 0 F237 (hw _ (List.mem_of_getElem? (i := 19) rfl)) (hw _ (List.mem_of_getElem? (i := 20) rfl)) (hw _ (List.mem_of_getElem? (i := 22) rfl)) (hw _ (List.mem_of_getElem? (i := 21) rfl)) (hw _ (List.mem_of_getElem? (i := 23) rfl)) (hw _ (List.mem_of_getElem? (i := 3) rfl)) (by decide) (own_read2 hw a222 a196 2 g (0 : Int32) 0 1 (2 : Int32) Z241 F237 ga224 (Ne.symm ne229) F238 F239 F242 (by decide) (by decide) s0 (by decide) (by decide) s1 (by decide)) (by decide) (by decide) (lenOf own_pd2 rfl) rfl (Nat.le_of_eq rfl) at_117 rfl rfl (by decide) (by decide) (fun v250 h251 hq252 => ?_)
      obtain ⟨rfl, K253, F254, F255, F256⟩ := hq252
      have Z258 : n0 ≤ h251.size := Nat.le_trans Z241 K253.1
      have F259 : own_AB Z h251 a196 2 g := own_A.keep F242 K253 (ninS ne229 nin0)
      have F260 : Exa Z h251 a222 "com/example/words_to_weights/wordstoweights/index/VarIntReader" := Exa.keep F237 K253
      show own_Run p_ l e_ _ s_ m_ _ b_ mt_ c_ n0 _ h251 _ _ (mkF m_ 120 #[.val (.int p0), .val (.int p1), .val (.int p2), .val (.int p3), .val (.int (2 : Int32)), .val (.ref a196), .val (.ref a222), .val (.int (1 : Int32)), .val (.int (0 : Int32))] [(.int (((0 : Int32) ||| (((g 0) &&& (127 : Int32)) <<< ((0 : Int32) &&& 31))) ||| (((g 1) &&& (127 : Int32)) <<< ((7 : Int32) &&& 31))))])
      refine own_pop C (pc' := 121) at_120 rfl rfl ?_
      refine own_aload C (pc' := 123) at_121 rfl rfl rfl ?_
      refine own_iload C (pc' := 125) at_123 rfl rfl ?_
      refine own_callS C (pc' := 128) (y := (⟨"com/example/words_to_weights/wordstoweights/index/VarIntReaderAtEndPinLaw", "next", "([BI)I"⟩ : MethodName)) (argsL := [(.ref a196), (.int (0 : Int32))]) (rest := []) 0 (hw _ (List.mem_of_getElem? (i := 24) rfl)) (hw _ (List.mem_of_getElem? (i := 25) rfl)) (hw _ (List.mem_of_getElem? (i := 26) rfl)) (hw _ (List.mem_of_getElem? (i := 27) rfl)) (by decide) (own_next2 hw a196 2 g (0 : Int32) 0 1 (2 : Int32) Z258 F259 (by decide) (by decide) s0 (by decide) (by decide) s1 (by decide)) (by decide) (by decide) (lenOf own_pd3 rfl) rfl (Nat.le_of_eq rfl) at_125 rfl rfl (by decide) (by decide) (fun v261 h262 hq263 => ?_)
      obtain ⟨rfl, rfl⟩ := hq263
      show own_Run p_ l e_ _ s_ m_ _ b_ mt_ c_ n0 _ h251 _ _ (mkF m_ 128 #[.val (.int p0), .val (.int p1), .val (.int p2), .val (.int p3), .val (.int (2 : Int32)), .val (.ref a196), .val (.ref a222), .val (.int (1 : Int32)), .val (.int (0 : Int32))] [(.int (2 : Int32))])
      refine own_istore C (pc' := 130) (Ls' := #[.val (.int p0), .val (.int p1), .val (.int p2), .val (.int p3), .val (.int (2 : Int32)), .val (.ref a196), .val (.ref a222), .val (.int (1 : Int32)), .val (.int (2 : Int32))]) at_128 rfl rfl ?_
      refine own_iload C (pc' := 132) at_130 rfl rfl ?_
      refine own_i0_eq C (pc1 := 159) (pc2 := 135) at_132 rfl rfl (fun c264 => absurd c264 (by decide)) (fun c264 => ?_)
      refine own_aload C (pc' := 137) at_135 rfl rfl rfl ?_
      refine own_callV C (pc' := 140) (y := (⟨"com/example/words_to_weights/wordstoweights/index/VarIntReader", "atEnd", "()Z"⟩ : MethodName)) (a := a222) (argsL := []) (rest := []) 0 F254 (hw _ (List.mem_of_getElem? (i := 12) rfl)) (hw _ (List.mem_of_getElem? (i := 13) rfl)) (hw _ (List.mem_of_getElem? (i := 15) rfl)) (hw _ (List.mem_of_getElem? (i := 14) rfl)) (hw _ (List.mem_of_getElem? (i := 16) rfl)) (hw _ (List.mem_of_getElem? (i := 3) rfl)) (by decide) (own_m3 hw a222 a196 2 g (2 : Int32) (1 : Int32) Z258 F256 F255 F259 (by decide)) (by decide) (by decide) (lenOf own_pd1 rfl) rfl (Nat.le_of_eq rfl) at_137 rfl rfl (by decide) (by decide) (fun v265 h266 hq267 => ?_)
      obtain ⟨rfl, rfl⟩ := hq267
      show own_Run p_ l e_ _ s_ m_ _ b_ mt_ c_ n0 _ h251 _ _ (mkF m_ 140 #[.val (.int p0), .val (.int p1), .val (.int p2), .val (.int p3), .val (.int (2 : Int32)), .val (.ref a196), .val (.ref a222), .val (.int (1 : Int32)), .val (.int (2 : Int32))] [(.int (1 : Int32))])
      refine own_iload C (pc' := 142) at_140 rfl rfl ?_
      refine own_iload C (pc' := 144) at_142 rfl rfl ?_
      refine own_ii_ne C (pc1 := 151) (pc2 := 147) at_144 rfl rfl (fun c268 => absurd c268 (by decide)) (fun c268 => ?_)
      refine own_iconst C (pc' := 148) (v := (1 : Int32)) at_147 rfl (by decide) ?_
      refine own_goto C (pc' := 152) at_148 rfl ?_
      refine own_ii_ne C (pc1 := 159) (pc2 := 155) at_152 rfl rfl (fun c269 => absurd c269 (by decide)) (fun c269 => ?_)
      refine own_iconst C (pc' := 156) (v := (1 : Int32)) at_155 rfl (by decide) ?_
      refine own_goto C (pc' := 160) at_156 rfl ?_
      refine own_istore C (pc' := 162) (Ls' := #[.val (.int p0), .val (.int p1), .val (.int p2), .val (.int p3), .val (.int (2 : Int32)), .val (.ref a196), .val (.ref a222), .val (.int (1 : Int32)), .val (.int (2 : Int32))]) at_160 rfl rfl ?_
      refine own_iload C (pc' := 164) at_162 rfl rfl ?_
      refine own_iload C (pc' := 166) at_164 rfl rfl ?_
      refine own_ii_ge C (pc1 := 216) (pc2 := 169) at_166 rfl rfl (fun c270 => ?_) (fun c270 => absurd c270 (by decide))
      refine own_iload C (pc' := 218) at_216 rfl rfl ?_
      refine own_iload C (pc' := 220) at_218 rfl rfl ?_
      refine own_ii_ge C (pc1 := 270) (pc2 := 223) at_220 rfl rfl (fun c271 => ?_) (fun c271 => absurd c271 (by decide))
      refine own_iload C (pc' := 272) at_270 rfl rfl ?_
      refine own_i0_eq C (pc1 := 294) (pc2 := 275) at_272 rfl rfl (fun c272 => absurd c272 (by decide)) (fun c272 => ?_)
      refine own_iload C (pc' := 277) at_275 rfl rfl ?_
      refine own_iload C (pc' := 279) at_277 rfl rfl ?_
      refine own_ii_ne C (pc1 := 294) (pc2 := 282) at_279 rfl rfl (fun c273 => absurd c273 (by decide)) (fun c273 => ?_)
      refine own_aload C (pc' := 284) at_282 rfl rfl rfl ?_
      refine own_callV C (pc' := 287) (y := (⟨"com/example/words_to_weights/wordstoweights/index/VarIntReader", "atEnd", "()Z"⟩ : MethodName)) (a := a222) (argsL := []) (rest := []) 0 F254 (hw _ (List.mem_of_getElem? (i := 12) rfl)) (hw _ (List.mem_of_getElem? (i := 13) rfl)) (hw _ (List.mem_of_getElem? (i := 15) rfl)) (hw _ (List.mem_of_getElem? (i := 14) rfl)) (hw _ (List.mem_of_getElem? (i := 16) rfl)) (hw _ (List.mem_of_getElem? (i := 3) rfl)) (by decide) (own_m3 hw a222 a196 2 g (2 : Int32) (1 : Int32) Z258 F256 F255 F259 (by decide)) (by decide) (by decide) (lenOf own_pd1 rfl) rfl (Nat.le_of_eq rfl) at_284 rfl rfl (by decide) (by decide) (fun v274 h275 hq276 => ?_)
      obtain ⟨rfl, rfl⟩ := hq276
      show own_Run p_ l e_ _ s_ m_ _ b_ mt_ c_ n0 _ h251 _ _ (mkF m_ 287 #[.val (.int p0), .val (.int p1), .val (.int p2), .val (.int p3), .val (.int (2 : Int32)), .val (.ref a196), .val (.ref a222), .val (.int (1 : Int32)), .val (.int (2 : Int32))] [(.int (1 : Int32))])
      refine own_i0_eq C (pc1 := 294) (pc2 := 290) at_287 rfl rfl (fun c277 => absurd c277 (by decide)) (fun c277 => ?_)
      refine own_iconst C (pc' := 291) (v := (1 : Int32)) at_290 rfl (by decide) ?_
      refine own_goto C (pc' := 295) at_291 rfl ?_
      refine own_istore C (pc' := 297) (Ls' := #[.val (.int p0), .val (.int p1), .val (.int p2), .val (.int p3), .val (.int (2 : Int32)), .val (.ref a196), .val (.ref a222), .val (.int (1 : Int32)), .val (.int (2 : Int32))]) at_295 rfl rfl ?_
      refine own_iload C (pc' := 299) at_297 rfl rfl ?_
      exact own_ret C (t := .boolean) rfl rfl (Or.inl ⟨rfl, by simp, _, rfl⟩) at_299 (by decide) (by decide) (rfl)
    · skip
      refine own_new C (pc' := 72) (hw _ (List.mem_of_getElem? (i := 1) rfl)) (hw _ (List.mem_of_getElem? (i := 2) rfl)) (hw _ (List.mem_of_getElem? (i := 3) rfl)) Z219 at_69 rfl (by decide) (by decide) (fun h278 a279 ea280 ga281 Z282 E283 A284 D285 => ?_)
      have ne286 : a196 ≠ a279 := by rw [ea280]; exact Nat.ne_of_lt (own_A.lt F220)
      have F287 : own_AB Z h278 a196 2 g := own_A.ext F220 E283
      have F288 : Fld Z h278 a279 "com/example/words_to_weights/wordstoweights/index/VarIntReader" "bytes" "[B" .null := D285 (Or.inr (hw _ (List.mem_of_getElem? (i := 11) rfl))) (ty := (.array .byte)) (by decide)
      have F289 : Fld Z h278 a279 "com/example/words_to_weights/wordstoweights/index/VarIntReader" "position" "I" (.int (0 : Int32)) := D285 (Or.inl (hw _ (List.mem_of_getElem? (i := 18) rfl))) (ty := .int) (by decide)
      refine own_dup C (pc' := 73) at_72 rfl rfl ?_
      refine own_aload C (pc' := 75) at_73 rfl rfl rfl ?_
      refine own_callN C (pc' := 78) (y := (⟨"com/example/words_to_weights/wordstoweights/index/VarIntReader", "<init>", "([B)V"⟩ : MethodName)) (a := a279) (argsL := [(.ref a196)]) (rest := [(.ref a279)]) 1 rfl (hw _ (List.mem_of_getElem? (i := 4) rfl)) (hw _ (List.mem_of_getElem? (i := 5) rfl)) (hw _ (List.mem_of_getElem? (i := 6) rfl)) (hw _ (List.mem_of_getElem? (i := 3) rfl)) (by decide) (own_m1 hw a279 a196 Z282 A284 ga281 F288 F289 ) (by decide) (by decide) (lenOf own_pd0 rfl) rfl (Nat.le_of_eq rfl) at_75 rfl rfl (by decide) (by decide) (fun v290 h291 hq292 => ?_)
      obtain ⟨rfl, K293, F294, F295, F296⟩ := hq292
      have Z298 : n0 ≤ h291.size := Nat.le_trans Z282 K293.1
      have F299 : own_AB Z h291 a196 2 g := own_A.keep F287 K293 (ninS ne286 nin0)
      have F300 : Exa Z h291 a279 "com/example/words_to_weights/wordstoweights/index/VarIntReader" := Exa.keep A284 K293
      show own_Run p_ l e_ _ s_ m_ _ b_ mt_ c_ n0 _ h291 _ _ (mkF m_ 78 #[.val (.int p0), .val (.int p1), .val (.int p2), .val (.int p3), .val (.int (2 : Int32)), .val (.ref a196), .unset, .unset, .unset] [(.ref a279)])
      refine own_astore C (pc' := 80) (Ls' := #[.val (.int p0), .val (.int p1), .val (.int p2), .val (.int p3), .val (.int (2 : Int32)), .val (.ref a196), .val (.ref a279), .unset, .unset]) at_78 rfl rfl rfl ?_
      refine own_aload C (pc' := 82) at_80 rfl rfl rfl ?_
      refine own_callV C (pc' := 85) (y := (⟨"com/example/words_to_weights/wordstoweights/index/VarIntReader", "atEnd", "()Z"⟩ : MethodName)) (a := a279) (argsL := []) (rest := []) 0 F294 (hw _ (List.mem_of_getElem? (i := 12) rfl)) (hw _ (List.mem_of_getElem? (i := 13) rfl)) (hw _ (List.mem_of_getElem? (i := 15) rfl)) (hw _ (List.mem_of_getElem? (i := 14) rfl)) (hw _ (List.mem_of_getElem? (i := 16) rfl)) (hw _ (List.mem_of_getElem? (i := 3) rfl)) (by decide) (own_m3 hw a279 a196 2 g (0 : Int32) (0 : Int32) Z298 F296 F295 F299 (by decide)) (by decide) (by decide) (lenOf own_pd1 rfl) rfl (Nat.le_of_eq rfl) at_82 rfl rfl (by decide) (by decide) (fun v301 h302 hq303 => ?_)
      obtain ⟨rfl, rfl⟩ := hq303
      show own_Run p_ l e_ _ s_ m_ _ b_ mt_ c_ n0 _ h291 _ _ (mkF m_ 85 #[.val (.int p0), .val (.int p1), .val (.int p2), .val (.int p3), .val (.int (2 : Int32)), .val (.ref a196), .val (.ref a279), .unset, .unset] [(.int (0 : Int32))])
      refine own_iload C (pc' := 87) at_85 rfl rfl ?_
      refine own_i0_ne C (pc1 := 94) (pc2 := 90) at_87 rfl rfl (fun c304 => ?_) (fun c304 => absurd c304 (by decide))
      refine own_iconst C (pc' := 95) (v := (0 : Int32)) at_94 rfl (by decide) ?_
      refine own_ii_ne C (pc1 := 102) (pc2 := 98) at_95 rfl rfl (fun c305 => absurd c305 (by decide)) (fun c305 => ?_)
      refine own_iconst C (pc' := 99) (v := (1 : Int32)) at_98 rfl (by decide) ?_
      refine own_goto C (pc' := 103) at_99 rfl ?_
      refine own_istore C (pc' := 105) (Ls' := #[.val (.int p0), .val (.int p1), .val (.int p2), .val (.int p3), .val (.int (2 : Int32)), .val (.ref a196), .val (.ref a279), .val (.int (1 : Int32)), .unset]) at_103 rfl rfl ?_
      refine own_iconst C (pc' := 106) (v := (0 : Int32)) at_105 rfl (by decide) ?_
      refine own_istore C (pc' := 108) (Ls' := #[.val (.int p0), .val (.int p1), .val (.int p2), .val (.int p3), .val (.int (2 : Int32)), .val (.ref a196), .val (.ref a279), .val (.int (1 : Int32)), .val (.int (0 : Int32))]) at_106 rfl rfl ?_
      refine own_iload C (pc' := 110) at_108 rfl rfl ?_
      refine own_iload C (pc' := 112) at_110 rfl rfl ?_
      refine own_ii_ge C (pc1 := 162) (pc2 := 115) at_112 rfl rfl (fun c306 => absurd c306 (by decide)) (fun c306 => ?_)
      refine own_aload C (pc' := 117) at_115 rfl rfl rfl ?_
      refine own_callV C (pc' := 120) (y := (⟨"com/example/words_to_weights/wordstoweights/index/VarIntReader", "read", "()I"⟩ : MethodName)) (a := a279) (argsL := []) (rest := []) 0 F294 (hw _ (List.mem_of_getElem? (i := 19) rfl)) (hw _ (List.mem_of_getElem? (i := 20) rfl)) (hw _ (List.mem_of_getElem? (i := 22) rfl)) (hw _ (List.mem_of_getElem? (i := 21) rfl)) (hw _ (List.mem_of_getElem? (i := 23) rfl)) (hw _ (List.mem_of_getElem? (i := 3) rfl)) (by decide) (own_read1 hw a279 a196 2 g (0 : Int32) 0 (1 : Int32) Z298 F294 ga281 (Ne.symm ne286) F295 F296 F299 (by decide) (by decide) s0 (by decide)) (by decide) (by decide) (lenOf own_pd2 rfl) rfl (Nat.le_of_eq rfl) at_117 rfl rfl (by decide) (by decide) (fun v307 h308 hq309 => ?_)
      obtain ⟨rfl, K310, F311, F312, F313⟩ := hq309
      have Z315 : n0 ≤ h308.size := Nat.le_trans Z298 K310.1
      have F316 : own_AB Z h308 a196 2 g := own_A.keep F299 K310 (ninS ne286 nin0)
      have F317 : Exa Z h308 a279 "com/example/words_to_weights/wordstoweights/index/VarIntReader" := Exa.keep F294 K310
      show own_Run p_ l e_ _ s_ m_ _ b_ mt_ c_ n0 _ h308 _ _ (mkF m_ 120 #[.val (.int p0), .val (.int p1), .val (.int p2), .val (.int p3), .val (.int (2 : Int32)), .val (.ref a196), .val (.ref a279), .val (.int (1 : Int32)), .val (.int (0 : Int32))] [(.int ((0 : Int32) ||| (((g 0) &&& (127 : Int32)) <<< ((0 : Int32) &&& 31))))])
      refine own_pop C (pc' := 121) at_120 rfl rfl ?_
      refine own_aload C (pc' := 123) at_121 rfl rfl rfl ?_
      refine own_iload C (pc' := 125) at_123 rfl rfl ?_
      refine own_callS C (pc' := 128) (y := (⟨"com/example/words_to_weights/wordstoweights/index/VarIntReaderAtEndPinLaw", "next", "([BI)I"⟩ : MethodName)) (argsL := [(.ref a196), (.int (0 : Int32))]) (rest := []) 0 (hw _ (List.mem_of_getElem? (i := 24) rfl)) (hw _ (List.mem_of_getElem? (i := 25) rfl)) (hw _ (List.mem_of_getElem? (i := 26) rfl)) (hw _ (List.mem_of_getElem? (i := 27) rfl)) (by decide) (own_next1 hw a196 2 g (0 : Int32) 0 (1 : Int32) Z315 F316 (by decide) (by decide) s0 (by decide)) (by decide) (by decide) (lenOf own_pd3 rfl) rfl (Nat.le_of_eq rfl) at_125 rfl rfl (by decide) (by decide) (fun v318 h319 hq320 => ?_)
      obtain ⟨rfl, rfl⟩ := hq320
      show own_Run p_ l e_ _ s_ m_ _ b_ mt_ c_ n0 _ h308 _ _ (mkF m_ 128 #[.val (.int p0), .val (.int p1), .val (.int p2), .val (.int p3), .val (.int (2 : Int32)), .val (.ref a196), .val (.ref a279), .val (.int (1 : Int32)), .val (.int (0 : Int32))] [(.int (1 : Int32))])
      refine own_istore C (pc' := 130) (Ls' := #[.val (.int p0), .val (.int p1), .val (.int p2), .val (.int p3), .val (.int (2 : Int32)), .val (.ref a196), .val (.ref a279), .val (.int (1 : Int32)), .val (.int (1 : Int32))]) at_128 rfl rfl ?_
      refine own_iload C (pc' := 132) at_130 rfl rfl ?_
      refine own_i0_eq C (pc1 := 159) (pc2 := 135) at_132 rfl rfl (fun c321 => absurd c321 (by decide)) (fun c321 => ?_)
      refine own_aload C (pc' := 137) at_135 rfl rfl rfl ?_
      refine own_callV C (pc' := 140) (y := (⟨"com/example/words_to_weights/wordstoweights/index/VarIntReader", "atEnd", "()Z"⟩ : MethodName)) (a := a279) (argsL := []) (rest := []) 0 F311 (hw _ (List.mem_of_getElem? (i := 12) rfl)) (hw _ (List.mem_of_getElem? (i := 13) rfl)) (hw _ (List.mem_of_getElem? (i := 15) rfl)) (hw _ (List.mem_of_getElem? (i := 14) rfl)) (hw _ (List.mem_of_getElem? (i := 16) rfl)) (hw _ (List.mem_of_getElem? (i := 3) rfl)) (by decide) (own_m3 hw a279 a196 2 g (1 : Int32) (0 : Int32) Z315 F313 F312 F316 (by decide)) (by decide) (by decide) (lenOf own_pd1 rfl) rfl (Nat.le_of_eq rfl) at_137 rfl rfl (by decide) (by decide) (fun v322 h323 hq324 => ?_)
      obtain ⟨rfl, rfl⟩ := hq324
      show own_Run p_ l e_ _ s_ m_ _ b_ mt_ c_ n0 _ h308 _ _ (mkF m_ 140 #[.val (.int p0), .val (.int p1), .val (.int p2), .val (.int p3), .val (.int (2 : Int32)), .val (.ref a196), .val (.ref a279), .val (.int (1 : Int32)), .val (.int (1 : Int32))] [(.int (0 : Int32))])
      refine own_iload C (pc' := 142) at_140 rfl rfl ?_
      refine own_iload C (pc' := 144) at_142 rfl rfl ?_
      refine own_ii_ne C (pc1 := 151) (pc2 := 147) at_144 rfl rfl (fun c325 => ?_) (fun c325 => absurd c325 (by decide))
      refine own_iconst C (pc' := 152) (v := (0 : Int32)) at_151 rfl (by decide) ?_
      refine own_ii_ne C (pc1 := 159) (pc2 := 155) at_152 rfl rfl (fun c326 => absurd c326 (by decide)) (fun c326 => ?_)
      refine own_iconst C (pc' := 156) (v := (1 : Int32)) at_155 rfl (by decide) ?_
      refine own_goto C (pc' := 160) at_156 rfl ?_
      refine own_istore C (pc' := 162) (Ls' := #[.val (.int p0), .val (.int p1), .val (.int p2), .val (.int p3), .val (.int (2 : Int32)), .val (.ref a196), .val (.ref a279), .val (.int (1 : Int32)), .val (.int (1 : Int32))]) at_160 rfl rfl ?_
      refine own_iload C (pc' := 164) at_162 rfl rfl ?_
      refine own_iload C (pc' := 166) at_164 rfl rfl ?_
      refine own_ii_ge C (pc1 := 216) (pc2 := 169) at_166 rfl rfl (fun c327 => absurd c327 (by decide)) (fun c327 => ?_)
      refine own_aload C (pc' := 171) at_169 rfl rfl rfl ?_
      refine own_callV C (pc' := 174) (y := (⟨"com/example/words_to_weights/wordstoweights/index/VarIntReader", "read", "()I"⟩ : MethodName)) (a := a279) (argsL := []) (rest := []) 0 F311 (hw _ (List.mem_of_getElem? (i := 19) rfl)) (hw _ (List.mem_of_getElem? (i := 20) rfl)) (hw _ (List.mem_of_getElem? (i := 22) rfl)) (hw _ (List.mem_of_getElem? (i := 21) rfl)) (hw _ (List.mem_of_getElem? (i := 23) rfl)) (hw _ (List.mem_of_getElem? (i := 3) rfl)) (by decide) (own_read1 hw a279 a196 2 g (1 : Int32) 1 (2 : Int32) Z315 F311 ga281 (Ne.symm ne286) F312 F313 F316 (by decide) (by decide) s1 (by decide)) (by decide) (by decide) (lenOf own_pd2 rfl) rfl (Nat.le_of_eq rfl) at_171 rfl rfl (by decide) (by decide) (fun v328 h329 hq330 => ?_)
      obtain ⟨rfl, K331, F332, F333, F334⟩ := hq330
      have Z336 : n0 ≤ h329.size := Nat.le_trans Z315 K331.1
      have F337 : own_AB Z h329 a196 2 g := own_A.keep F316 K331 (ninS ne286 nin0)
      have F338 : Exa Z h329 a279 "com/example/words_to_weights/wordstoweights/index/VarIntReader" := Exa.keep F311 K331
      show own_Run p_ l e_ _ s_ m_ _ b_ mt_ c_ n0 _ h329 _ _ (mkF m_ 174 #[.val (.int p0), .val (.int p1), .val (.int p2), .val (.int p3), .val (.int (2 : Int32)), .val (.ref a196), .val (.ref a279), .val (.int (1 : Int32)), .val (.int (1 : Int32))] [(.int ((0 : Int32) ||| (((g 1) &&& (127 : Int32)) <<< ((0 : Int32) &&& 31))))])
      refine own_pop C (pc' := 175) at_174 rfl rfl ?_
      refine own_aload C (pc' := 177) at_175 rfl rfl rfl ?_
      refine own_iload C (pc' := 179) at_177 rfl rfl ?_
      refine own_callS C (pc' := 182) (y := (⟨"com/example/words_to_weights/wordstoweights/index/VarIntReaderAtEndPinLaw", "next", "([BI)I"⟩ : MethodName)) (argsL := [(.ref a196), (.int (1 : Int32))]) (rest := []) 0 (hw _ (List.mem_of_getElem? (i := 24) rfl)) (hw _ (List.mem_of_getElem? (i := 25) rfl)) (hw _ (List.mem_of_getElem? (i := 26) rfl)) (hw _ (List.mem_of_getElem? (i := 27) rfl)) (by decide) (own_next1 hw a196 2 g (1 : Int32) 1 (2 : Int32) Z336 F337 (by decide) (by decide) s1 (by decide)) (by decide) (by decide) (lenOf own_pd3 rfl) rfl (Nat.le_of_eq rfl) at_179 rfl rfl (by decide) (by decide) (fun v339 h340 hq341 => ?_)
      obtain ⟨rfl, rfl⟩ := hq341
      show own_Run p_ l e_ _ s_ m_ _ b_ mt_ c_ n0 _ h329 _ _ (mkF m_ 182 #[.val (.int p0), .val (.int p1), .val (.int p2), .val (.int p3), .val (.int (2 : Int32)), .val (.ref a196), .val (.ref a279), .val (.int (1 : Int32)), .val (.int (1 : Int32))] [(.int (2 : Int32))])
      refine own_istore C (pc' := 184) (Ls' := #[.val (.int p0), .val (.int p1), .val (.int p2), .val (.int p3), .val (.int (2 : Int32)), .val (.ref a196), .val (.ref a279), .val (.int (1 : Int32)), .val (.int (2 : Int32))]) at_182 rfl rfl ?_
      refine own_iload C (pc' := 186) at_184 rfl rfl ?_
      refine own_i0_eq C (pc1 := 213) (pc2 := 189) at_186 rfl rfl (fun c342 => absurd c342 (by decide)) (fun c342 => ?_)
      refine own_aload C (pc' := 191) at_189 rfl rfl rfl ?_
      refine own_callV C (pc' := 194) (y := (⟨"com/example/words_to_weights/wordstoweights/index/VarIntReader", "atEnd", "()Z"⟩ : MethodName)) (a := a279) (argsL := []) (rest := []) 0 F332 (hw _ (List.mem_of_getElem? (i := 12) rfl)) (hw _ (List.mem_of_getElem? (i := 13) rfl)) (hw _ (List.mem_of_getElem? (i := 15) rfl)) (hw _ (List.mem_of_getElem? (i := 14) rfl)) (hw _ (List.mem_of_getElem? (i := 16) rfl)) (hw _ (List.mem_of_getElem? (i := 3) rfl)) (by decide) (own_m3 hw a279 a196 2 g (2 : Int32) (1 : Int32) Z336 F334 F333 F337 (by decide)) (by decide) (by decide) (lenOf own_pd1 rfl) rfl (Nat.le_of_eq rfl) at_191 rfl rfl (by decide) (by decide) (fun v343 h344 hq345 => ?_)
      obtain ⟨rfl, rfl⟩ := hq345
      show own_Run p_ l e_ _ s_ m_ _ b_ mt_ c_ n0 _ h329 _ _ (mkF m_ 194 #[.val (.int p0), .val (.int p1), .val (.int p2), .val (.int p3), .val (.int (2 : Int32)), .val (.ref a196), .val (.ref a279), .val (.int (1 : Int32)), .val (.int (2 : Int32))] [(.int (1 : Int32))])
      refine own_iload C (pc' := 196) at_194 rfl rfl ?_
      refine own_iload C (pc' := 198) at_196 rfl rfl ?_
      refine own_ii_ne C (pc1 := 205) (pc2 := 201) at_198 rfl rfl (fun c346 => absurd c346 (by decide)) (fun c346 => ?_)
      refine own_iconst C (pc' := 202) (v := (1 : Int32)) at_201 rfl (by decide) ?_
      refine own_goto C (pc' := 206) at_202 rfl ?_
      refine own_ii_ne C (pc1 := 213) (pc2 := 209) at_206 rfl rfl (fun c347 => absurd c347 (by decide)) (fun c347 => ?_)
      refine own_iconst C (pc' := 210) (v := (1 : Int32)) at_209 rfl (by decide) ?_
      refine own_goto C (pc' := 214) at_210 rfl ?_
      refine own_istore C (pc' := 216) (Ls' := #[.val (.int p0), .val (.int p1), .val (.int p2), .val (.int p3), .val (.int (2 : Int32)), .val (.ref a196), .val (.ref a279), .val (.int (1 : Int32)), .val (.int (2 : Int32))]) at_214 rfl rfl ?_
      refine own_iload C (pc' := 218) at_216 rfl rfl ?_
      refine own_iload C (pc' := 220) at_218 rfl rfl ?_
      refine own_ii_ge C (pc1 := 270) (pc2 := 223) at_220 rfl rfl (fun c348 => ?_) (fun c348 => absurd c348 (by decide))
      refine own_iload C (pc' := 272) at_270 rfl rfl ?_
      refine own_i0_eq C (pc1 := 294) (pc2 := 275) at_272 rfl rfl (fun c349 => absurd c349 (by decide)) (fun c349 => ?_)
      refine own_iload C (pc' := 277) at_275 rfl rfl ?_
      refine own_iload C (pc' := 279) at_277 rfl rfl ?_
      refine own_ii_ne C (pc1 := 294) (pc2 := 282) at_279 rfl rfl (fun c350 => absurd c350 (by decide)) (fun c350 => ?_)
      refine own_aload C (pc' := 284) at_282 rfl rfl rfl ?_
      refine own_callV C (pc' := 287) (y := (⟨"com/example/words_to_weights/wordstoweights/index/VarIntReader", "atEnd", "()Z"⟩ : MethodName)) (a := a279) (argsL := []) (rest := []) 0 F332 (hw _ (List.mem_of_getElem? (i := 12) rfl)) (hw _ (List.mem_of_getElem? (i := 13) rfl)) (hw _ (List.mem_of_getElem? (i := 15) rfl)) (hw _ (List.mem_of_getElem? (i := 14) rfl)) (hw _ (List.mem_of_getElem? (i := 16) rfl)) (hw _ (List.mem_of_getElem? (i := 3) rfl)) (by decide) (own_m3 hw a279 a196 2 g (2 : Int32) (1 : Int32) Z336 F334 F333 F337 (by decide)) (by decide) (by decide) (lenOf own_pd1 rfl) rfl (Nat.le_of_eq rfl) at_284 rfl rfl (by decide) (by decide) (fun v351 h352 hq353 => ?_)
      obtain ⟨rfl, rfl⟩ := hq353
      show own_Run p_ l e_ _ s_ m_ _ b_ mt_ c_ n0 _ h329 _ _ (mkF m_ 287 #[.val (.int p0), .val (.int p1), .val (.int p2), .val (.int p3), .val (.int (2 : Int32)), .val (.ref a196), .val (.ref a279), .val (.int (1 : Int32)), .val (.int (2 : Int32))] [(.int (1 : Int32))])
      refine own_i0_eq C (pc1 := 294) (pc2 := 290) at_287 rfl rfl (fun c354 => absurd c354 (by decide)) (fun c354 => ?_)
      refine own_iconst C (pc' := 291) (v := (1 : Int32)) at_290 rfl (by decide) ?_
      refine own_goto C (pc' := 295) at_291 rfl ?_
      refine own_istore C (pc' := 297) (Ls' := #[.val (.int p0), .val (.int p1), .val (.int p2), .val (.int p3), .val (.int (2 : Int32)), .val (.ref a196), .val (.ref a279), .val (.int (1 : Int32)), .val (.int (2 : Int32))]) at_295 rfl rfl ?_
      refine own_iload C (pc' := 299) at_297 rfl rfl ?_
      exact own_ret C (t := .boolean) rfl rfl (Or.inl ⟨rfl, by simp, _, rfl⟩) at_299 (by decide) (by decide) (rfl)
  · skip
    rw [e68]
    show own_Run p_ l e_ _ s_ m_ _ b_ mt_ c_ n0 _ h _ _ (mkF m_ 5 #[.val (.int p0), .val (.int p1), .val (.int p2), .val (.int p3), .val (.int (3 : Int32)), .unset, .unset, .unset, .unset] [])
    refine own_iload C (pc' := 7) at_5 rfl rfl ?_
    refine own_newAB C (pc' := 9) (hw _ (List.mem_of_getElem? (i := 0) rfl)) Z0 at_7 rfl (nn := 3) (cap := 3) (by decide) (by decide) (by decide) (by decide) (by decide) (fun h355 a356 ea357 ga358 Z359 E360 V361 => ?_)
    refine own_astore C (pc' := 11) (Ls' := #[.val (.int p0), .val (.int p1), .val (.int p2), .val (.int p3), .val (.int (3 : Int32)), .val (.ref a356), .unset, .unset, .unset]) at_9 rfl rfl rfl ?_
    refine own_iload C (pc' := 13) at_11 rfl rfl ?_
    refine own_i0_le C (pc1 := 22) (pc2 := 16) at_13 rfl rfl (fun c362 => absurd c362 (by decide)) (fun c362 => ?_)
    refine own_aload C (pc' := 18) at_16 rfl rfl rfl ?_
    refine own_iconst C (pc' := 19) (v := (0 : Int32)) at_18 rfl (by decide) ?_
    refine own_iloadN C (pc' := 20) at_19 rfl rfl ?_
    refine own_i2b C (pc' := 21) at_20 rfl ?_
    refine own_stB C (pc' := 22) V361 (i := 0) (by decide) (by decide) ga358 at_21 rfl (fun h363 W364 V365 => ?_)
    have Z366 : n0 ≤ h363.size := Nat.le_trans Z359 (Nat.le_of_eq (Wr.size W364).symm)
    have F367 : own_AB Z h363 a356 3 (own_upd (fun _ => (0 : Int32)) 0 ((p1.toInt8.toInt32).toInt8.toInt32)) := V365
    refine own_iload C (pc' := 24) at_22 rfl rfl ?_
    refine own_iconst C (pc' := 25) (v := (1 : Int32)) at_24 rfl (by decide) ?_
    refine own_ii_le C (pc1 := 34) (pc2 := 28) at_25 rfl rfl (fun c368 => absurd c368 (by decide)) (fun c368 => ?_)
    refine own_aload C (pc' := 30) at_28 rfl rfl rfl ?_
    refine own_iconst C (pc' := 31) (v := (1 : Int32)) at_30 rfl (by decide) ?_
    refine own_iloadN C (pc' := 32) at_31 rfl rfl ?_
    refine own_i2b C (pc' := 33) at_32 rfl ?_
    refine own_stB C (pc' := 34) F367 (i := 1) (by decide) (by decide) ga358 at_33 rfl (fun h369 W370 V371 => ?_)
    have Z372 : n0 ≤ h369.size := Nat.le_trans Z366 (Nat.le_of_eq (Wr.size W370).symm)
    have F373 : own_AB Z h369 a356 3 (own_upd (own_upd (fun _ => (0 : Int32)) 0 ((p1.toInt8.toInt32).toInt8.toInt32)) 1 ((p2.toInt8.toInt32).toInt8.toInt32)) := V371
    refine own_iload C (pc' := 36) at_34 rfl rfl ?_
    refine own_iconst C (pc' := 37) (v := (2 : Int32)) at_36 rfl (by decide) ?_
    refine own_ii_le C (pc1 := 46) (pc2 := 40) at_37 rfl rfl (fun c374 => absurd c374 (by decide)) (fun c374 => ?_)
    refine own_aload C (pc' := 42) at_40 rfl rfl rfl ?_
    refine own_iconst C (pc' := 43) (v := (2 : Int32)) at_42 rfl (by decide) ?_
    refine own_iloadN C (pc' := 44) at_43 rfl rfl ?_
    refine own_i2b C (pc' := 45) at_44 rfl ?_
    refine own_stB C (pc' := 46) F373 (i := 2) (by decide) (by decide) ga358 at_45 rfl (fun h375 W376 V377 => ?_)
    have Z378 : n0 ≤ h375.size := Nat.le_trans Z372 (Nat.le_of_eq (Wr.size W376).symm)
    have F379 : own_AB Z h375 a356 3 (own_upd (own_upd (own_upd (fun _ => (0 : Int32)) 0 ((p1.toInt8.toInt32).toInt8.toInt32)) 1 ((p2.toInt8.toInt32).toInt8.toInt32)) 2 ((p3.toInt8.toInt32).toInt8.toInt32)) := V377
    refine own_iload C (pc' := 48) at_46 rfl rfl ?_
    refine own_i0_le C (pc1 := 69) (pc2 := 51) at_48 rfl rfl (fun c380 => absurd c380 (by decide)) (fun c380 => ?_)
    refine own_aload C (pc' := 53) at_51 rfl rfl rfl ?_
    refine own_iload C (pc' := 55) at_53 rfl rfl ?_
    refine own_iconst C (pc' := 56) (v := (1 : Int32)) at_55 rfl (by decide) ?_
    refine own_isubV C (pc' := 57) (v := (2 : Int32)) at_56 rfl (by decide) ?_
    refine own_aload C (pc' := 59) at_57 rfl rfl rfl ?_
    refine own_iload C (pc' := 61) at_59 rfl rfl ?_
    refine own_iconst C (pc' := 62) (v := (1 : Int32)) at_61 rfl (by decide) ?_
    refine own_isubV C (pc' := 63) (v := (2 : Int32)) at_62 rfl (by decide) ?_
    refine own_ldBV C (pc' := 64) F379 (i := 2) (v := ((p3.toInt8.toInt32).toInt8.toInt32)) (by decide) (by decide) rfl at_63 rfl ?_
    refine own_bipush C (pc' := 66) (v := (127 : Int32)) at_64 rfl (by decide) ?_
    refine own_iand C (pc' := 67) at_66 rfl ?_
    refine own_i2b C (pc' := 68) at_67 rfl ?_
    refine own_stB C (pc' := 69) F379 (i := 2) (by decide) (by decide) ga358 at_68 rfl (fun h381 W382 V383 => ?_)
    have Z384 : n0 ≤ h381.size := Nat.le_trans Z378 (Nat.le_of_eq (Wr.size W382).symm)
    have F385 : own_AB Z h381 a356 3 (own_upd (own_upd (own_upd (own_upd (fun _ => (0 : Int32)) 0 ((p1.toInt8.toInt32).toInt8.toInt32)) 1 ((p2.toInt8.toInt32).toInt8.toInt32)) 2 ((p3.toInt8.toInt32).toInt8.toInt32)) 2 (((((p3.toInt8.toInt32).toInt8.toInt32) &&& (127 : Int32)).toInt8.toInt32).toInt8.toInt32)) := V383
    obtain ⟨g, hg⟩ : ∃ g : Nat → Int32, g = (own_upd (own_upd (own_upd (own_upd (fun _ => (0 : Int32)) 0 ((p1.toInt8.toInt32).toInt8.toInt32)) 1 ((p2.toInt8.toInt32).toInt8.toInt32)) 2 ((p3.toInt8.toInt32).toInt8.toInt32)) 2 (((((p3.toInt8.toInt32).toInt8.toInt32) &&& (127 : Int32)).toInt8.toInt32).toInt8.toInt32)) := ⟨_, rfl⟩
    rw [← hg] at F385
    have s2 : ¬ (g 2) < 0 := by rw [hg, own_upd_eq]; exact own_nn _
    by_cases s0 : (g 0) < 0
    · skip
      by_cases s1 : (g 1) < 0
      · skip
        refine own_new C (pc' := 72) (hw _ (List.mem_of_getElem? (i := 1) rfl)) (hw _ (List.mem_of_getElem? (i := 2) rfl)) (hw _ (List.mem_of_getElem? (i := 3) rfl)) Z384 at_69 rfl (by decide) (by decide) (fun h386 a387 ea388 ga389 Z390 E391 A392 D393 => ?_)
        have ne394 : a356 ≠ a387 := by rw [ea388]; exact Nat.ne_of_lt (own_A.lt F385)
        have F395 : own_AB Z h386 a356 3 g := own_A.ext F385 E391
        have F396 : Fld Z h386 a387 "com/example/words_to_weights/wordstoweights/index/VarIntReader" "bytes" "[B" .null := D393 (Or.inr (hw _ (List.mem_of_getElem? (i := 11) rfl))) (ty := (.array .byte)) (by decide)
        have F397 : Fld Z h386 a387 "com/example/words_to_weights/wordstoweights/index/VarIntReader" "position" "I" (.int (0 : Int32)) := D393 (Or.inl (hw _ (List.mem_of_getElem? (i := 18) rfl))) (ty := .int) (by decide)
        refine own_dup C (pc' := 73) at_72 rfl rfl ?_
        refine own_aload C (pc' := 75) at_73 rfl rfl rfl ?_
        refine own_callN C (pc' := 78) (y := (⟨"com/example/words_to_weights/wordstoweights/index/VarIntReader", "<init>", "([B)V"⟩ : MethodName)) (a := a387) (argsL := [(.ref a356)]) (rest := [(.ref a387)]) 1 rfl (hw _ (List.mem_of_getElem? (i := 4) rfl)) (hw _ (List.mem_of_getElem? (i := 5) rfl)) (hw _ (List.mem_of_getElem? (i := 6) rfl)) (hw _ (List.mem_of_getElem? (i := 3) rfl)) (by decide) (own_m1 hw a387 a356 Z390 A392 ga389 F396 F397 ) (by decide) (by decide) (lenOf own_pd0 rfl) rfl (Nat.le_of_eq rfl) at_75 rfl rfl (by decide) (by decide) (fun v398 h399 hq400 => ?_)
        obtain ⟨rfl, K401, F402, F403, F404⟩ := hq400
        have Z406 : n0 ≤ h399.size := Nat.le_trans Z390 K401.1
        have F407 : own_AB Z h399 a356 3 g := own_A.keep F395 K401 (ninS ne394 nin0)
        have F408 : Exa Z h399 a387 "com/example/words_to_weights/wordstoweights/index/VarIntReader" := Exa.keep A392 K401
        show own_Run p_ l e_ _ s_ m_ _ b_ mt_ c_ n0 _ h399 _ _ (mkF m_ 78 #[.val (.int p0), .val (.int p1), .val (.int p2), .val (.int p3), .val (.int (3 : Int32)), .val (.ref a356), .unset, .unset, .unset] [(.ref a387)])
        refine own_astore C (pc' := 80) (Ls' := #[.val (.int p0), .val (.int p1), .val (.int p2), .val (.int p3), .val (.int (3 : Int32)), .val (.ref a356), .val (.ref a387), .unset, .unset]) at_78 rfl rfl rfl ?_
        refine own_aload C (pc' := 82) at_80 rfl rfl rfl ?_
        refine own_callV C (pc' := 85) (y := (⟨"com/example/words_to_weights/wordstoweights/index/VarIntReader", "atEnd", "()Z"⟩ : MethodName)) (a := a387) (argsL := []) (rest := []) 0 F402 (hw _ (List.mem_of_getElem? (i := 12) rfl)) (hw _ (List.mem_of_getElem? (i := 13) rfl)) (hw _ (List.mem_of_getElem? (i := 15) rfl)) (hw _ (List.mem_of_getElem? (i := 14) rfl)) (hw _ (List.mem_of_getElem? (i := 16) rfl)) (hw _ (List.mem_of_getElem? (i := 3) rfl)) (by decide) (own_m3 hw a387 a356 3 g (0 : Int32) (0 : Int32) Z406 F404 F403 F407 (by decide)) (by decide) (by decide) (lenOf own_pd1 rfl) rfl (Nat.le_of_eq rfl) at_82 rfl rfl (by decide) (by decide) (fun v409 h410 hq411 => ?_)
        obtain ⟨rfl, rfl⟩ := hq411
        show own_Run p_ l e_ _ s_ m_ _ b_ mt_ c_ n0 _ h399 _ _ (mkF m_ 85 #[.val (.int p0), .val (.int p1), .val (.int p2), .val (.int p3), .val (.int (3 : Int32)), .val (.ref a356), .val (.ref a387), .unset, .unset] [(.int (0 : Int32))])
        refine own_iload C (pc' := 87) at_85 rfl rfl ?_
        refine own_i0_ne C (pc1 := 94) (pc2 := 90) at_87 rfl rfl (fun c412 => ?_) (fun c412 => absurd c412 (by decide))
        refine own_iconst C (pc' := 95) (v := (0 : Int32)) at_94 rfl (by decide) ?_
        refine own_ii_ne C (pc1 := 102) (pc2 := 98) at_95 rfl rfl (fun c413 => absurd c413 (by decide)) (fun c413 => ?_)
        refine own_iconst C (pc' := 99) (v := (1 : Int32)) at_98 rfl (by decide) ?_
        refine own_goto C (pc' := 103) at_99 rfl ?_
        refine own_istore C (pc' := 105) (Ls' := #[.val (.int p0), .val (.int p1), .val (.int p2), .val (.int p3), .val (.int (3 : Int32)), .val (.ref a356), .val (.ref a387), .val (.int (1 : Int32)), .unset]) at_103 rfl rfl ?_
        refine own_iconst C (pc' := 106) (v := (0 : Int32)) at_105 rfl (by decide) ?_
        refine own_istore C (pc' := 108) (Ls' := #[.val (.int p0), .val (.int p1), .val (.int p2), .val (.int p3), .val (.int (3 : Int32)), .val (.ref a356), .val (.ref a387), .val (.int (1 : Int32)), .val (.int (0 : Int32))]) at_106 rfl rfl ?_
        refine own_iload C (pc' := 110) at_108 rfl rfl ?_
        refine own_iload C (pc' := 112) at_110 rfl rfl ?_
        refine own_ii_ge C (pc1 := 162) (pc2 := 115) at_112 rfl rfl (fun c414 => absurd c414 (by decide)) (fun c414 => ?_)
        refine own_aload C (pc' := 117) at_115 rfl rfl rfl ?_
        refine own_callV C (pc' := 120) (y := (⟨"com/example/words_to_weights/wordstoweights/index/VarIntReader", "read", "()I"⟩ : MethodName)) (a := a387) (argsL := []) (rest := []) 0 F402 (hw _ (List.mem_of_getElem? (i := 19) rfl)) (hw _ (List.mem_of_getElem? (i := 20) rfl)) (hw _ (List.mem_of_getElem? (i := 22) rfl)) (hw _ (List.mem_of_getElem? (i := 21) rfl)) (hw _ (List.mem_of_getElem? (i := 23) rfl)) (hw _ (List.mem_of_getElem? (i := 3) rfl)) (by decide) (own_read3 hw a387 a356 3 g (0 : Int32) 0 1 2 (3 : Int32) Z406 F402 ga389 (Ne.symm ne394) F403 F404 F407 (by decide) (by decide) s0 (by decide) (by decide) s1 (by decide) (by decide) s2 (by decide)) (by decide) (by decide) (lenOf own_pd2 rfl) rfl (Nat.le_of_eq rfl) at_117 rfl rfl (by decide) (by decide) (fun v415 h416 hq417 => ?_)
        obtain ⟨rfl, K418, F419, F420, F421⟩ := hq417
        have Z423 : n0 ≤ h416.size := Nat.le_trans Z406 K418.1
        have F424 : own_AB Z h416 a356 3 g := own_A.keep F407 K418 (ninS ne394 nin0)
        have F425 : Exa Z h416 a387 "com/example/words_to_weights/wordstoweights/index/VarIntReader" := Exa.keep F402 K418
        show own_Run p_ l e_ _ s_ m_ _ b_ mt_ c_ n0 _ h416 _ _ (mkF m_ 120 #[.val (.int p0), .val (.int p1), .val (.int p2), .val (.int p3), .val (.int (3 : Int32)), .val (.ref a356), .val (.ref a387), .val (.int (1 : Int32)), .val (.int (0 : Int32))] [(.int ((((0 : Int32) ||| (((g 0) &&& (127 : Int32)) <<< ((0 : Int32) &&& 31))) ||| (((g 1) &&& (127 : Int32)) <<< ((7 : Int32) &&& 31))) ||| (((g 2) &&& (127 : Int32)) <<< ((14 : Int32) &&& 31))))])
        refine own_pop C (pc' := 121) at_120 rfl rfl ?_
        refine own_aload C (pc' := 123) at_121 rfl rfl rfl ?_
        refine own_iload C (pc' := 125) at_123 rfl rfl ?_
        refine own_callS C (pc' := 128) (y := (⟨"com/example/words_to_weights/wordstoweights/index/VarIntReaderAtEndPinLaw", "next", "([BI)I"⟩ : MethodName)) (argsL := [(.ref a356), (.int (0 : Int32))]) (rest := []) 0 (hw _ (List.mem_of_getElem? (i := 24) rfl)) (hw _ (List.mem_of_getElem? (i := 25) rfl)) (hw _ (List.mem_of_getElem? (i := 26) rfl)) (hw _ (List.mem_of_getElem? (i := 27) rfl)) (by decide) (own_next3 hw a356 3 g (0 : Int32) 0 1 (3 : Int32) Z423 F424 (by decide) (by decide) s0 (by decide) (by decide) s1 (by decide)) (by decide) (by decide) (lenOf own_pd3 rfl) rfl (Nat.le_of_eq rfl) at_125 rfl rfl (by decide) (by decide) (fun v426 h427 hq428 => ?_)
        obtain ⟨rfl, rfl⟩ := hq428
        show own_Run p_ l e_ _ s_ m_ _ b_ mt_ c_ n0 _ h416 _ _ (mkF m_ 128 #[.val (.int p0), .val (.int p1), .val (.int p2), .val (.int p3), .val (.int (3 : Int32)), .val (.ref a356), .val (.ref a387), .val (.int (1 : Int32)), .val (.int (0 : Int32))] [(.int (3 : Int32))])
        refine own_istore C (pc' := 130) (Ls' := #[.val (.int p0), .val (.int p1), .val (.int p2), .val (.int p3), .val (.int (3 : Int32)), .val (.ref a356), .val (.ref a387), .val (.int (1 : Int32)), .val (.int (3 : Int32))]) at_128 rfl rfl ?_
        refine own_iload C (pc' := 132) at_130 rfl rfl ?_
        refine own_i0_eq C (pc1 := 159) (pc2 := 135) at_132 rfl rfl (fun c429 => absurd c429 (by decide)) (fun c429 => ?_)
        refine own_aload C (pc' := 137) at_135 rfl rfl rfl ?_
        refine own_callV C (pc' := 140) (y := (⟨"com/example/words_to_weights/wordstoweights/index/VarIntReader", "atEnd", "()Z"⟩ : MethodName)) (a := a387) (argsL := []) (rest := []) 0 F419 (hw _ (List.mem_of_getElem? (i := 12) rfl)) (hw _ (List.mem_of_getElem? (i := 13) rfl)) (hw _ (List.mem_of_getElem? (i := 15) rfl)) (hw _ (List.mem_of_getElem? (i := 14) rfl)) (hw _ (List.mem_of_getElem? (i := 16) rfl)) (hw _ (List.mem_of_getElem? (i := 3) rfl)) (by decide) (own_m3 hw a387 a356 3 g (3 : Int32) (1 : Int32) Z423 F421 F420 F424 (by decide)) (by decide) (by decide) (lenOf own_pd1 rfl) rfl (Nat.le_of_eq rfl) at_137 rfl rfl (by decide) (by decide) (fun v430 h431 hq432 => ?_)
        obtain ⟨rfl, rfl⟩ := hq432
        show own_Run p_ l e_ _ s_ m_ _ b_ mt_ c_ n0 _ h416 _ _ (mkF m_ 140 #[.val (.int p0), .val (.int p1), .val (.int p2), .val (.int p3), .val (.int (3 : Int32)), .val (.ref a356), .val (.ref a387), .val (.int (1 : Int32)), .val (.int (3 : Int32))] [(.int (1 : Int32))])
        refine own_iload C (pc' := 142) at_140 rfl rfl ?_
        refine own_iload C (pc' := 144) at_142 rfl rfl ?_
        refine own_ii_ne C (pc1 := 151) (pc2 := 147) at_144 rfl rfl (fun c433 => absurd c433 (by decide)) (fun c433 => ?_)
        refine own_iconst C (pc' := 148) (v := (1 : Int32)) at_147 rfl (by decide) ?_
        refine own_goto C (pc' := 152) at_148 rfl ?_
        refine own_ii_ne C (pc1 := 159) (pc2 := 155) at_152 rfl rfl (fun c434 => absurd c434 (by decide)) (fun c434 => ?_)
        refine own_iconst C (pc' := 156) (v := (1 : Int32)) at_155 rfl (by decide) ?_
        refine own_goto C (pc' := 160) at_156 rfl ?_
        refine own_istore C (pc' := 162) (Ls' := #[.val (.int p0), .val (.int p1), .val (.int p2), .val (.int p3), .val (.int (3 : Int32)), .val (.ref a356), .val (.ref a387), .val (.int (1 : Int32)), .val (.int (3 : Int32))]) at_160 rfl rfl ?_
        refine own_iload C (pc' := 164) at_162 rfl rfl ?_
        refine own_iload C (pc' := 166) at_164 rfl rfl ?_
        refine own_ii_ge C (pc1 := 216) (pc2 := 169) at_166 rfl rfl (fun c435 => ?_) (fun c435 => absurd c435 (by decide))
        refine own_iload C (pc' := 218) at_216 rfl rfl ?_
        refine own_iload C (pc' := 220) at_218 rfl rfl ?_
        refine own_ii_ge C (pc1 := 270) (pc2 := 223) at_220 rfl rfl (fun c436 => ?_) (fun c436 => absurd c436 (by decide))
        refine own_iload C (pc' := 272) at_270 rfl rfl ?_
        refine own_i0_eq C (pc1 := 294) (pc2 := 275) at_272 rfl rfl (fun c437 => absurd c437 (by decide)) (fun c437 => ?_)
        refine own_iload C (pc' := 277) at_275 rfl rfl ?_
        refine own_iload C (pc' := 279) at_277 rfl rfl ?_
        refine own_ii_ne C (pc1 := 294) (pc2 := 282) at_279 rfl rfl (fun c438 => absurd c438 (by decide)) (fun c438 => ?_)
        refine own_aload C (pc' := 284) at_282 rfl rfl rfl ?_
        refine own_callV C (pc' := 287) (y := (⟨"com/example/words_to_weights/wordstoweights/index/VarIntReader", "atEnd", "()Z"⟩ : MethodName)) (a := a387) (argsL := []) (rest := []) 0 F419 (hw _ (List.mem_of_getElem? (i := 12) rfl)) (hw _ (List.mem_of_getElem? (i := 13) rfl)) (hw _ (List.mem_of_getElem? (i := 15) rfl)) (hw _ (List.mem_of_getElem? (i := 14) rfl)) (hw _ (List.mem_of_getElem? (i := 16) rfl)) (hw _ (List.mem_of_getElem? (i := 3) rfl)) (by decide) (own_m3 hw a387 a356 3 g (3 : Int32) (1 : Int32) Z423 F421 F420 F424 (by decide)) (by decide) (by decide) (lenOf own_pd1 rfl) rfl (Nat.le_of_eq rfl) at_284 rfl rfl (by decide) (by decide) (fun v439 h440 hq441 => ?_)
        obtain ⟨rfl, rfl⟩ := hq441
        show own_Run p_ l e_ _ s_ m_ _ b_ mt_ c_ n0 _ h416 _ _ (mkF m_ 287 #[.val (.int p0), .val (.int p1), .val (.int p2), .val (.int p3), .val (.int (3 : Int32)), .val (.ref a356), .val (.ref a387), .val (.int (1 : Int32)), .val (.int (3 : Int32))] [(.int (1 : Int32))])
        refine own_i0_eq C (pc1 := 294) (pc2 := 290) at_287 rfl rfl (fun c442 => absurd c442 (by decide)) (fun c442 => ?_)
        refine own_iconst C (pc' := 291) (v := (1 : Int32)) at_290 rfl (by decide) ?_
        refine own_goto C (pc' := 295) at_291 rfl ?_
        refine own_istore C (pc' := 297) (Ls' := #[.val (.int p0), .val (.int p1), .val (.int p2), .val (.int p3), .val (.int (3 : Int32)), .val (.ref a356), .val (.ref a387), .val (.int (1 : Int32)), .val (.int (3 : Int32))]) at_295 rfl rfl ?_
        refine own_iload C (pc' := 299) at_297 rfl rfl ?_
        exact own_ret C (t := .boolean) rfl rfl (Or.inl ⟨rfl, by simp, _, rfl⟩) at_299 (by decide) (by decide) (rfl)
      · skip
        refine own_new C (pc' := 72) (hw _ (List.mem_of_getElem? (i := 1) rfl)) (hw _ (List.mem_of_getElem? (i := 2) rfl)) (hw _ (List.mem_of_getElem? (i := 3) rfl)) Z384 at_69 rfl (by decide) (by decide) (fun h443 a444 ea445 ga446 Z447 E448 A449 D450 => ?_)
        have ne451 : a356 ≠ a444 := by rw [ea445]; exact Nat.ne_of_lt (own_A.lt F385)
        have F452 : own_AB Z h443 a356 3 g := own_A.ext F385 E448
        have F453 : Fld Z h443 a444 "com/example/words_to_weights/wordstoweights/index/VarIntReader" "bytes" "[B" .null := D450 (Or.inr (hw _ (List.mem_of_getElem? (i := 11) rfl))) (ty := (.array .byte)) (by decide)
        have F454 : Fld Z h443 a444 "com/example/words_to_weights/wordstoweights/index/VarIntReader" "position" "I" (.int (0 : Int32)) := D450 (Or.inl (hw _ (List.mem_of_getElem? (i := 18) rfl))) (ty := .int) (by decide)
        refine own_dup C (pc' := 73) at_72 rfl rfl ?_
        refine own_aload C (pc' := 75) at_73 rfl rfl rfl ?_
        refine own_callN C (pc' := 78) (y := (⟨"com/example/words_to_weights/wordstoweights/index/VarIntReader", "<init>", "([B)V"⟩ : MethodName)) (a := a444) (argsL := [(.ref a356)]) (rest := [(.ref a444)]) 1 rfl (hw _ (List.mem_of_getElem? (i := 4) rfl)) (hw _ (List.mem_of_getElem? (i := 5) rfl)) (hw _ (List.mem_of_getElem? (i := 6) rfl)) (hw _ (List.mem_of_getElem? (i := 3) rfl)) (by decide) (own_m1 hw a444 a356 Z447 A449 ga446 F453 F454 ) (by decide) (by decide) (lenOf own_pd0 rfl) rfl (Nat.le_of_eq rfl) at_75 rfl rfl (by decide) (by decide) (fun v455 h456 hq457 => ?_)
        obtain ⟨rfl, K458, F459, F460, F461⟩ := hq457
        have Z463 : n0 ≤ h456.size := Nat.le_trans Z447 K458.1
        have F464 : own_AB Z h456 a356 3 g := own_A.keep F452 K458 (ninS ne451 nin0)
        have F465 : Exa Z h456 a444 "com/example/words_to_weights/wordstoweights/index/VarIntReader" := Exa.keep A449 K458
        show own_Run p_ l e_ _ s_ m_ _ b_ mt_ c_ n0 _ h456 _ _ (mkF m_ 78 #[.val (.int p0), .val (.int p1), .val (.int p2), .val (.int p3), .val (.int (3 : Int32)), .val (.ref a356), .unset, .unset, .unset] [(.ref a444)])
        refine own_astore C (pc' := 80) (Ls' := #[.val (.int p0), .val (.int p1), .val (.int p2), .val (.int p3), .val (.int (3 : Int32)), .val (.ref a356), .val (.ref a444), .unset, .unset]) at_78 rfl rfl rfl ?_
        refine own_aload C (pc' := 82) at_80 rfl rfl rfl ?_
        refine own_callV C (pc' := 85) (y := (⟨"com/example/words_to_weights/wordstoweights/index/VarIntReader", "atEnd", "()Z"⟩ : MethodName)) (a := a444) (argsL := []) (rest := []) 0 F459 (hw _ (List.mem_of_getElem? (i := 12) rfl)) (hw _ (List.mem_of_getElem? (i := 13) rfl)) (hw _ (List.mem_of_getElem? (i := 15) rfl)) (hw _ (List.mem_of_getElem? (i := 14) rfl)) (hw _ (List.mem_of_getElem? (i := 16) rfl)) (hw _ (List.mem_of_getElem? (i := 3) rfl)) (by decide) (own_m3 hw a444 a356 3 g (0 : Int32) (0 : Int32) Z463 F461 F460 F464 (by decide)) (by decide) (by decide) (lenOf own_pd1 rfl) rfl (Nat.le_of_eq rfl) at_82 rfl rfl (by decide) (by decide) (fun v466 h467 hq468 => ?_)
        obtain ⟨rfl, rfl⟩ := hq468
        show own_Run p_ l e_ _ s_ m_ _ b_ mt_ c_ n0 _ h456 _ _ (mkF m_ 85 #[.val (.int p0), .val (.int p1), .val (.int p2), .val (.int p3), .val (.int (3 : Int32)), .val (.ref a356), .val (.ref a444), .unset, .unset] [(.int (0 : Int32))])
        refine own_iload C (pc' := 87) at_85 rfl rfl ?_
        refine own_i0_ne C (pc1 := 94) (pc2 := 90) at_87 rfl rfl (fun c469 => ?_) (fun c469 => absurd c469 (by decide))
        refine own_iconst C (pc' := 95) (v := (0 : Int32)) at_94 rfl (by decide) ?_
        refine own_ii_ne C (pc1 := 102) (pc2 := 98) at_95 rfl rfl (fun c470 => absurd c470 (by decide)) (fun c470 => ?_)
        refine own_iconst C (pc' := 99) (v := (1 : Int32)) at_98 rfl (by decide) ?_
        refine own_goto C (pc' := 103) at_99 rfl ?_
        refine own_istore C (pc' := 105) (Ls' := #[.val (.int p0), .val (.int p1), .val (.int p2), .val (.int p3), .val (.int (3 : Int32)), .val (.ref a356), .val (.ref a444), .val (.int (1 : Int32)), .unset]) at_103 rfl rfl ?_
        refine own_iconst C (pc' := 106) (v := (0 : Int32)) at_105 rfl (by decide) ?_
        refine own_istore C (pc' := 108) (Ls' := #[.val (.int p0), .val (.int p1), .val (.int p2), .val (.int p3), .val (.int (3 : Int32)), .val (.ref a356), .val (.ref a444), .val (.int (1 : Int32)), .val (.int (0 : Int32))]) at_106 rfl rfl ?_
        refine own_iload C (pc' := 110) at_108 rfl rfl ?_
        refine own_iload C (pc' := 112) at_110 rfl rfl ?_
        refine own_ii_ge C (pc1 := 162) (pc2 := 115) at_112 rfl rfl (fun c471 => absurd c471 (by decide)) (fun c471 => ?_)
        refine own_aload C (pc' := 117) at_115 rfl rfl rfl ?_
        refine own_callV C (pc' := 120) (y := (⟨"com/example/words_to_weights/wordstoweights/index/VarIntReader", "read", "()I"⟩ : MethodName)) (a := a444) (argsL := []) (rest := []) 0 F459 (hw _ (List.mem_of_getElem? (i := 19) rfl)) (hw _ (List.mem_of_getElem? (i := 20) rfl)) (hw _ (List.mem_of_getElem? (i := 22) rfl)) (hw _ (List.mem_of_getElem? (i := 21) rfl)) (hw _ (List.mem_of_getElem? (i := 23) rfl)) (hw _ (List.mem_of_getElem? (i := 3) rfl)) (by decide) (own_read2 hw a444 a356 3 g (0 : Int32) 0 1 (2 : Int32) Z463 F459 ga446 (Ne.symm ne451) F460 F461 F464 (by decide) (by decide) s0 (by decide) (by decide) s1 (by decide)) (by decide) (by decide) (lenOf own_pd2 rfl) rfl (Nat.le_of_eq rfl) at_117 rfl rfl (by decide) (by decide) (fun v472 h473 hq474 => ?_)
        obtain ⟨rfl, K475, F476, F477, F478⟩ := hq474
        have Z480 : n0 ≤ h473.size := Nat.le_trans Z463 K475.1
        have F481 : own_AB Z h473 a356 3 g := own_A.keep F464 K475 (ninS ne451 nin0)
        have F482 : Exa Z h473 a444 "com/example/words_to_weights/wordstoweights/index/VarIntReader" := Exa.keep F459 K475
        show own_Run p_ l e_ _ s_ m_ _ b_ mt_ c_ n0 _ h473 _ _ (mkF m_ 120 #[.val (.int p0), .val (.int p1), .val (.int p2), .val (.int p3), .val (.int (3 : Int32)), .val (.ref a356), .val (.ref a444), .val (.int (1 : Int32)), .val (.int (0 : Int32))] [(.int (((0 : Int32) ||| (((g 0) &&& (127 : Int32)) <<< ((0 : Int32) &&& 31))) ||| (((g 1) &&& (127 : Int32)) <<< ((7 : Int32) &&& 31))))])
        refine own_pop C (pc' := 121) at_120 rfl rfl ?_
        refine own_aload C (pc' := 123) at_121 rfl rfl rfl ?_
        refine own_iload C (pc' := 125) at_123 rfl rfl ?_
        refine own_callS C (pc' := 128) (y := (⟨"com/example/words_to_weights/wordstoweights/index/VarIntReaderAtEndPinLaw", "next", "([BI)I"⟩ : MethodName)) (argsL := [(.ref a356), (.int (0 : Int32))]) (rest := []) 0 (hw _ (List.mem_of_getElem? (i := 24) rfl)) (hw _ (List.mem_of_getElem? (i := 25) rfl)) (hw _ (List.mem_of_getElem? (i := 26) rfl)) (hw _ (List.mem_of_getElem? (i := 27) rfl)) (by decide) (own_next2 hw a356 3 g (0 : Int32) 0 1 (2 : Int32) Z480 F481 (by decide) (by decide) s0 (by decide) (by decide) s1 (by decide)) (by decide) (by decide) (lenOf own_pd3 rfl) rfl (Nat.le_of_eq rfl) at_125 rfl rfl (by decide) (by decide) (fun v483 h484 hq485 => ?_)
        obtain ⟨rfl, rfl⟩ := hq485
        show own_Run p_ l e_ _ s_ m_ _ b_ mt_ c_ n0 _ h473 _ _ (mkF m_ 128 #[.val (.int p0), .val (.int p1), .val (.int p2), .val (.int p3), .val (.int (3 : Int32)), .val (.ref a356), .val (.ref a444), .val (.int (1 : Int32)), .val (.int (0 : Int32))] [(.int (2 : Int32))])
        refine own_istore C (pc' := 130) (Ls' := #[.val (.int p0), .val (.int p1), .val (.int p2), .val (.int p3), .val (.int (3 : Int32)), .val (.ref a356), .val (.ref a444), .val (.int (1 : Int32)), .val (.int (2 : Int32))]) at_128 rfl rfl ?_
        refine own_iload C (pc' := 132) at_130 rfl rfl ?_
        refine own_i0_eq C (pc1 := 159) (pc2 := 135) at_132 rfl rfl (fun c486 => absurd c486 (by decide)) (fun c486 => ?_)
        refine own_aload C (pc' := 137) at_135 rfl rfl rfl ?_
        refine own_callV C (pc' := 140) (y := (⟨"com/example/words_to_weights/wordstoweights/index/VarIntReader", "atEnd", "()Z"⟩ : MethodName)) (a := a444) (argsL := []) (rest := []) 0 F476 (hw _ (List.mem_of_getElem? (i := 12) rfl)) (hw _ (List.mem_of_getElem? (i := 13) rfl)) (hw _ (List.mem_of_getElem? (i := 15) rfl)) (hw _ (List.mem_of_getElem? (i := 14) rfl)) (hw _ (List.mem_of_getElem? (i := 16) rfl)) (hw _ (List.mem_of_getElem? (i := 3) rfl)) (by decide) (own_m3 hw a444 a356 3 g (2 : Int32) (0 : Int32) Z480 F478 F477 F481 (by decide)) (by decide) (by decide) (lenOf own_pd1 rfl) rfl (Nat.le_of_eq rfl) at_137 rfl rfl (by decide) (by decide) (fun v487 h488 hq489 => ?_)
        obtain ⟨rfl, rfl⟩ := hq489
        show own_Run p_ l e_ _ s_ m_ _ b_ mt_ c_ n0 _ h473 _ _ (mkF m_ 140 #[.val (.int p0), .val (.int p1), .val (.int p2), .val (.int p3), .val (.int (3 : Int32)), .val (.ref a356), .val (.ref a444), .val (.int (1 : Int32)), .val (.int (2 : Int32))] [(.int (0 : Int32))])
        refine own_iload C (pc' := 142) at_140 rfl rfl ?_
        refine own_iload C (pc' := 144) at_142 rfl rfl ?_
        refine own_ii_ne C (pc1 := 151) (pc2 := 147) at_144 rfl rfl (fun c490 => ?_) (fun c490 => absurd c490 (by decide))
        refine own_iconst C (pc' := 152) (v := (0 : Int32)) at_151 rfl (by decide) ?_
        refine own_ii_ne C (pc1 := 159) (pc2 := 155) at_152 rfl rfl (fun c491 => absurd c491 (by decide)) (fun c491 => ?_)
        refine own_iconst C (pc' := 156) (v := (1 : Int32)) at_155 rfl (by decide) ?_
        refine own_goto C (pc' := 160) at_156 rfl ?_
        refine own_istore C (pc' := 162) (Ls' := #[.val (.int p0), .val (.int p1), .val (.int p2), .val (.int p3), .val (.int (3 : Int32)), .val (.ref a356), .val (.ref a444), .val (.int (1 : Int32)), .val (.int (2 : Int32))]) at_160 rfl rfl ?_
        refine own_iload C (pc' := 164) at_162 rfl rfl ?_
        refine own_iload C (pc' := 166) at_164 rfl rfl ?_
        refine own_ii_ge C (pc1 := 216) (pc2 := 169) at_166 rfl rfl (fun c492 => absurd c492 (by decide)) (fun c492 => ?_)
        refine own_aload C (pc' := 171) at_169 rfl rfl rfl ?_
        refine own_callV C (pc' := 174) (y := (⟨"com/example/words_to_weights/wordstoweights/index/VarIntReader", "read", "()I"⟩ : MethodName)) (a := a444) (argsL := []) (rest := []) 0 F476 (hw _ (List.mem_of_getElem? (i := 19) rfl)) (hw _ (List.mem_of_getElem? (i := 20) rfl)) (hw _ (List.mem_of_getElem? (i := 22) rfl)) (hw _ (List.mem_of_getElem? (i := 21) rfl)) (hw _ (List.mem_of_getElem? (i := 23) rfl)) (hw _ (List.mem_of_getElem? (i := 3) rfl)) (by decide) (own_read1 hw a444 a356 3 g (2 : Int32) 2 (3 : Int32) Z480 F476 ga446 (Ne.symm ne451) F477 F478 F481 (by decide) (by decide) s2 (by decide)) (by decide) (by decide) (lenOf own_pd2 rfl) rfl (Nat.le_of_eq rfl) at_171 rfl rfl (by decide) (by decide) (fun v493 h494 hq495 => ?_)
        obtain ⟨rfl, K496, F497, F498, F499⟩ := hq495
        have Z501 : n0 ≤ h494.size := Nat.le_trans Z480 K496.1
        have F502 : own_AB Z h494 a356 3 g := own_A.keep F481 K496 (ninS ne451 nin0)
        have F503 : Exa Z h494 a444 "com/example/words_to_weights/wordstoweights/index/VarIntReader" := Exa.keep F476 K496
        show own_Run p_ l e_ _ s_ m_ _ b_ mt_ c_ n0 _ h494 _ _ (mkF m_ 174 #[.val (.int p0), .val (.int p1), .val (.int p2), .val (.int p3), .val (.int (3 : Int32)), .val (.ref a356), .val (.ref a444), .val (.int (1 : Int32)), .val (.int (2 : Int32))] [(.int ((0 : Int32) ||| (((g 2) &&& (127 : Int32)) <<< ((0 : Int32) &&& 31))))])
        refine own_pop C (pc' := 175) at_174 rfl rfl ?_
        refine own_aload C (pc' := 177) at_175 rfl rfl rfl ?_
        refine own_iload C (pc' := 179) at_177 rfl rfl ?_
        refine own_callS C (pc' := 182) (y := (⟨"com/example/words_to_weights/wordstoweights/index/VarIntReaderAtEndPinLaw", "next", "([BI)I"⟩ : MethodName)) (argsL := [(.ref a356), (.int (2 : Int32))]) (rest := []) 0 (hw _ (List.mem_of_getElem? (i := 24) rfl)) (hw _ (List.mem_of_getElem? (i := 25) rfl)) (hw _ (List.mem_of_getElem? (i := 26) rfl)) (hw _ (List.mem_of_getElem? (i := 27) rfl)) (by decide) (own_next1 hw a356 3 g (2 : Int32) 2 (3 : Int32) Z501 F502 (by decide) (by decide) s2 (by decide)) (by decide) (by decide) (lenOf own_pd3 rfl) rfl (Nat.le_of_eq rfl) at_179 rfl rfl (by decide) (by decide) (fun v504 h505 hq506 => ?_)
        obtain ⟨rfl, rfl⟩ := hq506
        show own_Run p_ l e_ _ s_ m_ _ b_ mt_ c_ n0 _ h494 _ _ (mkF m_ 182 #[.val (.int p0), .val (.int p1), .val (.int p2), .val (.int p3), .val (.int (3 : Int32)), .val (.ref a356), .val (.ref a444), .val (.int (1 : Int32)), .val (.int (2 : Int32))] [(.int (3 : Int32))])
        refine own_istore C (pc' := 184) (Ls' := #[.val (.int p0), .val (.int p1), .val (.int p2), .val (.int p3), .val (.int (3 : Int32)), .val (.ref a356), .val (.ref a444), .val (.int (1 : Int32)), .val (.int (3 : Int32))]) at_182 rfl rfl ?_
        refine own_iload C (pc' := 186) at_184 rfl rfl ?_
        refine own_i0_eq C (pc1 := 213) (pc2 := 189) at_186 rfl rfl (fun c507 => absurd c507 (by decide)) (fun c507 => ?_)
        refine own_aload C (pc' := 191) at_189 rfl rfl rfl ?_
        refine own_callV C (pc' := 194) (y := (⟨"com/example/words_to_weights/wordstoweights/index/VarIntReader", "atEnd", "()Z"⟩ : MethodName)) (a := a444) (argsL := []) (rest := []) 0 F497 (hw _ (List.mem_of_getElem? (i := 12) rfl)) (hw _ (List.mem_of_getElem? (i := 13) rfl)) (hw _ (List.mem_of_getElem? (i := 15) rfl)) (hw _ (List.mem_of_getElem? (i := 14) rfl)) (hw _ (List.mem_of_getElem? (i := 16) rfl)) (hw _ (List.mem_of_getElem? (i := 3) rfl)) (by decide) (own_m3 hw a444 a356 3 g (3 : Int32) (1 : Int32) Z501 F499 F498 F502 (by decide)) (by decide) (by decide) (lenOf own_pd1 rfl) rfl (Nat.le_of_eq rfl) at_191 rfl rfl (by decide) (by decide) (fun v508 h509 hq510 => ?_)
        obtain ⟨rfl, rfl⟩ := hq510
        show own_Run p_ l e_ _ s_ m_ _ b_ mt_ c_ n0 _ h494 _ _ (mkF m_ 194 #[.val (.int p0), .val (.int p1), .val (.int p2), .val (.int p3), .val (.int (3 : Int32)), .val (.ref a356), .val (.ref a444), .val (.int (1 : Int32)), .val (.int (3 : Int32))] [(.int (1 : Int32))])
        refine own_iload C (pc' := 196) at_194 rfl rfl ?_
        refine own_iload C (pc' := 198) at_196 rfl rfl ?_
        refine own_ii_ne C (pc1 := 205) (pc2 := 201) at_198 rfl rfl (fun c511 => absurd c511 (by decide)) (fun c511 => ?_)
        refine own_iconst C (pc' := 202) (v := (1 : Int32)) at_201 rfl (by decide) ?_
        refine own_goto C (pc' := 206) at_202 rfl ?_
        refine own_ii_ne C (pc1 := 213) (pc2 := 209) at_206 rfl rfl (fun c512 => absurd c512 (by decide)) (fun c512 => ?_)
        refine own_iconst C (pc' := 210) (v := (1 : Int32)) at_209 rfl (by decide) ?_
        refine own_goto C (pc' := 214) at_210 rfl ?_
        refine own_istore C (pc' := 216) (Ls' := #[.val (.int p0), .val (.int p1), .val (.int p2), .val (.int p3), .val (.int (3 : Int32)), .val (.ref a356), .val (.ref a444), .val (.int (1 : Int32)), .val (.int (3 : Int32))]) at_214 rfl rfl ?_
        refine own_iload C (pc' := 218) at_216 rfl rfl ?_
        refine own_iload C (pc' := 220) at_218 rfl rfl ?_
        refine own_ii_ge C (pc1 := 270) (pc2 := 223) at_220 rfl rfl (fun c513 => ?_) (fun c513 => absurd c513 (by decide))
        refine own_iload C (pc' := 272) at_270 rfl rfl ?_
        refine own_i0_eq C (pc1 := 294) (pc2 := 275) at_272 rfl rfl (fun c514 => absurd c514 (by decide)) (fun c514 => ?_)
        refine own_iload C (pc' := 277) at_275 rfl rfl ?_
        refine own_iload C (pc' := 279) at_277 rfl rfl ?_
        refine own_ii_ne C (pc1 := 294) (pc2 := 282) at_279 rfl rfl (fun c515 => absurd c515 (by decide)) (fun c515 => ?_)
        refine own_aload C (pc' := 284) at_282 rfl rfl rfl ?_
        refine own_callV C (pc' := 287) (y := (⟨"com/example/words_to_weights/wordstoweights/index/VarIntReader", "atEnd", "()Z"⟩ : MethodName)) (a := a444) (argsL := []) (rest := []) 0 F497 (hw _ (List.mem_of_getElem? (i := 12) rfl)) (hw _ (List.mem_of_getElem? (i := 13) rfl)) (hw _ (List.mem_of_getElem? (i := 15) rfl)) (hw _ (List.mem_of_getElem? (i := 14) rfl)) (hw _ (List.mem_of_getElem? (i := 16) rfl)) (hw _ (List.mem_of_getElem? (i := 3) rfl)) (by decide) (own_m3 hw a444 a356 3 g (3 : Int32) (1 : Int32) Z501 F499 F498 F502 (by decide)) (by decide) (by decide) (lenOf own_pd1 rfl) rfl (Nat.le_of_eq rfl) at_284 rfl rfl (by decide) (by decide) (fun v516 h517 hq518 => ?_)
        obtain ⟨rfl, rfl⟩ := hq518
        show own_Run p_ l e_ _ s_ m_ _ b_ mt_ c_ n0 _ h494 _ _ (mkF m_ 287 #[.val (.int p0), .val (.int p1), .val (.int p2), .val (.int p3), .val (.int (3 : Int32)), .val (.ref a356), .val (.ref a444), .val (.int (1 : Int32)), .val (.int (3 : Int32))] [(.int (1 : Int32))])
        refine own_i0_eq C (pc1 := 294) (pc2 := 290) at_287 rfl rfl (fun c519 => absurd c519 (by decide)) (fun c519 => ?_)
        refine own_iconst C (pc' := 291) (v := (1 : Int32)) at_290 rfl (by decide) ?_
        refine own_goto C (pc' := 295) at_291 rfl ?_
        refine own_istore C (pc' := 297) (Ls' := #[.val (.int p0), .val (.int p1), .val (.int p2), .val (.int p3), .val (.int (3 : Int32)), .val (.ref a356), .val (.ref a444), .val (.int (1 : Int32)), .val (.int (3 : Int32))]) at_295 rfl rfl ?_
        refine own_iload C (pc' := 299) at_297 rfl rfl ?_
        exact own_ret C (t := .boolean) rfl rfl (Or.inl ⟨rfl, by simp, _, rfl⟩) at_299 (by decide) (by decide) (rfl)
    · skip
      by_cases s1 : (g 1) < 0
      · skip
        refine own_new C (pc' := 72) (hw _ (List.mem_of_getElem? (i := 1) rfl)) (hw _ (List.mem_of_getElem? (i := 2) rfl)) (hw _ (List.mem_of_getElem? (i := 3) rfl)) Z384 at_69 rfl (by decide) (by decide) (fun h520 a521 ea522 ga523 Z524 E525 A526 D527 => ?_)
        have ne528 : a356 ≠ a521 := by rw [ea522]; exact Nat.ne_of_lt (own_A.lt F385)
        have F529 : own_AB Z h520 a356 3 g := own_A.ext F385 E525
        have F530 : Fld Z h520 a521 "com/example/words_to_weights/wordstoweights/index/VarIntReader" "bytes" "[B" .null := D527 (Or.inr (hw _ (List.mem_of_getElem? (i := 11) rfl))) (ty := (.array .byte)) (by decide)
        have F531 : Fld Z h520 a521 "com/example/words_to_weights/wordstoweights/index/VarIntReader" "position" "I" (.int (0 : Int32)) := D527 (Or.inl (hw _ (List.mem_of_getElem? (i := 18) rfl))) (ty := .int) (by decide)
        refine own_dup C (pc' := 73) at_72 rfl rfl ?_
        refine own_aload C (pc' := 75) at_73 rfl rfl rfl ?_
        refine own_callN C (pc' := 78) (y := (⟨"com/example/words_to_weights/wordstoweights/index/VarIntReader", "<init>", "([B)V"⟩ : MethodName)) (a := a521) (argsL := [(.ref a356)]) (rest := [(.ref a521)]) 1 rfl (hw _ (List.mem_of_getElem? (i := 4) rfl)) (hw _ (List.mem_of_getElem? (i := 5) rfl)) (hw _ (List.mem_of_getElem? (i := 6) rfl)) (hw _ (List.mem_of_getElem? (i := 3) rfl)) (by decide) (own_m1 hw a521 a356 Z524 A526 ga523 F530 F531 ) (by decide) (by decide) (lenOf own_pd0 rfl) rfl (Nat.le_of_eq rfl) at_75 rfl rfl (by decide) (by decide) (fun v532 h533 hq534 => ?_)
        obtain ⟨rfl, K535, F536, F537, F538⟩ := hq534
        have Z540 : n0 ≤ h533.size := Nat.le_trans Z524 K535.1
        have F541 : own_AB Z h533 a356 3 g := own_A.keep F529 K535 (ninS ne528 nin0)
        have F542 : Exa Z h533 a521 "com/example/words_to_weights/wordstoweights/index/VarIntReader" := Exa.keep A526 K535
        show own_Run p_ l e_ _ s_ m_ _ b_ mt_ c_ n0 _ h533 _ _ (mkF m_ 78 #[.val (.int p0), .val (.int p1), .val (.int p2), .val (.int p3), .val (.int (3 : Int32)), .val (.ref a356), .unset, .unset, .unset] [(.ref a521)])
        refine own_astore C (pc' := 80) (Ls' := #[.val (.int p0), .val (.int p1), .val (.int p2), .val (.int p3), .val (.int (3 : Int32)), .val (.ref a356), .val (.ref a521), .unset, .unset]) at_78 rfl rfl rfl ?_
        refine own_aload C (pc' := 82) at_80 rfl rfl rfl ?_
        refine own_callV C (pc' := 85) (y := (⟨"com/example/words_to_weights/wordstoweights/index/VarIntReader", "atEnd", "()Z"⟩ : MethodName)) (a := a521) (argsL := []) (rest := []) 0 F536 (hw _ (List.mem_of_getElem? (i := 12) rfl)) (hw _ (List.mem_of_getElem? (i := 13) rfl)) (hw _ (List.mem_of_getElem? (i := 15) rfl)) (hw _ (List.mem_of_getElem? (i := 14) rfl)) (hw _ (List.mem_of_getElem? (i := 16) rfl)) (hw _ (List.mem_of_getElem? (i := 3) rfl)) (by decide) (own_m3 hw a521 a356 3 g (0 : Int32) (0 : Int32) Z540 F538 F537 F541 (by decide)) (by decide) (by decide) (lenOf own_pd1 rfl) rfl (Nat.le_of_eq rfl) at_82 rfl rfl (by decide) (by decide) (fun v543 h544 hq545 => ?_)
        obtain ⟨rfl, rfl⟩ := hq545
        show own_Run p_ l e_ _ s_ m_ _ b_ mt_ c_ n0 _ h533 _ _ (mkF m_ 85 #[.val (.int p0), .val (.int p1), .val (.int p2), .val (.int p3), .val (.int (3 : Int32)), .val (.ref a356), .val (.ref a521), .unset, .unset] [(.int (0 : Int32))])
        refine own_iload C (pc' := 87) at_85 rfl rfl ?_
        refine own_i0_ne C (pc1 := 94) (pc2 := 90) at_87 rfl rfl (fun c546 => ?_) (fun c546 => absurd c546 (by decide))
        refine own_iconst C (pc' := 95) (v := (0 : Int32)) at_94 rfl (by decide) ?_
        refine own_ii_ne C (pc1 := 102) (pc2 := 98) at_95 rfl rfl (fun c547 => absurd c547 (by decide)) (fun c547 => ?_)
        refine own_iconst C (pc' := 99) (v := (1 : Int32)) at_98 rfl (by decide) ?_
        refine own_goto C (pc' := 103) at_99 rfl ?_
        refine own_istore C (pc' := 105) (Ls' := #[.val (.int p0), .val (.int p1), .val (.int p2), .val (.int p3), .val (.int (3 : Int32)), .val (.ref a356), .val (.ref a521), .val (.int (1 : Int32)), .unset]) at_103 rfl rfl ?_
        refine own_iconst C (pc' := 106) (v := (0 : Int32)) at_105 rfl (by decide) ?_
        refine own_istore C (pc' := 108) (Ls' := #[.val (.int p0), .val (.int p1), .val (.int p2), .val (.int p3), .val (.int (3 : Int32)), .val (.ref a356), .val (.ref a521), .val (.int (1 : Int32)), .val (.int (0 : Int32))]) at_106 rfl rfl ?_
        refine own_iload C (pc' := 110) at_108 rfl rfl ?_
        refine own_iload C (pc' := 112) at_110 rfl rfl ?_
        refine own_ii_ge C (pc1 := 162) (pc2 := 115) at_112 rfl rfl (fun c548 => absurd c548 (by decide)) (fun c548 => ?_)
        refine own_aload C (pc' := 117) at_115 rfl rfl rfl ?_
        refine own_callV C (pc' := 120) (y := (⟨"com/example/words_to_weights/wordstoweights/index/VarIntReader", "read", "()I"⟩ : MethodName)) (a := a521) (argsL := []) (rest := []) 0 F536 (hw _ (List.mem_of_getElem? (i := 19) rfl)) (hw _ (List.mem_of_getElem? (i := 20) rfl)) (hw _ (List.mem_of_getElem? (i := 22) rfl)) (hw _ (List.mem_of_getElem? (i := 21) rfl)) (hw _ (List.mem_of_getElem? (i := 23) rfl)) (hw _ (List.mem_of_getElem? (i := 3) rfl)) (by decide) (own_read1 hw a521 a356 3 g (0 : Int32) 0 (1 : Int32) Z540 F536 ga523 (Ne.symm ne528) F537 F538 F541 (by decide) (by decide) s0 (by decide)) (by decide) (by decide) (lenOf own_pd2 rfl) rfl (Nat.le_of_eq rfl) at_117 rfl rfl (by decide) (by decide) (fun v549 h550 hq551 => ?_)
        obtain ⟨rfl, K552, F553, F554, F555⟩ := hq551
        have Z557 : n0 ≤ h550.size := Nat.le_trans Z540 K552.1
        have F558 : own_AB Z h550 a356 3 g := own_A.keep F541 K552 (ninS ne528 nin0)
        have F559 : Exa Z h550 a521 "com/example/words_to_weights/wordstoweights/index/VarIntReader" := Exa.keep F536 K552
        show own_Run p_ l e_ _ s_ m_ _ b_ mt_ c_ n0 _ h550 _ _ (mkF m_ 120 #[.val (.int p0), .val (.int p1), .val (.int p2), .val (.int p3), .val (.int (3 : Int32)), .val (.ref a356), .val (.ref a521), .val (.int (1 : Int32)), .val (.int (0 : Int32))] [(.int ((0 : Int32) ||| (((g 0) &&& (127 : Int32)) <<< ((0 : Int32) &&& 31))))])
        refine own_pop C (pc' := 121) at_120 rfl rfl ?_
        refine own_aload C (pc' := 123) at_121 rfl rfl rfl ?_
        refine own_iload C (pc' := 125) at_123 rfl rfl ?_
        refine own_callS C (pc' := 128) (y := (⟨"com/example/words_to_weights/wordstoweights/index/VarIntReaderAtEndPinLaw", "next", "([BI)I"⟩ : MethodName)) (argsL := [(.ref a356), (.int (0 : Int32))]) (rest := []) 0 (hw _ (List.mem_of_getElem? (i := 24) rfl)) (hw _ (List.mem_of_getElem? (i := 25) rfl)) (hw _ (List.mem_of_getElem? (i := 26) rfl)) (hw _ (List.mem_of_getElem? (i := 27) rfl)) (by decide) (own_next1 hw a356 3 g (0 : Int32) 0 (1 : Int32) Z557 F558 (by decide) (by decide) s0 (by decide)) (by decide) (by decide) (lenOf own_pd3 rfl) rfl (Nat.le_of_eq rfl) at_125 rfl rfl (by decide) (by decide) (fun v560 h561 hq562 => ?_)
        obtain ⟨rfl, rfl⟩ := hq562
        show own_Run p_ l e_ _ s_ m_ _ b_ mt_ c_ n0 _ h550 _ _ (mkF m_ 128 #[.val (.int p0), .val (.int p1), .val (.int p2), .val (.int p3), .val (.int (3 : Int32)), .val (.ref a356), .val (.ref a521), .val (.int (1 : Int32)), .val (.int (0 : Int32))] [(.int (1 : Int32))])
        refine own_istore C (pc' := 130) (Ls' := #[.val (.int p0), .val (.int p1), .val (.int p2), .val (.int p3), .val (.int (3 : Int32)), .val (.ref a356), .val (.ref a521), .val (.int (1 : Int32)), .val (.int (1 : Int32))]) at_128 rfl rfl ?_
        refine own_iload C (pc' := 132) at_130 rfl rfl ?_
        refine own_i0_eq C (pc1 := 159) (pc2 := 135) at_132 rfl rfl (fun c563 => absurd c563 (by decide)) (fun c563 => ?_)
        refine own_aload C (pc' := 137) at_135 rfl rfl rfl ?_
        refine own_callV C (pc' := 140) (y := (⟨"com/example/words_to_weights/wordstoweights/index/VarIntReader", "atEnd", "()Z"⟩ : MethodName)) (a := a521) (argsL := []) (rest := []) 0 F553 (hw _ (List.mem_of_getElem? (i := 12) rfl)) (hw _ (List.mem_of_getElem? (i := 13) rfl)) (hw _ (List.mem_of_getElem? (i := 15) rfl)) (hw _ (List.mem_of_getElem? (i := 14) rfl)) (hw _ (List.mem_of_getElem? (i := 16) rfl)) (hw _ (List.mem_of_getElem? (i := 3) rfl)) (by decide) (own_m3 hw a521 a356 3 g (1 : Int32) (0 : Int32) Z557 F555 F554 F558 (by decide)) (by decide) (by decide) (lenOf own_pd1 rfl) rfl (Nat.le_of_eq rfl) at_137 rfl rfl (by decide) (by decide) (fun v564 h565 hq566 => ?_)
        obtain ⟨rfl, rfl⟩ := hq566
        show own_Run p_ l e_ _ s_ m_ _ b_ mt_ c_ n0 _ h550 _ _ (mkF m_ 140 #[.val (.int p0), .val (.int p1), .val (.int p2), .val (.int p3), .val (.int (3 : Int32)), .val (.ref a356), .val (.ref a521), .val (.int (1 : Int32)), .val (.int (1 : Int32))] [(.int (0 : Int32))])
        refine own_iload C (pc' := 142) at_140 rfl rfl ?_
        refine own_iload C (pc' := 144) at_142 rfl rfl ?_
        refine own_ii_ne C (pc1 := 151) (pc2 := 147) at_144 rfl rfl (fun c567 => ?_) (fun c567 => absurd c567 (by decide))
        refine own_iconst C (pc' := 152) (v := (0 : Int32)) at_151 rfl (by decide) ?_
        refine own_ii_ne C (pc1 := 159) (pc2 := 155) at_152 rfl rfl (fun c568 => absurd c568 (by decide)) (fun c568 => ?_)
        refine own_iconst C (pc' := 156) (v := (1 : Int32)) at_155 rfl (by decide) ?_
        refine own_goto C (pc' := 160) at_156 rfl ?_
        refine own_istore C (pc' := 162) (Ls' := #[.val (.int p0), .val (.int p1), .val (.int p2), .val (.int p3), .val (.int (3 : Int32)), .val (.ref a356), .val (.ref a521), .val (.int (1 : Int32)), .val (.int (1 : Int32))]) at_160 rfl rfl ?_
        refine own_iload C (pc' := 164) at_162 rfl rfl ?_
        refine own_iload C (pc' := 166) at_164 rfl rfl ?_
        refine own_ii_ge C (pc1 := 216) (pc2 := 169) at_166 rfl rfl (fun c569 => absurd c569 (by decide)) (fun c569 => ?_)
        refine own_aload C (pc' := 171) at_169 rfl rfl rfl ?_
        refine own_callV C (pc' := 174) (y := (⟨"com/example/words_to_weights/wordstoweights/index/VarIntReader", "read", "()I"⟩ : MethodName)) (a := a521) (argsL := []) (rest := []) 0 F553 (hw _ (List.mem_of_getElem? (i := 19) rfl)) (hw _ (List.mem_of_getElem? (i := 20) rfl)) (hw _ (List.mem_of_getElem? (i := 22) rfl)) (hw _ (List.mem_of_getElem? (i := 21) rfl)) (hw _ (List.mem_of_getElem? (i := 23) rfl)) (hw _ (List.mem_of_getElem? (i := 3) rfl)) (by decide) (own_read2 hw a521 a356 3 g (1 : Int32) 1 2 (3 : Int32) Z557 F553 ga523 (Ne.symm ne528) F554 F555 F558 (by decide) (by decide) s1 (by decide) (by decide) s2 (by decide)) (by decide) (by decide) (lenOf own_pd2 rfl) rfl (Nat.le_of_eq rfl) at_171 rfl rfl (by decide) (by decide) (fun v570 h571 hq572 => ?_)
        obtain ⟨rfl, K573, F574, F575, F576⟩ := hq572
        have Z578 : n0 ≤ h571.size := Nat.le_trans Z557 K573.1
        have F579 : own_AB Z h571 a356 3 g := own_A.keep F558 K573 (ninS ne528 nin0)
        have F580 : Exa Z h571 a521 "com/example/words_to_weights/wordstoweights/index/VarIntReader" := Exa.keep F553 K573
        show own_Run p_ l e_ _ s_ m_ _ b_ mt_ c_ n0 _ h571 _ _ (mkF m_ 174 #[.val (.int p0), .val (.int p1), .val (.int p2), .val (.int p3), .val (.int (3 : Int32)), .val (.ref a356), .val (.ref a521), .val (.int (1 : Int32)), .val (.int (1 : Int32))] [(.int (((0 : Int32) ||| (((g 1) &&& (127 : Int32)) <<< ((0 : Int32) &&& 31))) ||| (((g 2) &&& (127 : Int32)) <<< ((7 : Int32) &&& 31))))])
        refine own_pop C (pc' := 175) at_174 rfl rfl ?_
        refine own_aload C (pc' := 177) at_175 rfl rfl rfl ?_
        refine own_iload C (pc' := 179) at_177 rfl rfl ?_
        refine own_callS C (pc' := 182) (y := (⟨"com/example/words_to_weights/wordstoweights/index/VarIntReaderAtEndPinLaw", "next", "([BI)I"⟩ : MethodName)) (argsL := [(.ref a356), (.int (1 : Int32))]) (rest := []) 0 (hw _ (List.mem_of_getElem? (i := 24) rfl)) (hw _ (List.mem_of_getElem? (i := 25) rfl)) (hw _ (List.mem_of_getElem? (i := 26) rfl)) (hw _ (List.mem_of_getElem? (i := 27) rfl)) (by decide) (own_next2 hw a356 3 g (1 : Int32) 1 2 (3 : Int32) Z578 F579 (by decide) (by decide) s1 (by decide) (by decide) s2 (by decide)) (by decide) (by decide) (lenOf own_pd3 rfl) rfl (Nat.le_of_eq rfl) at_179 rfl rfl (by decide) (by decide) (fun v581 h582 hq583 => ?_)
        obtain ⟨rfl, rfl⟩ := hq583
        show own_Run p_ l e_ _ s_ m_ _ b_ mt_ c_ n0 _ h571 _ _ (mkF m_ 182 #[.val (.int p0), .val (.int p1), .val (.int p2), .val (.int p3), .val (.int (3 : Int32)), .val (.ref a356), .val (.ref a521), .val (.int (1 : Int32)), .val (.int (1 : Int32))] [(.int (3 : Int32))])
        refine own_istore C (pc' := 184) (Ls' := #[.val (.int p0), .val (.int p1), .val (.int p2), .val (.int p3), .val (.int (3 : Int32)), .val (.ref a356), .val (.ref a521), .val (.int (1 : Int32)), .val (.int (3 : Int32))]) at_182 rfl rfl ?_
        refine own_iload C (pc' := 186) at_184 rfl rfl ?_
        refine own_i0_eq C (pc1 := 213) (pc2 := 189) at_186 rfl rfl (fun c584 => absurd c584 (by decide)) (fun c584 => ?_)
        refine own_aload C (pc' := 191) at_189 rfl rfl rfl ?_
        refine own_callV C (pc' := 194) (y := (⟨"com/example/words_to_weights/wordstoweights/index/VarIntReader", "atEnd", "()Z"⟩ : MethodName)) (a := a521) (argsL := []) (rest := []) 0 F574 (hw _ (List.mem_of_getElem? (i := 12) rfl)) (hw _ (List.mem_of_getElem? (i := 13) rfl)) (hw _ (List.mem_of_getElem? (i := 15) rfl)) (hw _ (List.mem_of_getElem? (i := 14) rfl)) (hw _ (List.mem_of_getElem? (i := 16) rfl)) (hw _ (List.mem_of_getElem? (i := 3) rfl)) (by decide) (own_m3 hw a521 a356 3 g (3 : Int32) (1 : Int32) Z578 F576 F575 F579 (by decide)) (by decide) (by decide) (lenOf own_pd1 rfl) rfl (Nat.le_of_eq rfl) at_191 rfl rfl (by decide) (by decide) (fun v585 h586 hq587 => ?_)
        obtain ⟨rfl, rfl⟩ := hq587
        show own_Run p_ l e_ _ s_ m_ _ b_ mt_ c_ n0 _ h571 _ _ (mkF m_ 194 #[.val (.int p0), .val (.int p1), .val (.int p2), .val (.int p3), .val (.int (3 : Int32)), .val (.ref a356), .val (.ref a521), .val (.int (1 : Int32)), .val (.int (3 : Int32))] [(.int (1 : Int32))])
        refine own_iload C (pc' := 196) at_194 rfl rfl ?_
        refine own_iload C (pc' := 198) at_196 rfl rfl ?_
        refine own_ii_ne C (pc1 := 205) (pc2 := 201) at_198 rfl rfl (fun c588 => absurd c588 (by decide)) (fun c588 => ?_)
        refine own_iconst C (pc' := 202) (v := (1 : Int32)) at_201 rfl (by decide) ?_
        refine own_goto C (pc' := 206) at_202 rfl ?_
        refine own_ii_ne C (pc1 := 213) (pc2 := 209) at_206 rfl rfl (fun c589 => absurd c589 (by decide)) (fun c589 => ?_)
        refine own_iconst C (pc' := 210) (v := (1 : Int32)) at_209 rfl (by decide) ?_
        refine own_goto C (pc' := 214) at_210 rfl ?_
        refine own_istore C (pc' := 216) (Ls' := #[.val (.int p0), .val (.int p1), .val (.int p2), .val (.int p3), .val (.int (3 : Int32)), .val (.ref a356), .val (.ref a521), .val (.int (1 : Int32)), .val (.int (3 : Int32))]) at_214 rfl rfl ?_
        refine own_iload C (pc' := 218) at_216 rfl rfl ?_
        refine own_iload C (pc' := 220) at_218 rfl rfl ?_
        refine own_ii_ge C (pc1 := 270) (pc2 := 223) at_220 rfl rfl (fun c590 => ?_) (fun c590 => absurd c590 (by decide))
        refine own_iload C (pc' := 272) at_270 rfl rfl ?_
        refine own_i0_eq C (pc1 := 294) (pc2 := 275) at_272 rfl rfl (fun c591 => absurd c591 (by decide)) (fun c591 => ?_)
        refine own_iload C (pc' := 277) at_275 rfl rfl ?_
        refine own_iload C (pc' := 279) at_277 rfl rfl ?_
        refine own_ii_ne C (pc1 := 294) (pc2 := 282) at_279 rfl rfl (fun c592 => absurd c592 (by decide)) (fun c592 => ?_)
        refine own_aload C (pc' := 284) at_282 rfl rfl rfl ?_
        refine own_callV C (pc' := 287) (y := (⟨"com/example/words_to_weights/wordstoweights/index/VarIntReader", "atEnd", "()Z"⟩ : MethodName)) (a := a521) (argsL := []) (rest := []) 0 F574 (hw _ (List.mem_of_getElem? (i := 12) rfl)) (hw _ (List.mem_of_getElem? (i := 13) rfl)) (hw _ (List.mem_of_getElem? (i := 15) rfl)) (hw _ (List.mem_of_getElem? (i := 14) rfl)) (hw _ (List.mem_of_getElem? (i := 16) rfl)) (hw _ (List.mem_of_getElem? (i := 3) rfl)) (by decide) (own_m3 hw a521 a356 3 g (3 : Int32) (1 : Int32) Z578 F576 F575 F579 (by decide)) (by decide) (by decide) (lenOf own_pd1 rfl) rfl (Nat.le_of_eq rfl) at_284 rfl rfl (by decide) (by decide) (fun v593 h594 hq595 => ?_)
        obtain ⟨rfl, rfl⟩ := hq595
        show own_Run p_ l e_ _ s_ m_ _ b_ mt_ c_ n0 _ h571 _ _ (mkF m_ 287 #[.val (.int p0), .val (.int p1), .val (.int p2), .val (.int p3), .val (.int (3 : Int32)), .val (.ref a356), .val (.ref a521), .val (.int (1 : Int32)), .val (.int (3 : Int32))] [(.int (1 : Int32))])
        refine own_i0_eq C (pc1 := 294) (pc2 := 290) at_287 rfl rfl (fun c596 => absurd c596 (by decide)) (fun c596 => ?_)
        refine own_iconst C (pc' := 291) (v := (1 : Int32)) at_290 rfl (by decide) ?_
        refine own_goto C (pc' := 295) at_291 rfl ?_
        refine own_istore C (pc' := 297) (Ls' := #[.val (.int p0), .val (.int p1), .val (.int p2), .val (.int p3), .val (.int (3 : Int32)), .val (.ref a356), .val (.ref a521), .val (.int (1 : Int32)), .val (.int (3 : Int32))]) at_295 rfl rfl ?_
        refine own_iload C (pc' := 299) at_297 rfl rfl ?_
        exact own_ret C (t := .boolean) rfl rfl (Or.inl ⟨rfl, by simp, _, rfl⟩) at_299 (by decide) (by decide) (rfl)
      · skip
        refine own_new C (pc' := 72) (hw _ (List.mem_of_getElem? (i := 1) rfl)) (hw _ (List.mem_of_getElem? (i := 2) rfl)) (hw _ (List.mem_of_getElem? (i := 3) rfl)) Z384 at_69 rfl (by decide) (by decide) (fun h597 a598 ea599 ga600 Z601 E602 A603 D604 => ?_)
        have ne605 : a356 ≠ a598 := by rw [ea599]; exact Nat.ne_of_lt (own_A.lt F385)
        have F606 : own_AB Z h597 a356 3 g := own_A.ext F385 E602
        have F607 : Fld Z h597 a598 "com/example/words_to_weights/wordstoweights/index/VarIntReader" "bytes" "[B" .null := D604 (Or.inr (hw _ (List.mem_of_getElem? (i := 11) rfl))) (ty := (.array .byte)) (by decide)
        have F608 : Fld Z h597 a598 "com/example/words_to_weights/wordstoweights/index/VarIntReader" "position" "I" (.int (0 : Int32)) := D604 (Or.inl (hw _ (List.mem_of_getElem? (i := 18) rfl))) (ty := .int) (by decide)
        refine own_dup C (pc' := 73) at_72 rfl rfl ?_
        refine own_aload C (pc' := 75) at_73 rfl rfl rfl ?_
        refine own_callN C (pc' := 78) (y := (⟨"com/example/words_to_weights/wordstoweights/index/VarIntReader", "<init>", "([B)V"⟩ : MethodName)) (a := a598) (argsL := [(.ref a356)]) (rest := [(.ref a598)]) 1 rfl (hw _ (List.mem_of_getElem? (i := 4) rfl)) (hw _ (List.mem_of_getElem? (i := 5) rfl)) (hw _ (List.mem_of_getElem? (i := 6) rfl)) (hw _ (List.mem_of_getElem? (i := 3) rfl)) (by decide) (own_m1 hw a598 a356 Z601 A603 ga600 F607 F608 ) (by decide) (by decide) (lenOf own_pd0 rfl) rfl (Nat.le_of_eq rfl) at_75 rfl rfl (by decide) (by decide) (fun v609 h610 hq611 => ?_)
        obtain ⟨rfl, K612, F613, F614, F615⟩ := hq611
        have Z617 : n0 ≤ h610.size := Nat.le_trans Z601 K612.1
        have F618 : own_AB Z h610 a356 3 g := own_A.keep F606 K612 (ninS ne605 nin0)
        have F619 : Exa Z h610 a598 "com/example/words_to_weights/wordstoweights/index/VarIntReader" := Exa.keep A603 K612
        show own_Run p_ l e_ _ s_ m_ _ b_ mt_ c_ n0 _ h610 _ _ (mkF m_ 78 #[.val (.int p0), .val (.int p1), .val (.int p2), .val (.int p3), .val (.int (3 : Int32)), .val (.ref a356), .unset, .unset, .unset] [(.ref a598)])
        refine own_astore C (pc' := 80) (Ls' := #[.val (.int p0), .val (.int p1), .val (.int p2), .val (.int p3), .val (.int (3 : Int32)), .val (.ref a356), .val (.ref a598), .unset, .unset]) at_78 rfl rfl rfl ?_
        refine own_aload C (pc' := 82) at_80 rfl rfl rfl ?_
        refine own_callV C (pc' := 85) (y := (⟨"com/example/words_to_weights/wordstoweights/index/VarIntReader", "atEnd", "()Z"⟩ : MethodName)) (a := a598) (argsL := []) (rest := []) 0 F613 (hw _ (List.mem_of_getElem? (i := 12) rfl)) (hw _ (List.mem_of_getElem? (i := 13) rfl)) (hw _ (List.mem_of_getElem? (i := 15) rfl)) (hw _ (List.mem_of_getElem? (i := 14) rfl)) (hw _ (List.mem_of_getElem? (i := 16) rfl)) (hw _ (List.mem_of_getElem? (i := 3) rfl)) (by decide) (own_m3 hw a598 a356 3 g (0 : Int32) (0 : Int32) Z617 F615 F614 F618 (by decide)) (by decide) (by decide) (lenOf own_pd1 rfl) rfl (Nat.le_of_eq rfl) at_82 rfl rfl (by decide) (by decide) (fun v620 h621 hq622 => ?_)
        obtain ⟨rfl, rfl⟩ := hq622
        show own_Run p_ l e_ _ s_ m_ _ b_ mt_ c_ n0 _ h610 _ _ (mkF m_ 85 #[.val (.int p0), .val (.int p1), .val (.int p2), .val (.int p3), .val (.int (3 : Int32)), .val (.ref a356), .val (.ref a598), .unset, .unset] [(.int (0 : Int32))])
        refine own_iload C (pc' := 87) at_85 rfl rfl ?_
        refine own_i0_ne C (pc1 := 94) (pc2 := 90) at_87 rfl rfl (fun c623 => ?_) (fun c623 => absurd c623 (by decide))
        refine own_iconst C (pc' := 95) (v := (0 : Int32)) at_94 rfl (by decide) ?_
        refine own_ii_ne C (pc1 := 102) (pc2 := 98) at_95 rfl rfl (fun c624 => absurd c624 (by decide)) (fun c624 => ?_)
        refine own_iconst C (pc' := 99) (v := (1 : Int32)) at_98 rfl (by decide) ?_
        refine own_goto C (pc' := 103) at_99 rfl ?_
        refine own_istore C (pc' := 105) (Ls' := #[.val (.int p0), .val (.int p1), .val (.int p2), .val (.int p3), .val (.int (3 : Int32)), .val (.ref a356), .val (.ref a598), .val (.int (1 : Int32)), .unset]) at_103 rfl rfl ?_
        refine own_iconst C (pc' := 106) (v := (0 : Int32)) at_105 rfl (by decide) ?_
        refine own_istore C (pc' := 108) (Ls' := #[.val (.int p0), .val (.int p1), .val (.int p2), .val (.int p3), .val (.int (3 : Int32)), .val (.ref a356), .val (.ref a598), .val (.int (1 : Int32)), .val (.int (0 : Int32))]) at_106 rfl rfl ?_
        refine own_iload C (pc' := 110) at_108 rfl rfl ?_
        refine own_iload C (pc' := 112) at_110 rfl rfl ?_
        refine own_ii_ge C (pc1 := 162) (pc2 := 115) at_112 rfl rfl (fun c625 => absurd c625 (by decide)) (fun c625 => ?_)
        refine own_aload C (pc' := 117) at_115 rfl rfl rfl ?_
        refine own_callV C (pc' := 120) (y := (⟨"com/example/words_to_weights/wordstoweights/index/VarIntReader", "read", "()I"⟩ : MethodName)) (a := a598) (argsL := []) (rest := []) 0 F613 (hw _ (List.mem_of_getElem? (i := 19) rfl)) (hw _ (List.mem_of_getElem? (i := 20) rfl)) (hw _ (List.mem_of_getElem? (i := 22) rfl)) (hw _ (List.mem_of_getElem? (i := 21) rfl)) (hw _ (List.mem_of_getElem? (i := 23) rfl)) (hw _ (List.mem_of_getElem? (i := 3) rfl)) (by decide) (own_read1 hw a598 a356 3 g (0 : Int32) 0 (1 : Int32) Z617 F613 ga600 (Ne.symm ne605) F614 F615 F618 (by decide) (by decide) s0 (by decide)) (by decide) (by decide) (lenOf own_pd2 rfl) rfl (Nat.le_of_eq rfl) at_117 rfl rfl (by decide) (by decide) (fun v626 h627 hq628 => ?_)
        obtain ⟨rfl, K629, F630, F631, F632⟩ := hq628
        have Z634 : n0 ≤ h627.size := Nat.le_trans Z617 K629.1
        have F635 : own_AB Z h627 a356 3 g := own_A.keep F618 K629 (ninS ne605 nin0)
        have F636 : Exa Z h627 a598 "com/example/words_to_weights/wordstoweights/index/VarIntReader" := Exa.keep F613 K629
        show own_Run p_ l e_ _ s_ m_ _ b_ mt_ c_ n0 _ h627 _ _ (mkF m_ 120 #[.val (.int p0), .val (.int p1), .val (.int p2), .val (.int p3), .val (.int (3 : Int32)), .val (.ref a356), .val (.ref a598), .val (.int (1 : Int32)), .val (.int (0 : Int32))] [(.int ((0 : Int32) ||| (((g 0) &&& (127 : Int32)) <<< ((0 : Int32) &&& 31))))])
        refine own_pop C (pc' := 121) at_120 rfl rfl ?_
        refine own_aload C (pc' := 123) at_121 rfl rfl rfl ?_
        refine own_iload C (pc' := 125) at_123 rfl rfl ?_
        refine own_callS C (pc' := 128) (y := (⟨"com/example/words_to_weights/wordstoweights/index/VarIntReaderAtEndPinLaw", "next", "([BI)I"⟩ : MethodName)) (argsL := [(.ref a356), (.int (0 : Int32))]) (rest := []) 0 (hw _ (List.mem_of_getElem? (i := 24) rfl)) (hw _ (List.mem_of_getElem? (i := 25) rfl)) (hw _ (List.mem_of_getElem? (i := 26) rfl)) (hw _ (List.mem_of_getElem? (i := 27) rfl)) (by decide) (own_next1 hw a356 3 g (0 : Int32) 0 (1 : Int32) Z634 F635 (by decide) (by decide) s0 (by decide)) (by decide) (by decide) (lenOf own_pd3 rfl) rfl (Nat.le_of_eq rfl) at_125 rfl rfl (by decide) (by decide) (fun v637 h638 hq639 => ?_)
        obtain ⟨rfl, rfl⟩ := hq639
        show own_Run p_ l e_ _ s_ m_ _ b_ mt_ c_ n0 _ h627 _ _ (mkF m_ 128 #[.val (.int p0), .val (.int p1), .val (.int p2), .val (.int p3), .val (.int (3 : Int32)), .val (.ref a356), .val (.ref a598), .val (.int (1 : Int32)), .val (.int (0 : Int32))] [(.int (1 : Int32))])
        refine own_istore C (pc' := 130) (Ls' := #[.val (.int p0), .val (.int p1), .val (.int p2), .val (.int p3), .val (.int (3 : Int32)), .val (.ref a356), .val (.ref a598), .val (.int (1 : Int32)), .val (.int (1 : Int32))]) at_128 rfl rfl ?_
        refine own_iload C (pc' := 132) at_130 rfl rfl ?_
        refine own_i0_eq C (pc1 := 159) (pc2 := 135) at_132 rfl rfl (fun c640 => absurd c640 (by decide)) (fun c640 => ?_)
        refine own_aload C (pc' := 137) at_135 rfl rfl rfl ?_
        refine own_callV C (pc' := 140) (y := (⟨"com/example/words_to_weights/wordstoweights/index/VarIntReader", "atEnd", "()Z"⟩ : MethodName)) (a := a598) (argsL := []) (rest := []) 0 F630 (hw _ (List.mem_of_getElem? (i := 12) rfl)) (hw _ (List.mem_of_getElem? (i := 13) rfl)) (hw _ (List.mem_of_getElem? (i := 15) rfl)) (hw _ (List.mem_of_getElem? (i := 14) rfl)) (hw _ (List.mem_of_getElem? (i := 16) rfl)) (hw _ (List.mem_of_getElem? (i := 3) rfl)) (by decide) (own_m3 hw a598 a356 3 g (1 : Int32) (0 : Int32) Z634 F632 F631 F635 (by decide)) (by decide) (by decide) (lenOf own_pd1 rfl) rfl (Nat.le_of_eq rfl) at_137 rfl rfl (by decide) (by decide) (fun v641 h642 hq643 => ?_)
        obtain ⟨rfl, rfl⟩ := hq643
        show own_Run p_ l e_ _ s_ m_ _ b_ mt_ c_ n0 _ h627 _ _ (mkF m_ 140 #[.val (.int p0), .val (.int p1), .val (.int p2), .val (.int p3), .val (.int (3 : Int32)), .val (.ref a356), .val (.ref a598), .val (.int (1 : Int32)), .val (.int (1 : Int32))] [(.int (0 : Int32))])
        refine own_iload C (pc' := 142) at_140 rfl rfl ?_
        refine own_iload C (pc' := 144) at_142 rfl rfl ?_
        refine own_ii_ne C (pc1 := 151) (pc2 := 147) at_144 rfl rfl (fun c644 => ?_) (fun c644 => absurd c644 (by decide))
        refine own_iconst C (pc' := 152) (v := (0 : Int32)) at_151 rfl (by decide) ?_
        refine own_ii_ne C (pc1 := 159) (pc2 := 155) at_152 rfl rfl (fun c645 => absurd c645 (by decide)) (fun c645 => ?_)
        refine own_iconst C (pc' := 156) (v := (1 : Int32)) at_155 rfl (by decide) ?_
        refine own_goto C (pc' := 160) at_156 rfl ?_
        refine own_istore C (pc' := 162) (Ls' := #[.val (.int p0), .val (.int p1), .val (.int p2), .val (.int p3), .val (.int (3 : Int32)), .val (.ref a356), .val (.ref a598), .val (.int (1 : Int32)), .val (.int (1 : Int32))]) at_160 rfl rfl ?_
        refine own_iload C (pc' := 164) at_162 rfl rfl ?_
        refine own_iload C (pc' := 166) at_164 rfl rfl ?_
        refine own_ii_ge C (pc1 := 216) (pc2 := 169) at_166 rfl rfl (fun c646 => absurd c646 (by decide)) (fun c646 => ?_)
        refine own_aload C (pc' := 171) at_169 rfl rfl rfl ?_
        refine own_callV C (pc' := 174) (y := (⟨"com/example/words_to_weights/wordstoweights/index/VarIntReader", "read", "()I"⟩ : MethodName)) (a := a598) (argsL := []) (rest := []) 0 F630 (hw _ (List.mem_of_getElem? (i := 19) rfl)) (hw _ (List.mem_of_getElem? (i := 20) rfl)) (hw _ (List.mem_of_getElem? (i := 22) rfl)) (hw _ (List.mem_of_getElem? (i := 21) rfl)) (hw _ (List.mem_of_getElem? (i := 23) rfl)) (hw _ (List.mem_of_getElem? (i := 3) rfl)) (by decide) (own_read1 hw a598 a356 3 g (1 : Int32) 1 (2 : Int32) Z634 F630 ga600 (Ne.symm ne605) F631 F632 F635 (by decide) (by decide) s1 (by decide)) (by decide) (by decide) (lenOf own_pd2 rfl) rfl (Nat.le_of_eq rfl) at_171 rfl rfl (by decide) (by decide) (fun v647 h648 hq649 => ?_)
        obtain ⟨rfl, K650, F651, F652, F653⟩ := hq649
        have Z655 : n0 ≤ h648.size := Nat.le_trans Z634 K650.1
        have F656 : own_AB Z h648 a356 3 g := own_A.keep F635 K650 (ninS ne605 nin0)
        have F657 : Exa Z h648 a598 "com/example/words_to_weights/wordstoweights/index/VarIntReader" := Exa.keep F630 K650
        show own_Run p_ l e_ _ s_ m_ _ b_ mt_ c_ n0 _ h648 _ _ (mkF m_ 174 #[.val (.int p0), .val (.int p1), .val (.int p2), .val (.int p3), .val (.int (3 : Int32)), .val (.ref a356), .val (.ref a598), .val (.int (1 : Int32)), .val (.int (1 : Int32))] [(.int ((0 : Int32) ||| (((g 1) &&& (127 : Int32)) <<< ((0 : Int32) &&& 31))))])
        refine own_pop C (pc' := 175) at_174 rfl rfl ?_
        refine own_aload C (pc' := 177) at_175 rfl rfl rfl ?_
        refine own_iload C (pc' := 179) at_177 rfl rfl ?_
        refine own_callS C (pc' := 182) (y := (⟨"com/example/words_to_weights/wordstoweights/index/VarIntReaderAtEndPinLaw", "next", "([BI)I"⟩ : MethodName)) (argsL := [(.ref a356), (.int (1 : Int32))]) (rest := []) 0 (hw _ (List.mem_of_getElem? (i := 24) rfl)) (hw _ (List.mem_of_getElem? (i := 25) rfl)) (hw _ (List.mem_of_getElem? (i := 26) rfl)) (hw _ (List.mem_of_getElem? (i := 27) rfl)) (by decide) (own_next1 hw a356 3 g (1 : Int32) 1 (2 : Int32) Z655 F656 (by decide) (by decide) s1 (by decide)) (by decide) (by decide) (lenOf own_pd3 rfl) rfl (Nat.le_of_eq rfl) at_179 rfl rfl (by decide) (by decide) (fun v658 h659 hq660 => ?_)
        obtain ⟨rfl, rfl⟩ := hq660
        show own_Run p_ l e_ _ s_ m_ _ b_ mt_ c_ n0 _ h648 _ _ (mkF m_ 182 #[.val (.int p0), .val (.int p1), .val (.int p2), .val (.int p3), .val (.int (3 : Int32)), .val (.ref a356), .val (.ref a598), .val (.int (1 : Int32)), .val (.int (1 : Int32))] [(.int (2 : Int32))])
        refine own_istore C (pc' := 184) (Ls' := #[.val (.int p0), .val (.int p1), .val (.int p2), .val (.int p3), .val (.int (3 : Int32)), .val (.ref a356), .val (.ref a598), .val (.int (1 : Int32)), .val (.int (2 : Int32))]) at_182 rfl rfl ?_
        refine own_iload C (pc' := 186) at_184 rfl rfl ?_
        refine own_i0_eq C (pc1 := 213) (pc2 := 189) at_186 rfl rfl (fun c661 => absurd c661 (by decide)) (fun c661 => ?_)
        refine own_aload C (pc' := 191) at_189 rfl rfl rfl ?_
        refine own_callV C (pc' := 194) (y := (⟨"com/example/words_to_weights/wordstoweights/index/VarIntReader", "atEnd", "()Z"⟩ : MethodName)) (a := a598) (argsL := []) (rest := []) 0 F651 (hw _ (List.mem_of_getElem? (i := 12) rfl)) (hw _ (List.mem_of_getElem? (i := 13) rfl)) (hw _ (List.mem_of_getElem? (i := 15) rfl)) (hw _ (List.mem_of_getElem? (i := 14) rfl)) (hw _ (List.mem_of_getElem? (i := 16) rfl)) (hw _ (List.mem_of_getElem? (i := 3) rfl)) (by decide) (own_m3 hw a598 a356 3 g (2 : Int32) (0 : Int32) Z655 F653 F652 F656 (by decide)) (by decide) (by decide) (lenOf own_pd1 rfl) rfl (Nat.le_of_eq rfl) at_191 rfl rfl (by decide) (by decide) (fun v662 h663 hq664 => ?_)
        obtain ⟨rfl, rfl⟩ := hq664
        show own_Run p_ l e_ _ s_ m_ _ b_ mt_ c_ n0 _ h648 _ _ (mkF m_ 194 #[.val (.int p0), .val (.int p1), .val (.int p2), .val (.int p3), .val (.int (3 : Int32)), .val (.ref a356), .val (.ref a598), .val (.int (1 : Int32)), .val (.int (2 : Int32))] [(.int (0 : Int32))])
        refine own_iload C (pc' := 196) at_194 rfl rfl ?_
        refine own_iload C (pc' := 198) at_196 rfl rfl ?_
        refine own_ii_ne C (pc1 := 205) (pc2 := 201) at_198 rfl rfl (fun c665 => ?_) (fun c665 => absurd c665 (by decide))
        refine own_iconst C (pc' := 206) (v := (0 : Int32)) at_205 rfl (by decide) ?_
        refine own_ii_ne C (pc1 := 213) (pc2 := 209) at_206 rfl rfl (fun c666 => absurd c666 (by decide)) (fun c666 => ?_)
        refine own_iconst C (pc' := 210) (v := (1 : Int32)) at_209 rfl (by decide) ?_
        refine own_goto C (pc' := 214) at_210 rfl ?_
        refine own_istore C (pc' := 216) (Ls' := #[.val (.int p0), .val (.int p1), .val (.int p2), .val (.int p3), .val (.int (3 : Int32)), .val (.ref a356), .val (.ref a598), .val (.int (1 : Int32)), .val (.int (2 : Int32))]) at_214 rfl rfl ?_
        refine own_iload C (pc' := 218) at_216 rfl rfl ?_
        refine own_iload C (pc' := 220) at_218 rfl rfl ?_
        refine own_ii_ge C (pc1 := 270) (pc2 := 223) at_220 rfl rfl (fun c667 => absurd c667 (by decide)) (fun c667 => ?_)
        refine own_aload C (pc' := 225) at_223 rfl rfl rfl ?_
        refine own_callV C (pc' := 228) (y := (⟨"com/example/words_to_weights/wordstoweights/index/VarIntReader", "read", "()I"⟩ : MethodName)) (a := a598) (argsL := []) (rest := []) 0 F651 (hw _ (List.mem_of_getElem? (i := 19) rfl)) (hw _ (List.mem_of_getElem? (i := 20) rfl)) (hw _ (List.mem_of_getElem? (i := 22) rfl)) (hw _ (List.mem_of_getElem? (i := 21) rfl)) (hw _ (List.mem_of_getElem? (i := 23) rfl)) (hw _ (List.mem_of_getElem? (i := 3) rfl)) (by decide) (own_read1 hw a598 a356 3 g (2 : Int32) 2 (3 : Int32) Z655 F651 ga600 (Ne.symm ne605) F652 F653 F656 (by decide) (by decide) s2 (by decide)) (by decide) (by decide) (lenOf own_pd2 rfl) rfl (Nat.le_of_eq rfl) at_225 rfl rfl (by decide) (by decide) (fun v668 h669 hq670 => ?_)
        obtain ⟨rfl, K671, F672, F673, F674⟩ := hq670
        have Z676 : n0 ≤ h669.size := Nat.le_trans Z655 K671.1
        have F677 : own_AB Z h669 a356 3 g := own_A.keep F656 K671 (ninS ne605 nin0)
        have F678 : Exa Z h669 a598 "com/example/words_to_weights/wordstoweights/index/VarIntReader" := Exa.keep F651 K671
        show own_Run p_ l e_ _ s_ m_ _ b_ mt_ c_ n0 _ h669 _ _ (mkF m_ 228 #[.val (.int p0), .val (.int p1), .val (.int p2), .val (.int p3), .val (.int (3 : Int32)), .val (.ref a356), .val (.ref a598), .val (.int (1 : Int32)), .val (.int (2 : Int32))] [(.int ((0 : Int32) ||| (((g 2) &&& (127 : Int32)) <<< ((0 : Int32) &&& 31))))])
        refine own_pop C (pc' := 229) at_228 rfl rfl ?_
        refine own_aload C (pc' := 231) at_229 rfl rfl rfl ?_
        refine own_iload C (pc' := 233) at_231 rfl rfl ?_
        refine own_callS C (pc' := 236) (y := (⟨"com/example/words_to_weights/wordstoweights/index/VarIntReaderAtEndPinLaw", "next", "([BI)I"⟩ : MethodName)) (argsL := [(.ref a356), (.int (2 : Int32))]) (rest := []) 0 (hw _ (List.mem_of_getElem? (i := 24) rfl)) (hw _ (List.mem_of_getElem? (i := 25) rfl)) (hw _ (List.mem_of_getElem? (i := 26) rfl)) (hw _ (List.mem_of_getElem? (i := 27) rfl)) (by decide) (own_next1 hw a356 3 g (2 : Int32) 2 (3 : Int32) Z676 F677 (by decide) (by decide) s2 (by decide)) (by decide) (by decide) (lenOf own_pd3 rfl) rfl (Nat.le_of_eq rfl) at_233 rfl rfl (by decide) (by decide) (fun v679 h680 hq681 => ?_)
        obtain ⟨rfl, rfl⟩ := hq681
        show own_Run p_ l e_ _ s_ m_ _ b_ mt_ c_ n0 _ h669 _ _ (mkF m_ 236 #[.val (.int p0), .val (.int p1), .val (.int p2), .val (.int p3), .val (.int (3 : Int32)), .val (.ref a356), .val (.ref a598), .val (.int (1 : Int32)), .val (.int (2 : Int32))] [(.int (3 : Int32))])
        refine own_istore C (pc' := 238) (Ls' := #[.val (.int p0), .val (.int p1), .val (.int p2), .val (.int p3), .val (.int (3 : Int32)), .val (.ref a356), .val (.ref a598), .val (.int (1 : Int32)), .val (.int (3 : Int32))]) at_236 rfl rfl ?_
        refine own_iload C (pc' := 240) at_238 rfl rfl ?_
        refine own_i0_eq C (pc1 := 267) (pc2 := 243) at_240 rfl rfl (fun c682 => absurd c682 (by decide)) (fun c682 => ?_)
        refine own_aload C (pc' := 245) at_243 rfl rfl rfl ?_
        refine own_callV C (pc' := 248) (y := (⟨"com/example/words_to_weights/wordstoweights/index/VarIntReader", "atEnd", "()Z"⟩ : MethodName)) (a := a598) (argsL := []) (rest := []) 0 F672 (hw _ (List.mem_of_getElem? (i := 12) rfl)) (hw _ (List.mem_of_getElem? (i := 13) rfl)) (hw _ (List.mem_of_getElem? (i := 15) rfl)) (hw _ (List.mem_of_getElem? (i := 14) rfl)) (hw _ (List.mem_of_getElem? (i := 16) rfl)) (hw _ (List.mem_of_getElem? (i := 3) rfl)) (by decide) (own_m3 hw a598 a356 3 g (3 : Int32) (1 : Int32) Z676 F674 F673 F677 (by decide)) (by decide) (by decide) (lenOf own_pd1 rfl) rfl (Nat.le_of_eq rfl) at_245 rfl rfl (by decide) (by decide) (fun v683 h684 hq685 => ?_)
        obtain ⟨rfl, rfl⟩ := hq685
        show own_Run p_ l e_ _ s_ m_ _ b_ mt_ c_ n0 _ h669 _ _ (mkF m_ 248 #[.val (.int p0), .val (.int p1), .val (.int p2), .val (.int p3), .val (.int (3 : Int32)), .val (.ref a356), .val (.ref a598), .val (.int (1 : Int32)), .val (.int (3 : Int32))] [(.int (1 : Int32))])
        refine own_iload C (pc' := 250) at_248 rfl rfl ?_
        refine own_iload C (pc' := 252) at_250 rfl rfl ?_
        refine own_ii_ne C (pc1 := 259) (pc2 := 255) at_252 rfl rfl (fun c686 => absurd c686 (by decide)) (fun c686 => ?_)
        refine own_iconst C (pc' := 256) (v := (1 : Int32)) at_255 rfl (by decide) ?_
        refine own_goto C (pc' := 260) at_256 rfl ?_
        refine own_ii_ne C (pc1 := 267) (pc2 := 263) at_260 rfl rfl (fun c687 => absurd c687 (by decide)) (fun c687 => ?_)
        refine own_iconst C (pc' := 264) (v := (1 : Int32)) at_263 rfl (by decide) ?_
        refine own_goto C (pc' := 268) at_264 rfl ?_
        refine own_istore C (pc' := 270) (Ls' := #[.val (.int p0), .val (.int p1), .val (.int p2), .val (.int p3), .val (.int (3 : Int32)), .val (.ref a356), .val (.ref a598), .val (.int (1 : Int32)), .val (.int (3 : Int32))]) at_268 rfl rfl ?_
        refine own_iload C (pc' := 272) at_270 rfl rfl ?_
        refine own_i0_eq C (pc1 := 294) (pc2 := 275) at_272 rfl rfl (fun c688 => absurd c688 (by decide)) (fun c688 => ?_)
        refine own_iload C (pc' := 277) at_275 rfl rfl ?_
        refine own_iload C (pc' := 279) at_277 rfl rfl ?_
        refine own_ii_ne C (pc1 := 294) (pc2 := 282) at_279 rfl rfl (fun c689 => absurd c689 (by decide)) (fun c689 => ?_)
        refine own_aload C (pc' := 284) at_282 rfl rfl rfl ?_
        refine own_callV C (pc' := 287) (y := (⟨"com/example/words_to_weights/wordstoweights/index/VarIntReader", "atEnd", "()Z"⟩ : MethodName)) (a := a598) (argsL := []) (rest := []) 0 F672 (hw _ (List.mem_of_getElem? (i := 12) rfl)) (hw _ (List.mem_of_getElem? (i := 13) rfl)) (hw _ (List.mem_of_getElem? (i := 15) rfl)) (hw _ (List.mem_of_getElem? (i := 14) rfl)) (hw _ (List.mem_of_getElem? (i := 16) rfl)) (hw _ (List.mem_of_getElem? (i := 3) rfl)) (by decide) (own_m3 hw a598 a356 3 g (3 : Int32) (1 : Int32) Z676 F674 F673 F677 (by decide)) (by decide) (by decide) (lenOf own_pd1 rfl) rfl (Nat.le_of_eq rfl) at_284 rfl rfl (by decide) (by decide) (fun v690 h691 hq692 => ?_)
        obtain ⟨rfl, rfl⟩ := hq692
        show own_Run p_ l e_ _ s_ m_ _ b_ mt_ c_ n0 _ h669 _ _ (mkF m_ 287 #[.val (.int p0), .val (.int p1), .val (.int p2), .val (.int p3), .val (.int (3 : Int32)), .val (.ref a356), .val (.ref a598), .val (.int (1 : Int32)), .val (.int (3 : Int32))] [(.int (1 : Int32))])
        refine own_i0_eq C (pc1 := 294) (pc2 := 290) at_287 rfl rfl (fun c693 => absurd c693 (by decide)) (fun c693 => ?_)
        refine own_iconst C (pc' := 291) (v := (1 : Int32)) at_290 rfl (by decide) ?_
        refine own_goto C (pc' := 295) at_291 rfl ?_
        refine own_istore C (pc' := 297) (Ls' := #[.val (.int p0), .val (.int p1), .val (.int p2), .val (.int p3), .val (.int (3 : Int32)), .val (.ref a356), .val (.ref a598), .val (.int (1 : Int32)), .val (.int (3 : Int32))]) at_295 rfl rfl ?_
        refine own_iload C (pc' := 299) at_297 rfl rfl ?_
        exact own_ret C (t := .boolean) rfl rfl (Or.inl ⟨rfl, by simp, _, rfl⟩) at_299 (by decide) (by decide) (rfl)
set_option maxRecDepth 65536 in
set_option maxHeartbeats 40000000 in
theorem own_comes {Post : Tables → Env → Array Value → State → Outcome → State → Prop} (hpost : ∀ tb e args s v u, (limb_1_1.after args s (.returned v) u = true ∧ limb_1_2.after args s (.returned v) u = true ∧ True) → FrameEnd s (.returned v) u (Jvm.fieldLocs frame_1_writes args s ++ Jvm.arrayLocs frame_1_arrays args s ++ Jvm.staticLocs frame_1_statics s) 16 128 → Post tb e args s (.returned v) u) :
    ArmFor flags0 classFile x code maxLocals ret World_1 tables_1 room_1 Calls_1 rest_1 Pre_1 Post := by
  intro l hfl _ _ p e ha hc hk s m args below hf hA hF happ hP
  obtain ⟨hcalls, hrest, hpre⟩ := hP
  obtain ⟨-, -, -, hnamed, -, -, -, hat⟩ := (Spec.applies_iff hf).mp happ
  obtain ⟨hg, hn⟩ := and_e (Cond.before_iff.mp (show (Jvm.Cond.and given_1 narrow_1).before args s = true from hpre))
  obtain ⟨g0, r0⟩ := and_e hg
  obtain ⟨q0, r1⟩ := and_e r0
  obtain ⟨q1, r2⟩ := and_e r1
  obtain ⟨q2, r3⟩ := and_e r2
  obtain ⟨w0, w1, w2, w3, rfl⟩ : ∃ w0 w1 w2 w3 : Value, args = #[w0, w1, w2, w3] := by
    have hs : args.size = 4 := by simpa [Cond.value, given_1] using g0
    obtain ⟨L⟩ := args
    match L, hs with
    | [w0, w1, w2, w3], _ => exact ⟨w0, w1, w2, w3, rfl⟩
  have hw := fun d (hd : d ∈ tables_1) => atoms_spec (ws := Jvm.Cond.code x code maxLocals ret :: tables_1) hat d (List.mem_cons_of_mem _ hd)
  obtain ⟨i0, ei0⟩ := is_v q0
  obtain rfl : w0 = (.int i0) := Option.some.inj ei0
  obtain ⟨i1, ei1⟩ := is_v q1
  obtain rfl : w1 = (.int i1) := Option.some.inj ei1
  obtain ⟨i2, ei2⟩ := is_v q2
  obtain rfl : w2 = (.int i2) := Option.some.inj ei2
  obtain ⟨i3, ei3⟩ := is_v r3
  obtain rfl : w3 = (.int i3) := Option.some.inj ei3
  obtain ⟨n, o, h1, h2, h3, _, L, rfl, ⟨N, rfl⟩, hq⟩ := own_law (l := l) (Z := s) hw (n0 := s.heap.size) (ws := tables_1) (h := s.heap) i0 i1 i2 i3 (Nat.le_refl _)  p e ha hc hk s m _ below hf ((Spec.applies_iff_loose hf).mp happ).1 ⟨rfl, State.Warmed39.refl s, rfl⟩ trivial
  refine ⟨n, _, h1, h2, h3, hpost _ _ _ _ _ _ ⟨Cond.after_iff.mpr rfl, Cond.after_iff.mpr (eq_i res_at (Term.int_eval (1)) rfl), trivial⟩ ⟨hq.1, hq.2.1, (hq.2.2.sift fun y hy => Or.inr (N y hy)).mono (by decide) (by decide)⟩⟩
theorem main_1_1 : Claimed_1_1 := own_comes fun _ _ _ _ _ _ h hF => ⟨h.1, hF⟩
theorem main_1_2 : Claimed_1_2 := own_comes fun _ _ _ _ _ _ h hF => ⟨h.2.1, hF⟩
end Jvm.Pilot.@@N@@
namespace Jvm.Pilot.@@N@@
open Jvm Jvm.ClassFile Sem Op Lib Jvm.Free Jvm.Stand Jvm.Pilot.@@N@@.Jvm.D
/-! MADE BY PROGRAM (witnessworld.py) out of the Statement's table words and the real class files: 9 classes; the members and pool entries that the words name. The judged class is class 1, her method 2. -/
namespace start1
open Jvm.ClassFile
def u (s : String) : CpInfo := .utf8 (stringToUtf16 s)
/-- a pool by its gaps: so many unusable entries, then the entry; so many at the end -/
def gap : Nat → List CpInfo → List CpInfo
  | 0, r => r
  | n + 1, r => .unusable :: gap n r
def poolList (es : List (Nat × CpInfo)) (last : Nat) : List CpInfo := es.foldr (fun e r => gap e.1 (e.2 :: r)) (gap last [])
def pool (es : List (Nat × CpInfo)) (last : Nat) : Array CpInfo := ⟨poolList es last⟩
def fileOf (pool : Array CpInfo) (this : Nat) (attrs : Array Attribute := #[]) (ms : Array MethodInfo := #[]) (fl : Nat := 33) (sup : Nat := 0) (ifs : Array Nat := #[]) (fds : Array FieldInfo := #[]) : ClassFile where
  minorVersion := 0
  majorVersion := 65
  constantPool := pool
  accessFlags := fl
  thisClass := this
  superClass := sup
  interfaces := ifs
  fields := fds
  methods := ms
  attributes := attrs
def plain (name : String) (sup : Option ClassId) : Class where
  name := name
  kind := .ordinary
  loader := none
  accessFlags := 33
  super := sup
  interfaces := #[]
  cf := none
  fields := #[]
  methods := #[]
  instanceTypes := #[]
  staticTypes := #[]
  resolved := #[]
  callSites := []
  init := .initialized
  statics := none
  mirror := none

def pool0 : Array CpInfo := pool [(5, u "<init>"), (0, u "()V"), (1, .class_ 10), (1, u "java/lang/Object")] 113

def k0c0 : Code := { maxStack := 0, maxLocals := 1, code := object_method_1_code, exceptionTable := #[], attributes := #[] }
def k0m0 : Method := { name := "<init>", desc := "()V", sig := { parameters := [], returnType := none }, accessFlags := 1, code := some k0c0 }
/-- java/lang/Object -/
def k0 : Class := { plain "java/lang/Object" none with
  accessFlags := 33
  interfaces := #[]
  cf := some (fileOf pool0 8 #[] #[{ accessFlags := 1, nameIndex := 5, descriptorIndex := 6, attributes := #[] }] 33 0 #[] #[])
  fields := #[]
  methods := #[k0m0]
  instanceTypes := #[]
  staticTypes := #[]
  resolved := Array.replicate 124 none
  statics := none }

def pool1 : Array CpInfo := pool [(2, .class_ 4), (1, u "java/lang/Object"), (0, u "<init>"), (0, u "()V"), (0, .class_ 8), (0, u "com/example/words_to_weights/wordstoweights/index/VarIntReader"), (0, .methodref 7 10), (0, .nameAndType 5 11), (0, u "([B)V"), (0, .methodref 7 13), (0, .nameAndType 14 15), (0, u "atEnd"), (0, u "()Z"), (0, .methodref 7 17), (0, .nameAndType 18 19), (0, u "read"), (0, u "()I"), (0, .methodref 21 22), (0, .class_ 23), (0, .nameAndType 24 25), (0, u "com/example/words_to_weights/wordstoweights/index/VarIntReaderAtEndPinLaw"), (0, u "next"), (0, u "([BI)I"), (3, u "law"), (0, u "(IIII)Z")] 4

def k1m0 : Method := { name := "<init>", desc := "()V", sig := { parameters := [], returnType := none }, accessFlags := 2, code := none }
def k1c1 : Code := { maxStack := 3, maxLocals := 2, code := method_2_code, exceptionTable := #[], attributes := #[] }
def k1m1 : Method := { name := "next", desc := "([BI)I", sig := { parameters := [(.array .byte), .int], returnType := some .int }, accessFlags := 10, code := some k1c1 }
def k1c2 : Code := { maxStack := 5, maxLocals := 9, code := code, exceptionTable := #[], attributes := #[] }
def k1m2 : Method := { name := "law", desc := "(IIII)Z", sig := { parameters := [.int, .int, .int, .int], returnType := some .boolean }, accessFlags := 9, code := some k1c2 }
/-- com/example/words_to_weights/wordstoweights/index/VarIntReaderAtEndPinLaw -/
def k1 : Class := { plain "com/example/words_to_weights/wordstoweights/index/VarIntReaderAtEndPinLaw" (some 0) with
  accessFlags := 49
  interfaces := #[]
  cf := some (fileOf pool1 21 #[] #[{ accessFlags := 2, nameIndex := 5, descriptorIndex := 6, attributes := #[] }, { accessFlags := 10, nameIndex := 24, descriptorIndex := 25, attributes := #[] }, { accessFlags := 9, nameIndex := 29, descriptorIndex := 30, attributes := #[] }] 49 2 #[] #[])
  fields := #[]
  methods := #[k1m0, k1m1, k1m2]
  instanceTypes := #[]
  staticTypes := #[]
  resolved := Array.replicate 35 none
  statics := none }

def pool2 : Array CpInfo := pool [(1, .methodref 2 3), (0, .class_ 4), (0, .nameAndType 5 6), (0, u "java/lang/Object"), (0, u "<init>"), (0, u "()V"), (0, .fieldref 8 9), (0, .class_ 10), (0, .nameAndType 11 12), (0, u "com/example/words_to_weights/wordstoweights/index/VarIntReader"), (0, u "bytes"), (0, u "[B"), (0, .fieldref 8 14), (0, .nameAndType 15 16), (0, u "position"), (0, u "I"), (0, u "([B)V"), (2, u "atEnd"), (0, u "()Z"), (1, u "read"), (0, u "()I")] 2

def k2c0 : Code := { maxStack := 2, maxLocals := 2, code := prog_17_method_1_code, exceptionTable := #[], attributes := #[] }
def k2m0 : Method := { name := "<init>", desc := "([B)V", sig := { parameters := [(.array .byte)], returnType := none }, accessFlags := 0, code := some k2c0 }
def k2c1 : Code := { maxStack := 2, maxLocals := 1, code := prog_17_method_2_code, exceptionTable := #[], attributes := #[] }
def k2m1 : Method := { name := "atEnd", desc := "()Z", sig := { parameters := [], returnType := some .boolean }, accessFlags := 0, code := some k2c1 }
def k2c2 : Code := { maxStack := 5, maxLocals := 4, code := prog_17_method_3_code, exceptionTable := #[], attributes := #[] }
def k2m2 : Method := { name := "read", desc := "()I", sig := { parameters := [], returnType := some .int }, accessFlags := 0, code := some k2c2 }
/-- com/example/words_to_weights/wordstoweights/index/VarIntReader -/
def k2 : Class := { plain "com/example/words_to_weights/wordstoweights/index/VarIntReader" (some 0) with
  accessFlags := 32
  interfaces := #[]
  cf := some (fileOf pool2 8 #[] #[{ accessFlags := 0, nameIndex := 5, descriptorIndex := 17, attributes := #[] }, { accessFlags := 0, nameIndex := 20, descriptorIndex := 21, attributes := #[] }, { accessFlags := 0, nameIndex := 23, descriptorIndex := 24, attributes := #[] }] 32 2 #[] #[{ accessFlags := 18, nameIndex := 11, descriptorIndex := 12, attributes := #[] }, { accessFlags := 2, nameIndex := 15, descriptorIndex := 16, attributes := #[] }])
  fields := #[{ name := "bytes", type := (.array .byte), accessFlags := 18, slot := 0, constantValue := 0 }, { name := "position", type := .int, accessFlags := 2, slot := 1, constantValue := 0 }]
  methods := #[k2m0, k2m1, k2m2]
  instanceTypes := #[(.array .byte), .int]
  staticTypes := #[]
  resolved := Array.replicate 27 none
  statics := none }

def pool3 : Array CpInfo := pool [(1, u "java/lang/Cloneable"), (0, .class_ 1), (0, u "java/lang/Object"), (0, .class_ 3)] 3

/-- java/lang/Cloneable -/
def k3 : Class := { plain "java/lang/Cloneable" (some 0) with
  accessFlags := 1537
  interfaces := #[]
  cf := some (fileOf pool3 2 #[] #[] 1537 4 #[] #[])
  fields := #[]
  methods := #[]
  instanceTypes := #[]
  staticTypes := #[]
  resolved := Array.replicate 8 none
  statics := none }

def pool4 : Array CpInfo := pool [(1, u "java/io/Serializable"), (0, .class_ 1), (0, u "java/lang/Object"), (0, .class_ 3)] 3

/-- java/io/Serializable -/
def k4 : Class := { plain "java/io/Serializable" (some 0) with
  accessFlags := 1537
  interfaces := #[]
  cf := some (fileOf pool4 2 #[] #[] 1537 4 #[] #[])
  fields := #[]
  methods := #[]
  instanceTypes := #[]
  staticTypes := #[]
  resolved := Array.replicate 8 none
  statics := none }

/-- the primitive byte -/
def k5 : Class := { plain "byte" none with kind := .primitive 'B', accessFlags := 0x411 }
/-- [B -/
def k6 : Class := { plain "[B" (some 0) with kind := .array 5 .byte, interfaces := #[3, 4], accessFlags := 1041 }

/-- the primitive int -/
def k7 : Class := { plain "int" none with kind := .primitive 'I', accessFlags := 0x411 }
/-- [I -/
def k8 : Class := { plain "[I" (some 0) with kind := .array 7 .int, interfaces := #[3, 4], accessFlags := 1041 }

def heap : Heap := #[]
def classes : Array Class := #[k0, k1, k2, k3, k4, k5, k6, k7, k8]
def interned : List (Array UInt16 × Addr) := []
def slotsUsed : Nat := 0
def theMethod : MethodId := ⟨1, 2⟩
def args0 : Array Value := #[.int 5, .int 7, .int 6, .int 3]
def aboutOver (below : List Frame) : State where
  vm := { classes := classes, interned := interned.toArray }
  heap := heap
  slotsUsed := slotsUsed
  threads := #[{ frames := .invoking theMethod args0 :: below }]
def below0 : List Frame := [.native { method := ⟨0, 0⟩, args := #[] }]
def about1 : State := aboutOver below0
def p0 : Program := .bare "" "" ""
def e0 : Env := launch0.env 0 0 0
theorem w_frames : about1.frames = Frame.invoking theMethod args0 :: below0 := rfl
set_option maxRecDepth 65536 in
theorem w_args : argsFit about1.vm theMethod args0 = true := by decide +kernel
set_option maxRecDepth 65536 in
theorem w_heap : heapFits about1 = true := by decide +kernel
set_option maxRecDepth 65536 in
theorem w_runnable : about1.curStatus? = some .runnable := by decide +kernel
set_option maxRecDepth 65536 in
theorem w_alone : about1.alone = true := by decide +kernel
set_option maxRecDepth 65536 in
theorem w_named : about1.methodNamed? x = some theMethod := by decide +kernel
set_option maxRecDepth 65536 in
theorem w_hears : about1.hears theMethod below0 = true := by decide +kernel
set_option maxRecDepth 65536 in
theorem w_ripe : about1.ripe theMethod args0 below0 = true := by decide +kernel
theorem w_running : about1.status = .running := rfl
set_option maxRecDepth 65536 in
theorem w_room : about1.hasRoom e0.platform room_1 = true :=
  launch0.hasRoom_least _ room_1 (by decide +kernel) (by decide +kernel) (by decide +kernel) (by decide +kernel) (by decide +kernel) (by decide +kernel)
theorem allAtoms_all (ts : List Jvm.Cond) (a : Array Jvm.Value) (st : Jvm.State) : (allAtoms ts).before a st = ts.all (fun c => c.before a st) := by
  induction ts with
  | nil => rfl
  | cons c t ih =>
    show (Jvm.Cond.and c (allAtoms t)).before a st = _
    rw [Jvm.Cond.before_and, ih, List.all_cons]
def words1 : List Jvm.Cond := Jvm.Cond.code x code maxLocals ret :: tables_1
/-- a 'code' word, met by the world's own term for the bytes: nothing is compared byte by byte -/
theorem code_word {y : MethodName} {bytes : ByteArray} {mx : Nat} {rt : Option FieldType} {a : Array Value} {s : State} {m : MethodId} {meth : Method} {c : Code} (h1 : s.methodNamed? y = some m) (h2 : s.vm.method? m = some meth) (h3 : meth.code = some c) (h4 : c.code = bytes)
    (h5 : (c.maxLocals == mx && c.exceptionTable.isEmpty && decide (c.maxStack ≤ mostOperands) && decide (meth.sig.returnType = rt) && !meth.locks && decide (parseMethodDescriptor y.desc = some meth.sig)) = true) : (Jvm.Cond.code y bytes mx rt).before a s = true := by
  simp only [Bool.and_eq_true, beq_iff_eq, Bool.not_eq_true', decide_eq_true_eq] at h5
  obtain ⟨⟨⟨⟨⟨g1, g2⟩, g3⟩, g4⟩, g5⟩, g6⟩ := h5
  simp [Cond.before, Cond.holds, Cond.value, h1, h2, h3, h4, g1, g2, g3, g4, g5, g6]
def isCode : Jvm.Cond → Bool
  | .code _ _ _ _ => true
  | _ => false
theorem all_split {L : List Jvm.Cond} {P : Jvm.Cond → Bool} (h1 : L.all (fun c => isCode c || P c) = true) (h2 : ∀ c ∈ L.filter isCode, P c = true) : L.all P = true := by
  refine List.all_eq_true.mpr fun c hc => ?_
  have h := List.all_eq_true.mp h1 c hc
  rcases Bool.eq_false_or_eq_true (isCode c) with hi | hi
  · exact h2 c (List.mem_filter.mpr ⟨hc, hi⟩)
  · simpa [hi] using h
set_option maxRecDepth 65536 in
theorem w_c0 : (Jvm.Cond.code x code maxLocals ret).before args0 about1 = true := code_word (m := ⟨1, 2⟩) (meth := k1m2) (c := k1c2) (by decide +kernel) rfl rfl rfl (by decide +kernel)
set_option maxRecDepth 65536 in
theorem w_c1 : (Jvm.Cond.code ({ cls := "com/example/words_to_weights/wordstoweights/index/VarIntReader", name := "<init>", desc := "([B)V" } : Jvm.MethodName) prog_17_method_1_code (2 : Nat) (Option.none : Option Jvm.ClassFile.FieldType)).before args0 about1 = true := code_word (m := ⟨2, 0⟩) (meth := k2m0) (c := k2c0) (by decide +kernel) rfl rfl rfl (by decide +kernel)
set_option maxRecDepth 65536 in
theorem w_c2 : (Jvm.Cond.code ({ cls := "java/lang/Object", name := "<init>", desc := "()V" } : Jvm.MethodName) object_method_1_code (1 : Nat) (Option.none : Option Jvm.ClassFile.FieldType)).before args0 about1 = true := code_word (m := ⟨0, 0⟩) (meth := k0m0) (c := k0c0) (by decide +kernel) rfl rfl rfl (by decide +kernel)
set_option maxRecDepth 65536 in
theorem w_c3 : (Jvm.Cond.code ({ cls := "com/example/words_to_weights/wordstoweights/index/VarIntReader", name := "atEnd", desc := "()Z" } : Jvm.MethodName) prog_17_method_2_code (1 : Nat) (Option.some Jvm.ClassFile.FieldType.boolean)).before args0 about1 = true := code_word (m := ⟨2, 1⟩) (meth := k2m1) (c := k2c1) (by decide +kernel) rfl rfl rfl (by decide +kernel)
set_option maxRecDepth 65536 in
theorem w_c4 : (Jvm.Cond.code ({ cls := "com/example/words_to_weights/wordstoweights/index/VarIntReader", name := "read", desc := "()I" } : Jvm.MethodName) prog_17_method_3_code (4 : Nat) (Option.some Jvm.ClassFile.FieldType.int)).before args0 about1 = true := code_word (m := ⟨2, 2⟩) (meth := k2m2) (c := k2c2) (by decide +kernel) rfl rfl rfl (by decide +kernel)
set_option maxRecDepth 65536 in
theorem w_c5 : (Jvm.Cond.code ({ cls := "com/example/words_to_weights/wordstoweights/index/VarIntReaderAtEndPinLaw", name := "next", desc := "([BI)I" } : Jvm.MethodName) method_2_code (2 : Nat) (Option.some Jvm.ClassFile.FieldType.int)).before args0 about1 = true := code_word (m := ⟨1, 1⟩) (meth := k1m1) (c := k1c1) (by decide +kernel) rfl rfl rfl (by decide +kernel)
def codes1 : List Jvm.Cond := [Jvm.Cond.code x code maxLocals ret, Jvm.Cond.code ({ cls := "com/example/words_to_weights/wordstoweights/index/VarIntReader", name := "<init>", desc := "([B)V" } : Jvm.MethodName) prog_17_method_1_code (2 : Nat) (Option.none : Option Jvm.ClassFile.FieldType), Jvm.Cond.code ({ cls := "java/lang/Object", name := "<init>", desc := "()V" } : Jvm.MethodName) object_method_1_code (1 : Nat) (Option.none : Option Jvm.ClassFile.FieldType), Jvm.Cond.code ({ cls := "com/example/words_to_weights/wordstoweights/index/VarIntReader", name := "atEnd", desc := "()Z" } : Jvm.MethodName) prog_17_method_2_code (1 : Nat) (Option.some Jvm.ClassFile.FieldType.boolean), Jvm.Cond.code ({ cls := "com/example/words_to_weights/wordstoweights/index/VarIntReader", name := "read", desc := "()I" } : Jvm.MethodName) prog_17_method_3_code (4 : Nat) (Option.some Jvm.ClassFile.FieldType.int), Jvm.Cond.code ({ cls := "com/example/words_to_weights/wordstoweights/index/VarIntReaderAtEndPinLaw", name := "next", desc := "([BI)I" } : Jvm.MethodName) method_2_code (2 : Nat) (Option.some Jvm.ClassFile.FieldType.int)]
set_option maxRecDepth 65536 in
theorem codes_eq : words1.filter isCode = codes1 := rfl
theorem w_codes : ∀ c ∈ words1.filter isCode, c.before args0 about1 = true := by
  rw [codes_eq]
  intro c hc
  simp only [codes1, List.mem_cons, List.not_mem_nil, or_false] at hc
  rcases hc with rfl | rfl | rfl | rfl | rfl | rfl
  · exact w_c0
  · exact w_c1
  · exact w_c2
  · exact w_c3
  · exact w_c4
  · exact w_c5
set_option maxRecDepth 65536 in
theorem w_t1 : (words1.take 24).all (fun c => isCode c || c.before args0 about1) = true := by decide +kernel
set_option maxRecDepth 65536 in
theorem w_t2 : (words1.drop 24).all (fun c => isCode c || c.before args0 about1) = true := by decide +kernel
theorem w_tables : (allAtoms (Jvm.Cond.code x code maxLocals ret :: tables_1)).before args0 about1 = true := by
  rw [allAtoms_all]
  show words1.all (fun c => c.before args0 about1) = true
  refine all_split ?_ w_codes
  rw [← List.take_append_drop 24 words1, List.all_append, w_t1, w_t2]
  rfl
set_option maxRecDepth 65536 in
theorem w_case : (Jvm.Cond.and given_1 narrow_1).before args0 about1 = true := by decide +kernel
theorem w_applies : (headSpec (Jvm.Cond.code x code maxLocals ret :: tables_1) room_1).applies x e0.platform about1 = true :=
  (Spec.applies_iff w_frames).mpr ⟨w_running, w_runnable, w_alone, w_named, w_hears, w_ripe, w_room, w_tables⟩
theorem atStart : AtStart classFile x code maxLocals ret World_1 tables_1 room_1 Calls_1 rest_1 Pre_1 launch0 p0 e0 about1 theMethod args0 below0 :=
  ⟨lists_1, trivial, launch0.admits_env _ _ _, launch0.least_env, fairChoices_fair.cas, fairChoices_fair.clock, w_frames, w_args, w_heap, w_applies, trivial, trivial, w_case⟩
end start1
theorem witness_1 : WitnessClaimed_1 := ⟨start1.p0, start1.e0, start1.about1, start1.theMethod, start1.args0, start1.below0, start1.atStart⟩
end Jvm.Pilot.@@N@@
