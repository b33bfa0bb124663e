import JvmDerived
import JvmDerived.Pilot.@@N@@Statement
import JvmDerived.Pilot.@@N@@Code
set_option linter.unusedVariables false
set_option linter.unusedSimpArgs false
namespace Jvm.Pilot.@@N@@
open Jvm Jvm.ClassFile Sem Op Lib Jvm.Free Jvm.Stand Jvm.LawKit Jvm.RoadKit Bundle Jvm.Pilot.@@N@@.Jvm.D
section Own
variable {p : Program} {l : Launch} {e : Env} {R : Room} {s : State} {m : MethodId} {args : Array Value} {below : List Frame} {meth : Method} {c : Code} {Z : State} {a0 : Array Value} {n0 : Nat} {Q : Option Value → Heap → Prop} {Kf : State → Outcome → Prop} {h : Heap} {k q : Nat} {own nm : String} {bytes : ByteArray} {maxL : Nat} {ret : Option FieldType} {pc pc' pc1 pc2 : Nat} {Ls Ls' : Array Slot} {rest : List Value}
/-- how a run of the body ends: it returns, nothing old is written, and Q holds of what is returned and of the heap -/
def own_K (below : List Frame) (R : Room) (s : State) (n0 : Nat) (Q : Option Value → Heap → Prop) (t : State) (o : Outcome) : Prop :=
  t.status = .running ∧ Ended t below o ∧ ∃ v L, o = .returned v ∧ (Fr n0 L ∧ Q v t.heap) ∧ FrameEnd s o t L R.cells R.slots
/-- from the frame g, with the heap h, k cells and q slots made so far: the run ends as own_K says -/
def own_Run (p : Program) (l : Launch) (e : Env) (R : Room) (s : State) (m : MethodId) (args : Array Value) (below : List Frame) (meth : Method) (c : Code) (n0 : Nat) (Kf : State → Outcome → Prop) (h : Heap) (k q : Nat) (g : JFrame) : Prop :=
  ∀ (T : State) (locs : List Loc), Stand p l e R s m args below meth c T locs k q → T.heap = h → Fr n0 locs → ∃ t o, Steps p.tables e below (T.setTop g) t ∧ Kf t o
/-- what stands fast through a body -/
def own_Ctx (p : Program) (s : State) (m : MethodId) (meth : Method) (c : Code) (Z : State) (own nm : String) (bytes : ByteArray) (maxL : Nat) (ret : Option FieldType) : Prop :=
  p.tables.exec = Jvm.exec ∧ Z.Warmed39 s.vm ∧ s.vm.findClass own = some m.cls ∧ c.code = bytes ∧ c.maxLocals = maxL ∧ meth.sig.returnType = ret ∧ meth.locks = false ∧ meth.name = nm
theorem own_Ctx.g_x (C : own_Ctx p s m meth c Z own nm bytes maxL ret) : p.tables.exec = Jvm.exec := C.1
theorem own_Ctx.g_z (C : own_Ctx p s m meth c Z own nm bytes maxL ret) : Z.Warmed39 s.vm := C.2.1
theorem own_Ctx.g_own (C : own_Ctx p s m meth c Z own nm bytes maxL ret) : s.vm.findClass own = some m.cls := C.2.2.1
theorem own_Ctx.g_by (C : own_Ctx p s m meth c Z own nm bytes maxL ret) : c.code = bytes := C.2.2.2.1
theorem own_Ctx.g_ml (C : own_Ctx p s m meth c Z own nm bytes maxL ret) : c.maxLocals = maxL := C.2.2.2.2.1
theorem own_Ctx.g_rt (C : own_Ctx p s m meth c Z own nm bytes maxL ret) : meth.sig.returnType = ret := C.2.2.2.2.2.1
theorem own_Ctx.g_lk (C : own_Ctx p s m meth c Z own nm bytes maxL ret) : meth.locks = false := C.2.2.2.2.2.2.1
theorem own_Ctx.g_nm (C : own_Ctx p s m meth c Z own nm bytes maxL ret) : meth.name = nm := C.2.2.2.2.2.2.2
/-- a method's contract: called with these arguments at the heap h, it returns as Q says -/
def own_Met (l : Launch) (Z : State) (n0 : Nat) (y : MethodName) (bytes : ByteArray) (maxL : Nat) (ret : Option FieldType) (rm : Room) (ws : List Jvm.Cond) (as' : Array Value) (h : Heap) (Q : Option Value → Heap → Prop) : Prop :=
  MetFree l y (head1 (Jvm.Cond.code y bytes maxL ret :: ws) rm) (fun a U => a = as' ∧ Z.Warmed39 U.vm ∧ U.heap = h) (fun _ _ _ _ _ => True) (fun _ U o U' => ∃ v L, o = .returned v ∧ (Fr n0 L ∧ Q v U'.heap) ∧ FrameEnd U o U' L rm.cells rm.slots)
theorem own_met {y : MethodName} {rm : Room} {ws : List Jvm.Cond} {as' : Array Value} (hn : plainName y.cls = true) (Ls : Array Slot) (hef : ∀ m : MethodId, entryFrame m as' maxL = mkF m 0 Ls [])
    (body : ∀ (p : Program) (e : Env) (s : State) (m : MethodId) (below : List Frame) (meth : Method) (c : Code), own_Ctx p s m meth c Z y.cls y.name bytes maxL ret → own_Run p l e rm s m as' below meth c n0 (own_K below rm s n0 Q) h 0 0 (mkF m 0 Ls [])) :
    own_Met l Z n0 y bytes maxL ret rm ws as' h Q := by
  refine MetFree.of_bodySF (plainFor_of_name hn) hisR ?_
  intro p e s m args below meth c s₁ Bd hml0 hP hK
  obtain ⟨rfl, hZ, hh⟩ := hP
  have C : own_Ctx p s m meth c Z y.cls y.name bytes maxL ret := ⟨Bd.exec, hZ, findClass_of_methodNamed Bd.named, Bd.bytes, hml0, Bd.returns, BodyLoose.notSynchronized Bd, (name_of_methodNamed Bd.named Bd.method).1⟩
  obtain ⟨t, o, h1, h2, h3, h4⟩ := body p e s m below meth c C s₁ [] (Stand.of_body Bd) (by rw [← hh, Bd.state]; rfl) (Fr.nil n0)
  exact ⟨t, o, castTop (hef m) h1, h2, h3, h4⟩
theorem own_st {g g' : JFrame} (h1 : ∀ (T : State) (locs : List Loc), Stand p l e R s m args below meth c T locs k q → T.heap = h → ∀ target, Steps p.tables e below (T.setTop g') target → Steps p.tables e below (T.setTop g) target) (r : own_Run p l e R s m args below meth c n0 Kf h k q g') : own_Run p l e R s m args below meth c n0 Kf h k q g := fun T locs X eT N => by
  obtain ⟨t, o, h2, h3⟩ := r T locs X eT N
  exact ⟨t, o, h1 T locs X eT t h2, h3⟩
theorem own_more {k' q' : Nat} {g : JFrame} (hk : k ≤ k') (hq : q ≤ q') (r : own_Run p l e R s m args below meth c n0 Kf h k' q' g) : own_Run p l e R s m args below meth c n0 Kf h k q g := fun T locs X eT N => r T locs (X.more hk hq) eT N
theorem own_iloadN (C : own_Ctx p s m meth c Z own nm bytes maxL ret) {i : Fin 4} {v : Int32} (hd : decode bytes pc = .ok (.iload_n i, 1)) (hp : pc + 1 = pc') (hl : Ls[i.val]? = some (.val (.int v))) (r : own_Run p l e R s m args below meth c n0 Kf h k q (mkF m pc' Ls (.int v :: rest))) : own_Run p l e R s m args below meth c n0 Kf h k q (mkF m pc Ls (rest)) :=
  own_st (fun T locs X eT t kk => by subst hp; exact Jvm.Free.XS.iloadN X.here C.g_x rfl (hb C.g_by hd) hl kk) r
theorem own_iload (C : own_Ctx p s m meth c Z own nm bytes maxL ret) {i : Nat} {v : Int32} (hd : decode bytes pc = .ok (.iload i, 2)) (hp : pc + 2 = pc') (hl : Ls[i]? = some (.val (.int v))) (r : own_Run p l e R s m args below meth c n0 Kf h k q (mkF m pc' Ls (.int v :: rest))) : own_Run p l e R s m args below meth c n0 Kf h k q (mkF m pc Ls (rest)) :=
  own_st (fun T locs X eT t kk => by subst hp; exact Jvm.Free.XS.iload X.here C.g_x rfl (hb C.g_by hd) hl kk) r
theorem own_lloadN (C : own_Ctx p s m meth c Z own nm bytes maxL ret) {i : Fin 4} {v : Int64} (hd : decode bytes pc = .ok (.lload_n i, 1)) (hp : pc + 1 = pc') (hl : Ls[i.val]? = some (.val (.long v))) (r : own_Run p l e R s m args below meth c n0 Kf h k q (mkF m pc' Ls (.long v :: rest))) : own_Run p l e R s m args below meth c n0 Kf h k q (mkF m pc Ls (rest)) :=
  own_st (fun T locs X eT t kk => by subst hp; exact Jvm.Free.XT.lloadN X.here C.g_x rfl (hb C.g_by hd) hl kk) r
theorem own_lload (C : own_Ctx p s m meth c Z own nm bytes maxL ret) {i : Nat} {v : Int64} (hd : decode bytes pc = .ok (.lload i, 2)) (hp : pc + 2 = pc') (hl : Ls[i]? = some (.val (.long v))) (r : own_Run p l e R s m args below meth c n0 Kf h k q (mkF m pc' Ls (.long v :: rest))) : own_Run p l e R s m args below meth c n0 Kf h k q (mkF m pc Ls (rest)) :=
  own_st (fun T locs X eT t kk => by subst hp; exact Jvm.Free.XT.lload X.here C.g_x rfl (hb C.g_by hd) hl kk) r
theorem own_aloadN (C : own_Ctx p s m meth c Z own nm bytes maxL ret) {i : Fin 4} {v : Value} (hd : decode bytes pc = .ok (.aload_n i, 1)) (hp : pc + 1 = pc') (hl : Ls[i.val]? = some (.val v)) (hv : v.isRef = true) (r : own_Run p l e R s m args below meth c n0 Kf h k q (mkF m pc' Ls (v :: rest))) : own_Run p l e R s m args below meth c n0 Kf h k q (mkF m pc Ls (rest)) :=
  own_st (fun T locs X eT t kk => by subst hp; exact Jvm.Free.XS.aloadN X.here C.g_x rfl (hb C.g_by hd) hl hv kk) r
theorem own_aload (C : own_Ctx p s m meth c Z own nm bytes maxL ret) {i : Nat} {v : Value} (hd : decode bytes pc = .ok (.aload i, 2)) (hp : pc + 2 = pc') (hl : Ls[i]? = some (.val v)) (hv : v.isRef = true) (r : own_Run p l e R s m args below meth c n0 Kf h k q (mkF m pc' Ls (v :: rest))) : own_Run p l e R s m args below meth c n0 Kf h k q (mkF m pc Ls (rest)) :=
  own_st (fun T locs X eT t kk => by subst hp; exact Jvm.Free.XS.aload X.here C.g_x rfl (hb C.g_by hd) hl hv kk) r
theorem own_istoreN (C : own_Ctx p s m meth c Z own nm bytes maxL ret) {i : Fin 4} {v : Int32} (hd : decode bytes pc = .ok (.istore_n i, 1)) (hp : pc + 1 = pc') (hl : storeLocals Ls i.val (.int v) = some Ls') (r : own_Run p l e R s m args below meth c n0 Kf h k q (mkF m pc' Ls' (rest))) : own_Run p l e R s m args below meth c n0 Kf h k q (mkF m pc Ls (.int v :: rest)) :=
  own_st (fun T locs X eT t kk => by subst hp; exact Jvm.Free.XS.istoreN X.here C.g_x rfl (hb C.g_by hd) rfl hl kk) r
theorem own_istore (C : own_Ctx p s m meth c Z own nm bytes maxL ret) {i : Nat} {v : Int32} (hd : decode bytes pc = .ok (.istore i, 2)) (hp : pc + 2 = pc') (hl : storeLocals Ls i (.int v) = some Ls') (r : own_Run p l e R s m args below meth c n0 Kf h k q (mkF m pc' Ls' (rest))) : own_Run p l e R s m args below meth c n0 Kf h k q (mkF m pc Ls (.int v :: rest)) :=
  own_st (fun T locs X eT t kk => by subst hp; exact Jvm.Free.XS.istore X.here C.g_x rfl (hb C.g_by hd) rfl hl kk) r
theorem own_lstoreN (C : own_Ctx p s m meth c Z own nm bytes maxL ret) {i : Fin 4} {v : Int64} (hd : decode bytes pc = .ok (.lstore_n i, 1)) (hp : pc + 1 = pc') (hl : storeLocals Ls i.val (.long v) = some Ls') (r : own_Run p l e R s m args below meth c n0 Kf h k q (mkF m pc' Ls' (rest))) : own_Run p l e R s m args below meth c n0 Kf h k q (mkF m pc Ls (.long v :: rest)) :=
  own_st (fun T locs X eT t kk => by subst hp; exact Jvm.Free.XT.lstoreN X.here C.g_x rfl (hb C.g_by hd) rfl hl kk) r
theorem own_lstore (C : own_Ctx p s m meth c Z own nm bytes maxL ret) {i : Nat} {v : Int64} (hd : decode bytes pc = .ok (.lstore i, 2)) (hp : pc + 2 = pc') (hl : storeLocals Ls i (.long v) = some Ls') (r : own_Run p l e R s m args below meth c n0 Kf h k q (mkF m pc' Ls' (rest))) : own_Run p l e R s m args below meth c n0 Kf h k q (mkF m pc Ls (.long v :: rest)) :=
  own_st (fun T locs X eT t kk => by subst hp; exact Jvm.Free.XT.lstore X.here C.g_x rfl (hb C.g_by hd) rfl hl kk) r
theorem own_astoreN (C : own_Ctx p s m meth c Z own nm bytes maxL ret) {i : Fin 4} {v : Value} (hd : decode bytes pc = .ok (.astore_n i, 1)) (hp : pc + 1 = pc') (hv : v.isRef = true) (hl : storeLocals Ls i.val v = some Ls') (r : own_Run p l e R s m args below meth c n0 Kf h k q (mkF m pc' Ls' (rest))) : own_Run p l e R s m args below meth c n0 Kf h k q (mkF m pc Ls (v :: rest)) :=
  own_st (fun T locs X eT t kk => by subst hp; exact Jvm.Free.XS.astoreN X.here C.g_x rfl (hb C.g_by hd) rfl hv hl kk) r
theorem own_astore (C : own_Ctx p s m meth c Z own nm bytes maxL ret) {i : Nat} {v : Value} (hd : decode bytes pc = .ok (.astore i, 2)) (hp : pc + 2 = pc') (hv : v.isRef = true) (hl : storeLocals Ls i v = some Ls') (r : own_Run p l e R s m args below meth c n0 Kf h k q (mkF m pc' Ls' (rest))) : own_Run p l e R s m args below meth c n0 Kf h k q (mkF m pc Ls (v :: rest)) :=
  own_st (fun T locs X eT t kk => by subst hp; exact Jvm.Free.XS.astore X.here C.g_x rfl (hb C.g_by hd) rfl hv hl kk) r
theorem own_iinc (C : own_Ctx p s m meth c Z own nm bytes maxL ret) {i : Nat} {cst : Int} {v w : Int32} (hd : decode bytes pc = .ok (.iinc i cst, 3)) (hp : pc + 3 = pc') (hv : Int32.ofInt cst = w) (hl : Ls[i]? = some (.val (.int v))) (hl' : storeLocals Ls i (.int (v + w)) = some Ls') (r : own_Run p l e R s m args below meth c n0 Kf h k q (mkF m pc' Ls' (rest))) : own_Run p l e R s m args below meth c n0 Kf h k q (mkF m pc Ls (rest)) :=
  own_st (fun T locs X eT t kk => by subst hp; exact Jvm.Free.XT.iincV X.here C.g_x rfl w (hb C.g_by hd) hv hl hl' kk) r
theorem own_iincV (C : own_Ctx p s m meth c Z own nm bytes maxL ret) {i : Nat} {cst : Int} {v w x : Int32} (hd : decode bytes pc = .ok (.iinc i cst, 3)) (hp : pc + 3 = pc') (hv : Int32.ofInt cst = w) (hs : v + w = x) (hl : Ls[i]? = some (.val (.int v))) (hl' : storeLocals Ls i (.int x) = some Ls') (r : own_Run p l e R s m args below meth c n0 Kf h k q (mkF m pc' Ls' (rest))) : own_Run p l e R s m args below meth c n0 Kf h k q (mkF m pc Ls (rest)) :=
  own_st (fun T locs X eT t kk => by subst hp; exact Jvm.Free.XT.iincV X.here C.g_x rfl w (hb C.g_by hd) hv hl (by rw [hs]; exact hl') kk) r
theorem own_iconst (C : own_Ctx p s m meth c Z own nm bytes maxL ret) {i : Int} {v : Int32} (hd : decode bytes pc = .ok (.iconst i, 1)) (hp : pc + 1 = pc') (hv : Int32.ofInt i = v) (r : own_Run p l e R s m args below meth c n0 Kf h k q (mkF m pc' Ls (.int v :: rest))) : own_Run p l e R s m args below meth c n0 Kf h k q (mkF m pc Ls (rest)) :=
  own_st (fun T locs X eT t kk => by subst hp; exact Jvm.Free.XT.iconstV X.here C.g_x rfl v (hb C.g_by hd) hv kk) r
theorem own_bipush (C : own_Ctx p s m meth c Z own nm bytes maxL ret) {i : Int} {v : Int32} (hd : decode bytes pc = .ok (.bipush i, 2)) (hp : pc + 2 = pc') (hv : (Int8.ofInt i).toInt32 = v) (r : own_Run p l e R s m args below meth c n0 Kf h k q (mkF m pc' Ls (.int v :: rest))) : own_Run p l e R s m args below meth c n0 Kf h k q (mkF m pc Ls (rest)) :=
  own_st (fun T locs X eT t kk => by subst hp; exact Jvm.Free.XT.bipushV X.here C.g_x rfl v (hb C.g_by hd) hv kk) r
theorem own_sipush (C : own_Ctx p s m meth c Z own nm bytes maxL ret) {i : Int} {v : Int32} (hd : decode bytes pc = .ok (.sipush i, 3)) (hp : pc + 3 = pc') (hv : (Int16.ofInt i).toInt32 = v) (r : own_Run p l e R s m args below meth c n0 Kf h k q (mkF m pc' Ls (.int v :: rest))) : own_Run p l e R s m args below meth c n0 Kf h k q (mkF m pc Ls (rest)) :=
  own_st (fun T locs X eT t kk => by subst hp; exact Jvm.Free.XT.sipushV X.here C.g_x rfl v (hb C.g_by hd) hv kk) r
theorem own_lconst (C : own_Ctx p s m meth c Z own nm bytes maxL ret) {i : Fin 2} {v : Int64} (hd : decode bytes pc = .ok (.lconst i, 1)) (hp : pc + 1 = pc') (hv : Int64.ofNat i = v) (r : own_Run p l e R s m args below meth c n0 Kf h k q (mkF m pc' Ls (.long v :: rest))) : own_Run p l e R s m args below meth c n0 Kf h k q (mkF m pc Ls (rest)) :=
  own_st (fun T locs X eT t kk => by subst hp; exact Jvm.Free.XT.lconstV X.here C.g_x rfl v (hb C.g_by hd) hv kk) r
theorem own_aconst (C : own_Ctx p s m meth c Z own nm bytes maxL ret)  (hd : decode bytes pc = .ok (.aconst_null, 1)) (hp : pc + 1 = pc')  (r : own_Run p l e R s m args below meth c n0 Kf h k q (mkF m pc' Ls (.null :: rest))) : own_Run p l e R s m args below meth c n0 Kf h k q (mkF m pc Ls (rest)) :=
  own_st (fun T locs X eT t kk => by subst hp; exact Jvm.Free.XS.aconstNull X.here C.g_x rfl (hb C.g_by hd) kk) r
theorem own_ldc (C : own_Ctx p s m meth c Z own nm bytes maxL ret) {i : Nat} {v : Int32} (hd : decode bytes pc = .ok (.ldc i, 2)) (hp : pc + 2 = pc') (hc : (Jvm.Cond.constant own i v).before a0 Z = true) (r : own_Run p l e R s m args below meth c n0 Kf h k q (mkF m pc' Ls (.int v :: rest))) : own_Run p l e R s m args below meth c n0 Kf h k q (mkF m pc Ls (rest)) :=
  own_st (fun T locs X eT t kk => by subst hp; exact X.ldcI C.g_x C.g_own (mvT C.g_z hc) rfl (hb C.g_by hd) kk) r
theorem own_ldc2 (C : own_Ctx p s m meth c Z own nm bytes maxL ret) {i : Nat} {v : Int64} (hd : decode bytes pc = .ok (.ldc2_w i, 3)) (hp : pc + 3 = pc') (hc : (Jvm.Cond.constantLong own i v).before a0 Z = true) (r : own_Run p l e R s m args below meth c n0 Kf h k q (mkF m pc' Ls (.long v :: rest))) : own_Run p l e R s m args below meth c n0 Kf h k q (mkF m pc Ls (rest)) :=
  own_st (fun T locs X eT t kk => by subst hp; exact X.ldc2J C.g_x C.g_own (mvT C.g_z hc) rfl (hb C.g_by hd) kk) r
theorem own_dup (C : own_Ctx p s m meth c Z own nm bytes maxL ret) {v : Value} (hd : decode bytes pc = .ok (.dup, 1)) (hp : pc + 1 = pc') (hc : v.category = 1) (r : own_Run p l e R s m args below meth c n0 Kf h k q (mkF m pc' Ls (v :: v :: rest))) : own_Run p l e R s m args below meth c n0 Kf h k q (mkF m pc Ls (v :: rest)) :=
  own_st (fun T locs X eT t kk => by subst hp; exact Jvm.Free.XS.dup X.here C.g_x rfl (hb C.g_by hd) rfl hc kk) r
theorem own_pop (C : own_Ctx p s m meth c Z own nm bytes maxL ret) {v : Value} (hd : decode bytes pc = .ok (.pop, 1)) (hp : pc + 1 = pc') (hc : v.category = 1) (r : own_Run p l e R s m args below meth c n0 Kf h k q (mkF m pc' Ls (rest))) : own_Run p l e R s m args below meth c n0 Kf h k q (mkF m pc Ls (v :: rest)) :=
  own_st (fun T locs X eT t kk => by subst hp; exact Jvm.Free.XT.pop X.here C.g_x rfl (hb C.g_by hd) rfl hc kk) r
theorem own_dupX1 (C : own_Ctx p s m meth c Z own nm bytes maxL ret) {v w : Value} (hd : decode bytes pc = .ok (.dup_x1, 1)) (hp : pc + 1 = pc') (hc : v.category = 1) (hc' : w.category = 1) (r : own_Run p l e R s m args below meth c n0 Kf h k q (mkF m pc' Ls (v :: w :: v :: rest))) : own_Run p l e R s m args below meth c n0 Kf h k q (mkF m pc Ls (v :: w :: rest)) :=
  own_st (fun T locs X eT t kk => by subst hp; exact Jvm.Free.XT.dupX1 X.here C.g_x rfl (hb C.g_by hd) rfl hc hc' kk) r
theorem own_dup2 (C : own_Ctx p s m meth c Z own nm bytes maxL ret) {v w : Value} (hd : decode bytes pc = .ok (.dup2, 1)) (hp : pc + 1 = pc') (hc : v.category = 1) (hc' : w.category = 1) (r : own_Run p l e R s m args below meth c n0 Kf h k q (mkF m pc' Ls (v :: w :: v :: w :: rest))) : own_Run p l e R s m args below meth c n0 Kf h k q (mkF m pc Ls (v :: w :: rest)) :=
  own_st (fun T locs X eT t kk => by subst hp; exact Jvm.Free.XT.dup2 X.here C.g_x rfl (hb C.g_by hd) rfl hc hc' kk) r
theorem own_iadd (C : own_Ctx p s m meth c Z own nm bytes maxL ret) {x y : Int32} (hd : decode bytes pc = .ok (.iadd, 1)) (hp : pc + 1 = pc')  (r : own_Run p l e R s m args below meth c n0 Kf h k q (mkF m pc' Ls (.int (x + y) :: rest))) : own_Run p l e R s m args below meth c n0 Kf h k q (mkF m pc Ls (.int y :: .int x :: rest)) :=
  own_st (fun T locs X eT t kk => by subst hp; exact Jvm.Free.XS.iadd X.here C.g_x rfl (hb C.g_by hd) rfl kk) r
theorem own_isub (C : own_Ctx p s m meth c Z own nm bytes maxL ret) {x y : Int32} (hd : decode bytes pc = .ok (.isub, 1)) (hp : pc + 1 = pc')  (r : own_Run p l e R s m args below meth c n0 Kf h k q (mkF m pc' Ls (.int (x - y) :: rest))) : own_Run p l e R s m args below meth c n0 Kf h k q (mkF m pc Ls (.int y :: .int x :: rest)) :=
  own_st (fun T locs X eT t kk => by subst hp; exact Jvm.Free.XS.isub X.here C.g_x rfl (hb C.g_by hd) rfl kk) r
theorem own_iand (C : own_Ctx p s m meth c Z own nm bytes maxL ret) {x y : Int32} (hd : decode bytes pc = .ok (.iand, 1)) (hp : pc + 1 = pc')  (r : own_Run p l e R s m args below meth c n0 Kf h k q (mkF m pc' Ls (.int (x &&& y) :: rest))) : own_Run p l e R s m args below meth c n0 Kf h k q (mkF m pc Ls (.int y :: .int x :: rest)) :=
  own_st (fun T locs X eT t kk => by subst hp; exact Jvm.Free.XS.iand X.here C.g_x rfl (hb C.g_by hd) rfl kk) r
theorem own_imul (C : own_Ctx p s m meth c Z own nm bytes maxL ret) {x y : Int32} (hd : decode bytes pc = .ok (.imul, 1)) (hp : pc + 1 = pc')  (r : own_Run p l e R s m args below meth c n0 Kf h k q (mkF m pc' Ls (.int (x * y) :: rest))) : own_Run p l e R s m args below meth c n0 Kf h k q (mkF m pc Ls (.int y :: .int x :: rest)) :=
  own_st (fun T locs X eT t kk => by subst hp; exact Jvm.Free.XS.imul X.here C.g_x rfl (hb C.g_by hd) rfl kk) r
theorem own_ior (C : own_Ctx p s m meth c Z own nm bytes maxL ret) {x y : Int32} (hd : decode bytes pc = .ok (.ior, 1)) (hp : pc + 1 = pc')  (r : own_Run p l e R s m args below meth c n0 Kf h k q (mkF m pc' Ls (.int (x ||| y) :: rest))) : own_Run p l e R s m args below meth c n0 Kf h k q (mkF m pc Ls (.int y :: .int x :: rest)) :=
  own_st (fun T locs X eT t kk => by subst hp; exact Jvm.Free.XT.ior X.here C.g_x rfl (hb C.g_by hd) rfl kk) r
theorem own_ixor (C : own_Ctx p s m meth c Z own nm bytes maxL ret) {x y : Int32} (hd : decode bytes pc = .ok (.ixor, 1)) (hp : pc + 1 = pc')  (r : own_Run p l e R s m args below meth c n0 Kf h k q (mkF m pc' Ls (.int (x ^^^ y) :: rest))) : own_Run p l e R s m args below meth c n0 Kf h k q (mkF m pc Ls (.int y :: .int x :: rest)) :=
  own_st (fun T locs X eT t kk => by subst hp; exact Jvm.Free.XT.ixor X.here C.g_x rfl (hb C.g_by hd) rfl kk) r
theorem own_ishl (C : own_Ctx p s m meth c Z own nm bytes maxL ret) {x y : Int32} (hd : decode bytes pc = .ok (.ishl, 1)) (hp : pc + 1 = pc')  (r : own_Run p l e R s m args below meth c n0 Kf h k q (mkF m pc' Ls (.int (x <<< (y &&& 31)) :: rest))) : own_Run p l e R s m args below meth c n0 Kf h k q (mkF m pc Ls (.int y :: .int x :: rest)) :=
  own_st (fun T locs X eT t kk => by subst hp; exact Jvm.Free.XT.ishl X.here C.g_x rfl (hb C.g_by hd) rfl kk) r
theorem own_ishr (C : own_Ctx p s m meth c Z own nm bytes maxL ret) {x y : Int32} (hd : decode bytes pc = .ok (.ishr, 1)) (hp : pc + 1 = pc')  (r : own_Run p l e R s m args below meth c n0 Kf h k q (mkF m pc' Ls (.int (x >>> (y &&& 31)) :: rest))) : own_Run p l e R s m args below meth c n0 Kf h k q (mkF m pc Ls (.int y :: .int x :: rest)) :=
  own_st (fun T locs X eT t kk => by subst hp; exact Jvm.Free.XT.ishr X.here C.g_x rfl (hb C.g_by hd) rfl kk) r
theorem own_iushr (C : own_Ctx p s m meth c Z own nm bytes maxL ret) {x y : Int32} (hd : decode bytes pc = .ok (.iushr, 1)) (hp : pc + 1 = pc')  (r : own_Run p l e R s m args below meth c n0 Kf h k q (mkF m pc' Ls (.int (Jvm.Free.XT.ushr x y) :: rest))) : own_Run p l e R s m args below meth c n0 Kf h k q (mkF m pc Ls (.int y :: .int x :: rest)) :=
  own_st (fun T locs X eT t kk => by subst hp; exact Jvm.Free.XT.iushr X.here C.g_x rfl (hb C.g_by hd) rfl kk) r
theorem own_irem (C : own_Ctx p s m meth c Z own nm bytes maxL ret) {x y : Int32} (hd : decode bytes pc = .ok (.irem, 1)) (hp : pc + 1 = pc') (hy : y ≠ 0) (r : own_Run p l e R s m args below meth c n0 Kf h k q (mkF m pc' Ls (.int (x % y) :: rest))) : own_Run p l e R s m args below meth c n0 Kf h k q (mkF m pc Ls (.int y :: .int x :: rest)) :=
  own_st (fun T locs X eT t kk => by subst hp; exact iremM X C.g_x rfl (hb C.g_by hd) rfl hy kk) r
theorem own_idivV (C : own_Ctx p s m meth c Z own nm bytes maxL ret) {x y v : Int32} (hd : decode bytes pc = .ok (.idiv, 1)) (hp : pc + 1 = pc') (hy : y ≠ 0) (hv : x / y = v) (r : own_Run p l e R s m args below meth c n0 Kf h k q (mkF m pc' Ls (.int v :: rest))) : own_Run p l e R s m args below meth c n0 Kf h k q (mkF m pc Ls (.int y :: .int x :: rest)) :=
  own_st (fun T locs X eT t kk => by subst hp; exact Jvm.Free.XS.idiv X.here C.g_x rfl (hb C.g_by hd) rfl hy (by rw [hv]; exact kk)) r
theorem own_ineg (C : own_Ctx p s m meth c Z own nm bytes maxL ret) {x : Int32} (hd : decode bytes pc = .ok (.ineg, 1)) (hp : pc + 1 = pc')  (r : own_Run p l e R s m args below meth c n0 Kf h k q (mkF m pc' Ls (.int (-x) :: rest))) : own_Run p l e R s m args below meth c n0 Kf h k q (mkF m pc Ls (.int x :: rest)) :=
  own_st (fun T locs X eT t kk => by subst hp; exact Jvm.Free.XS.ineg X.here C.g_x rfl (hb C.g_by hd) rfl kk) r
theorem own_ladd (C : own_Ctx p s m meth c Z own nm bytes maxL ret) {x y : Int64} (hd : decode bytes pc = .ok (.ladd, 1)) (hp : pc + 1 = pc')  (r : own_Run p l e R s m args below meth c n0 Kf h k q (mkF m pc' Ls (.long (x + y) :: rest))) : own_Run p l e R s m args below meth c n0 Kf h k q (mkF m pc Ls (.long y :: .long x :: rest)) :=
  own_st (fun T locs X eT t kk => by subst hp; exact Jvm.Free.XT.ladd X.here C.g_x rfl (hb C.g_by hd) rfl kk) r
theorem own_lsub (C : own_Ctx p s m meth c Z own nm bytes maxL ret) {x y : Int64} (hd : decode bytes pc = .ok (.lsub, 1)) (hp : pc + 1 = pc')  (r : own_Run p l e R s m args below meth c n0 Kf h k q (mkF m pc' Ls (.long (x - y) :: rest))) : own_Run p l e R s m args below meth c n0 Kf h k q (mkF m pc Ls (.long y :: .long x :: rest)) :=
  own_st (fun T locs X eT t kk => by subst hp; exact Jvm.Free.XT.lsub X.here C.g_x rfl (hb C.g_by hd) rfl kk) r
theorem own_land (C : own_Ctx p s m meth c Z own nm bytes maxL ret) {x y : Int64} (hd : decode bytes pc = .ok (.land, 1)) (hp : pc + 1 = pc')  (r : own_Run p l e R s m args below meth c n0 Kf h k q (mkF m pc' Ls (.long (x &&& y) :: rest))) : own_Run p l e R s m args below meth c n0 Kf h k q (mkF m pc Ls (.long y :: .long x :: rest)) :=
  own_st (fun T locs X eT t kk => by subst hp; exact Jvm.Free.XT.land X.here C.g_x rfl (hb C.g_by hd) rfl kk) r
theorem own_lor (C : own_Ctx p s m meth c Z own nm bytes maxL ret) {x y : Int64} (hd : decode bytes pc = .ok (.lor, 1)) (hp : pc + 1 = pc')  (r : own_Run p l e R s m args below meth c n0 Kf h k q (mkF m pc' Ls (.long (x ||| y) :: rest))) : own_Run p l e R s m args below meth c n0 Kf h k q (mkF m pc Ls (.long y :: .long x :: rest)) :=
  own_st (fun T locs X eT t kk => by subst hp; exact Jvm.Free.XT.lor X.here C.g_x rfl (hb C.g_by hd) rfl kk) r
theorem own_lxor (C : own_Ctx p s m meth c Z own nm bytes maxL ret) {x y : Int64} (hd : decode bytes pc = .ok (.lxor, 1)) (hp : pc + 1 = pc')  (r : own_Run p l e R s m args below meth c n0 Kf h k q (mkF m pc' Ls (.long (x ^^^ y) :: rest))) : own_Run p l e R s m args below meth c n0 Kf h k q (mkF m pc Ls (.long y :: .long x :: rest)) :=
  own_st (fun T locs X eT t kk => by subst hp; exact Jvm.Free.XT.lxor X.here C.g_x rfl (hb C.g_by hd) rfl kk) r
theorem own_lmul (C : own_Ctx p s m meth c Z own nm bytes maxL ret) {x y : Int64} (hd : decode bytes pc = .ok (.lmul, 1)) (hp : pc + 1 = pc')  (r : own_Run p l e R s m args below meth c n0 Kf h k q (mkF m pc' Ls (.long (x * y) :: rest))) : own_Run p l e R s m args below meth c n0 Kf h k q (mkF m pc Ls (.long y :: .long x :: rest)) :=
  own_st (fun T locs X eT t kk => by subst hp; exact Jvm.Free.XT.lmul X.here C.g_x rfl (hb C.g_by hd) rfl kk) r
theorem own_lcmp (C : own_Ctx p s m meth c Z own nm bytes maxL ret) {x y : Int64} (hd : decode bytes pc = .ok (.lcmp, 1)) (hp : pc + 1 = pc')  (r : own_Run p l e R s m args below meth c n0 Kf h k q (mkF m pc' Ls (.int (Jvm.Free.XT.cmpL x y) :: rest))) : own_Run p l e R s m args below meth c n0 Kf h k q (mkF m pc Ls (.long y :: .long x :: rest)) :=
  own_st (fun T locs X eT t kk => by subst hp; exact Jvm.Free.XT.lcmp X.here C.g_x rfl (hb C.g_by hd) rfl kk) r
theorem own_lshl (C : own_Ctx p s m meth c Z own nm bytes maxL ret) {x : Int64} {y : Int32} (hd : decode bytes pc = .ok (.lshl, 1)) (hp : pc + 1 = pc')  (r : own_Run p l e R s m args below meth c n0 Kf h k q (mkF m pc' Ls (.long (x <<< (y.toInt64 &&& 63)) :: rest))) : own_Run p l e R s m args below meth c n0 Kf h k q (mkF m pc Ls (.int y :: .long x :: rest)) :=
  own_st (fun T locs X eT t kk => by subst hp; exact Jvm.Free.XT.lshl X.here C.g_x rfl (hb C.g_by hd) rfl kk) r
theorem own_i2l (C : own_Ctx p s m meth c Z own nm bytes maxL ret) {x : Int32} (hd : decode bytes pc = .ok (.i2l, 1)) (hp : pc + 1 = pc')  (r : own_Run p l e R s m args below meth c n0 Kf h k q (mkF m pc' Ls (.long (x.toInt64) :: rest))) : own_Run p l e R s m args below meth c n0 Kf h k q (mkF m pc Ls (.int x :: rest)) :=
  own_st (fun T locs X eT t kk => by subst hp; exact Jvm.Free.XT.i2l X.here C.g_x rfl (hb C.g_by hd) rfl kk) r
theorem own_l2i (C : own_Ctx p s m meth c Z own nm bytes maxL ret) {x : Int64} (hd : decode bytes pc = .ok (.l2i, 1)) (hp : pc + 1 = pc')  (r : own_Run p l e R s m args below meth c n0 Kf h k q (mkF m pc' Ls (.int (x.toInt32) :: rest))) : own_Run p l e R s m args below meth c n0 Kf h k q (mkF m pc Ls (.long x :: rest)) :=
  own_st (fun T locs X eT t kk => by subst hp; exact Jvm.Free.XT.l2i X.here C.g_x rfl (hb C.g_by hd) rfl kk) r
theorem own_i2b (C : own_Ctx p s m meth c Z own nm bytes maxL ret) {x : Int32} (hd : decode bytes pc = .ok (.i2b, 1)) (hp : pc + 1 = pc')  (r : own_Run p l e R s m args below meth c n0 Kf h k q (mkF m pc' Ls (.int (x.toInt8.toInt32) :: rest))) : own_Run p l e R s m args below meth c n0 Kf h k q (mkF m pc Ls (.int x :: rest)) :=
  own_st (fun T locs X eT t kk => by subst hp; exact Jvm.Free.XT.i2b X.here C.g_x rfl (hb C.g_by hd) rfl kk) r
theorem own_i2c (C : own_Ctx p s m meth c Z own nm bytes maxL ret) {x : Int32} (hd : decode bytes pc = .ok (.i2c, 1)) (hp : pc + 1 = pc')  (r : own_Run p l e R s m args below meth c n0 Kf h k q (mkF m pc' Ls (.int (x.toUInt32.toUInt16.toUInt32.toInt32) :: rest))) : own_Run p l e R s m args below meth c n0 Kf h k q (mkF m pc Ls (.int x :: rest)) :=
  own_st (fun T locs X eT t kk => by subst hp; exact Jvm.Free.XT.i2c X.here C.g_x rfl (hb C.g_by hd) rfl kk) r
theorem own_iaddV (C : own_Ctx p s m meth c Z own nm bytes maxL ret) {x y v : Int32} (hd : decode bytes pc = .ok (.iadd, 1)) (hp : pc + 1 = pc') (hv : x + y = v) (r : own_Run p l e R s m args below meth c n0 Kf h k q (mkF m pc' Ls (.int v :: rest))) : own_Run p l e R s m args below meth c n0 Kf h k q (mkF m pc Ls (.int y :: .int x :: rest)) :=
  own_st (fun T locs X eT t kk => by subst hp; exact Jvm.Free.XS.iadd X.here C.g_x rfl (hb C.g_by hd) rfl (by rw [hv]; exact kk)) r
theorem own_isubV (C : own_Ctx p s m meth c Z own nm bytes maxL ret) {x y v : Int32} (hd : decode bytes pc = .ok (.isub, 1)) (hp : pc + 1 = pc') (hv : x - y = v) (r : own_Run p l e R s m args below meth c n0 Kf h k q (mkF m pc' Ls (.int v :: rest))) : own_Run p l e R s m args below meth c n0 Kf h k q (mkF m pc Ls (.int y :: .int x :: rest)) :=
  own_st (fun T locs X eT t kk => by subst hp; exact Jvm.Free.XS.isub X.here C.g_x rfl (hb C.g_by hd) rfl (by rw [hv]; exact kk)) r
theorem own_imulV (C : own_Ctx p s m meth c Z own nm bytes maxL ret) {x y v : Int32} (hd : decode bytes pc = .ok (.imul, 1)) (hp : pc + 1 = pc') (hv : x * y = v) (r : own_Run p l e R s m args below meth c n0 Kf h k q (mkF m pc' Ls (.int v :: rest))) : own_Run p l e R s m args below meth c n0 Kf h k q (mkF m pc Ls (.int y :: .int x :: rest)) :=
  own_st (fun T locs X eT t kk => by subst hp; exact Jvm.Free.XS.imul X.here C.g_x rfl (hb C.g_by hd) rfl (by rw [hv]; exact kk)) r
theorem own_iandV (C : own_Ctx p s m meth c Z own nm bytes maxL ret) {x y v : Int32} (hd : decode bytes pc = .ok (.iand, 1)) (hp : pc + 1 = pc') (hv : x &&& y = v) (r : own_Run p l e R s m args below meth c n0 Kf h k q (mkF m pc' Ls (.int v :: rest))) : own_Run p l e R s m args below meth c n0 Kf h k q (mkF m pc Ls (.int y :: .int x :: rest)) :=
  own_st (fun T locs X eT t kk => by subst hp; exact Jvm.Free.XS.iand X.here C.g_x rfl (hb C.g_by hd) rfl (by rw [hv]; exact kk)) r
theorem own_goto (C : own_Ctx p s m meth c Z own nm bytes maxL ret) {o : Int} {st : List Value} (hd : decode bytes pc = .ok (.goto o, 3)) (ho : (pc : Int) + o = (pc' : Int)) (r : own_Run p l e R s m args below meth c n0 Kf h k q (mkF m pc' Ls st)) : own_Run p l e R s m args below meth c n0 Kf h k q (mkF m pc Ls st) :=
  own_st (fun T locs X eT t kk => Jvm.Free.XS.goto X.here C.g_x rfl (pc0 := pc) (pc' := pc') rfl (hb C.g_by hd) (by omega) (by omega) kk) r
theorem own_ii_eq (C : own_Ctx p s m meth c Z own nm bytes maxL ret) {o : Int} {x y : Int32} (hd : decode bytes pc = .ok (.if_icmp .eq o, 3)) (ho : (pc : Int) + o = (pc1 : Int)) (hp : pc + 3 = pc2) (r1 : x = y → own_Run p l e R s m args below meth c n0 Kf h k q (mkF m pc1 Ls rest)) (r2 : ¬ x = y → own_Run p l e R s m args below meth c n0 Kf h k q (mkF m pc2 Ls rest)) : own_Run p l e R s m args below meth c n0 Kf h k q (mkF m pc Ls (.int y :: .int x :: rest)) := by
  by_cases hc : x = y
  · exact own_st (fun T locs X eT t kk => Jvm.Free.XS.icmpYes X.here C.g_x rfl (pc0 := pc) (pc' := pc1) rfl (hb C.g_by hd) rfl (Jvm.Free.XT.ii_eq_t hc) (by omega) (by omega) kk) (r1 hc)
  · subst hp; exact own_st (fun T locs X eT t kk => Jvm.Free.XS.icmpNo X.here C.g_x rfl (hb C.g_by hd) rfl (Jvm.Free.XT.ii_eq_f hc) kk) (r2 hc)
theorem own_i0_eq (C : own_Ctx p s m meth c Z own nm bytes maxL ret) {o : Int} {x : Int32} (hd : decode bytes pc = .ok (.ifCond .eq o, 3)) (ho : (pc : Int) + o = (pc1 : Int)) (hp : pc + 3 = pc2) (r1 : x = 0 → own_Run p l e R s m args below meth c n0 Kf h k q (mkF m pc1 Ls rest)) (r2 : ¬ x = 0 → own_Run p l e R s m args below meth c n0 Kf h k q (mkF m pc2 Ls rest)) : own_Run p l e R s m args below meth c n0 Kf h k q (mkF m pc Ls (.int x :: rest)) := by
  by_cases hc : x = 0
  · exact own_st (fun T locs X eT t kk => Jvm.Free.XS.ifYes X.here C.g_x rfl (pc0 := pc) (pc' := pc1) rfl (hb C.g_by hd) rfl (Jvm.Free.XT.i0_eq_t hc) (by omega) (by omega) kk) (r1 hc)
  · subst hp; exact own_st (fun T locs X eT t kk => Jvm.Free.XS.ifNo X.here C.g_x rfl (hb C.g_by hd) rfl (Jvm.Free.XT.i0_eq_f hc) kk) (r2 hc)
theorem own_ll_eq (C : own_Ctx p s m meth c Z own nm bytes maxL ret) {o : Int} {x y : Int64} (hd : decode bytes pc = .ok (.ifCond .eq o, 3)) (ho : (pc : Int) + o = (pc1 : Int)) (hp : pc + 3 = pc2) (r1 : x = y → own_Run p l e R s m args below meth c n0 Kf h k q (mkF m pc1 Ls rest)) (r2 : ¬ x = y → own_Run p l e R s m args below meth c n0 Kf h k q (mkF m pc2 Ls rest)) : own_Run p l e R s m args below meth c n0 Kf h k q (mkF m pc Ls (.int (Jvm.Free.XT.cmpL x y) :: rest)) := by
  by_cases hc : x = y
  · exact own_st (fun T locs X eT t kk => Jvm.Free.XS.ifYes X.here C.g_x rfl (pc0 := pc) (pc' := pc1) rfl (hb C.g_by hd) rfl (Jvm.Free.XT.ll_eq_t hc) (by omega) (by omega) kk) (r1 hc)
  · subst hp; exact own_st (fun T locs X eT t kk => Jvm.Free.XS.ifNo X.here C.g_x rfl (hb C.g_by hd) rfl (Jvm.Free.XT.ll_eq_f hc) kk) (r2 hc)
theorem own_ii_ne (C : own_Ctx p s m meth c Z own nm bytes maxL ret) {o : Int} {x y : Int32} (hd : decode bytes pc = .ok (.if_icmp .ne o, 3)) (ho : (pc : Int) + o = (pc1 : Int)) (hp : pc + 3 = pc2) (r1 : ¬ x = y → own_Run p l e R s m args below meth c n0 Kf h k q (mkF m pc1 Ls rest)) (r2 : x = y → own_Run p l e R s m args below meth c n0 Kf h k q (mkF m pc2 Ls rest)) : own_Run p l e R s m args below meth c n0 Kf h k q (mkF m pc Ls (.int y :: .int x :: rest)) := by
  by_cases hc : x = y
  · subst hp; exact own_st (fun T locs X eT t kk => Jvm.Free.XS.icmpNo X.here C.g_x rfl (hb C.g_by hd) rfl (Jvm.Free.XT.ii_ne_f hc) kk) (r2 hc)
  · exact own_st (fun T locs X eT t kk => Jvm.Free.XS.icmpYes X.here C.g_x rfl (pc0 := pc) (pc' := pc1) rfl (hb C.g_by hd) rfl (Jvm.Free.XT.ii_ne_t hc) (by omega) (by omega) kk) (r1 hc)
theorem own_i0_ne (C : own_Ctx p s m meth c Z own nm bytes maxL ret) {o : Int} {x : Int32} (hd : decode bytes pc = .ok (.ifCond .ne o, 3)) (ho : (pc : Int) + o = (pc1 : Int)) (hp : pc + 3 = pc2) (r1 : ¬ x = 0 → own_Run p l e R s m args below meth c n0 Kf h k q (mkF m pc1 Ls rest)) (r2 : x = 0 → own_Run p l e R s m args below meth c n0 Kf h k q (mkF m pc2 Ls rest)) : own_Run p l e R s m args below meth c n0 Kf h k q (mkF m pc Ls (.int x :: rest)) := by
  by_cases hc : x = 0
  · subst hp; exact own_st (fun T locs X eT t kk => Jvm.Free.XS.ifNo X.here C.g_x rfl (hb C.g_by hd) rfl (Jvm.Free.XT.i0_ne_f hc) kk) (r2 hc)
  · exact own_st (fun T locs X eT t kk => Jvm.Free.XS.ifYes X.here C.g_x rfl (pc0 := pc) (pc' := pc1) rfl (hb C.g_by hd) rfl (Jvm.Free.XT.i0_ne_t hc) (by omega) (by omega) kk) (r1 hc)
theorem own_ll_ne (C : own_Ctx p s m meth c Z own nm bytes maxL ret) {o : Int} {x y : Int64} (hd : decode bytes pc = .ok (.ifCond .ne o, 3)) (ho : (pc : Int) + o = (pc1 : Int)) (hp : pc + 3 = pc2) (r1 : ¬ x = y → own_Run p l e R s m args below meth c n0 Kf h k q (mkF m pc1 Ls rest)) (r2 : x = y → own_Run p l e R s m args below meth c n0 Kf h k q (mkF m pc2 Ls rest)) : own_Run p l e R s m args below meth c n0 Kf h k q (mkF m pc Ls (.int (Jvm.Free.XT.cmpL x y) :: rest)) := by
  by_cases hc : x = y
  · subst hp; exact own_st (fun T locs X eT t kk => Jvm.Free.XS.ifNo X.here C.g_x rfl (hb C.g_by hd) rfl (Jvm.Free.XT.ll_ne_f hc) kk) (r2 hc)
  · exact own_st (fun T locs X eT t kk => Jvm.Free.XS.ifYes X.here C.g_x rfl (pc0 := pc) (pc' := pc1) rfl (hb C.g_by hd) rfl (Jvm.Free.XT.ll_ne_t hc) (by omega) (by omega) kk) (r1 hc)
theorem own_ii_lt (C : own_Ctx p s m meth c Z own nm bytes maxL ret) {o : Int} {x y : Int32} (hd : decode bytes pc = .ok (.if_icmp .lt o, 3)) (ho : (pc : Int) + o = (pc1 : Int)) (hp : pc + 3 = pc2) (r1 : x < y → own_Run p l e R s m args below meth c n0 Kf h k q (mkF m pc1 Ls rest)) (r2 : ¬ x < y → own_Run p l e R s m args below meth c n0 Kf h k q (mkF m pc2 Ls rest)) : own_Run p l e R s m args below meth c n0 Kf h k q (mkF m pc Ls (.int y :: .int x :: rest)) := by
  by_cases hc : x < y
  · exact own_st (fun T locs X eT t kk => Jvm.Free.XS.icmpYes X.here C.g_x rfl (pc0 := pc) (pc' := pc1) rfl (hb C.g_by hd) rfl (Jvm.Free.XT.ii_lt_t hc) (by omega) (by omega) kk) (r1 hc)
  · subst hp; exact own_st (fun T locs X eT t kk => Jvm.Free.XS.icmpNo X.here C.g_x rfl (hb C.g_by hd) rfl (Jvm.Free.XT.ii_lt_f hc) kk) (r2 hc)
theorem own_i0_lt (C : own_Ctx p s m meth c Z own nm bytes maxL ret) {o : Int} {x : Int32} (hd : decode bytes pc = .ok (.ifCond .lt o, 3)) (ho : (pc : Int) + o = (pc1 : Int)) (hp : pc + 3 = pc2) (r1 : x < 0 → own_Run p l e R s m args below meth c n0 Kf h k q (mkF m pc1 Ls rest)) (r2 : ¬ x < 0 → own_Run p l e R s m args below meth c n0 Kf h k q (mkF m pc2 Ls rest)) : own_Run p l e R s m args below meth c n0 Kf h k q (mkF m pc Ls (.int x :: rest)) := by
  by_cases hc : x < 0
  · exact own_st (fun T locs X eT t kk => Jvm.Free.XS.ifYes X.here C.g_x rfl (pc0 := pc) (pc' := pc1) rfl (hb C.g_by hd) rfl (Jvm.Free.XT.i0_lt_t hc) (by omega) (by omega) kk) (r1 hc)
  · subst hp; exact own_st (fun T locs X eT t kk => Jvm.Free.XS.ifNo X.here C.g_x rfl (hb C.g_by hd) rfl (Jvm.Free.XT.i0_lt_f hc) kk) (r2 hc)
theorem own_ll_lt (C : own_Ctx p s m meth c Z own nm bytes maxL ret) {o : Int} {x y : Int64} (hd : decode bytes pc = .ok (.ifCond .lt o, 3)) (ho : (pc : Int) + o = (pc1 : Int)) (hp : pc + 3 = pc2) (r1 : x < y → own_Run p l e R s m args below meth c n0 Kf h k q (mkF m pc1 Ls rest)) (r2 : ¬ x < y → own_Run p l e R s m args below meth c n0 Kf h k q (mkF m pc2 Ls rest)) : own_Run p l e R s m args below meth c n0 Kf h k q (mkF m pc Ls (.int (Jvm.Free.XT.cmpL x y) :: rest)) := by
  by_cases hc : x < y
  · exact own_st (fun T locs X eT t kk => Jvm.Free.XS.ifYes X.here C.g_x rfl (pc0 := pc) (pc' := pc1) rfl (hb C.g_by hd) rfl (Jvm.Free.XT.ll_lt_t hc) (by omega) (by omega) kk) (r1 hc)
  · subst hp; exact own_st (fun T locs X eT t kk => Jvm.Free.XS.ifNo X.here C.g_x rfl (hb C.g_by hd) rfl (Jvm.Free.XT.ll_lt_f hc) kk) (r2 hc)
theorem own_ii_ge (C : own_Ctx p s m meth c Z own nm bytes maxL ret) {o : Int} {x y : Int32} (hd : decode bytes pc = .ok (.if_icmp .ge o, 3)) (ho : (pc : Int) + o = (pc1 : Int)) (hp : pc + 3 = pc2) (r1 : ¬ x < y → own_Run p l e R s m args below meth c n0 Kf h k q (mkF m pc1 Ls rest)) (r2 : x < y → own_Run p l e R s m args below meth c n0 Kf h k q (mkF m pc2 Ls rest)) : own_Run p l e R s m args below meth c n0 Kf h k q (mkF m pc Ls (.int y :: .int x :: rest)) := by
  by_cases hc : x < y
  · subst hp; exact own_st (fun T locs X eT t kk => Jvm.Free.XS.icmpNo X.here C.g_x rfl (hb C.g_by hd) rfl (Jvm.Free.XT.ii_ge_f hc) kk) (r2 hc)
  · exact own_st (fun T locs X eT t kk => Jvm.Free.XS.icmpYes X.here C.g_x rfl (pc0 := pc) (pc' := pc1) rfl (hb C.g_by hd) rfl (Jvm.Free.XT.ii_ge_t hc) (by omega) (by omega) kk) (r1 hc)
theorem own_i0_ge (C : own_Ctx p s m meth c Z own nm bytes maxL ret) {o : Int} {x : Int32} (hd : decode bytes pc = .ok (.ifCond .ge o, 3)) (ho : (pc : Int) + o = (pc1 : Int)) (hp : pc + 3 = pc2) (r1 : ¬ x < 0 → own_Run p l e R s m args below meth c n0 Kf h k q (mkF m pc1 Ls rest)) (r2 : x < 0 → own_Run p l e R s m args below meth c n0 Kf h k q (mkF m pc2 Ls rest)) : own_Run p l e R s m args below meth c n0 Kf h k q (mkF m pc Ls (.int x :: rest)) := by
  by_cases hc : x < 0
  · subst hp; exact own_st (fun T locs X eT t kk => Jvm.Free.XS.ifNo X.here C.g_x rfl (hb C.g_by hd) rfl (Jvm.Free.XT.i0_ge_f hc) kk) (r2 hc)
  · exact own_st (fun T locs X eT t kk => Jvm.Free.XS.ifYes X.here C.g_x rfl (pc0 := pc) (pc' := pc1) rfl (hb C.g_by hd) rfl (Jvm.Free.XT.i0_ge_t hc) (by omega) (by omega) kk) (r1 hc)
theorem own_ll_ge (C : own_Ctx p s m meth c Z own nm bytes maxL ret) {o : Int} {x y : Int64} (hd : decode bytes pc = .ok (.ifCond .ge o, 3)) (ho : (pc : Int) + o = (pc1 : Int)) (hp : pc + 3 = pc2) (r1 : ¬ x < y → own_Run p l e R s m args below meth c n0 Kf h k q (mkF m pc1 Ls rest)) (r2 : x < y → own_Run p l e R s m args below meth c n0 Kf h k q (mkF m pc2 Ls rest)) : own_Run p l e R s m args below meth c n0 Kf h k q (mkF m pc Ls (.int (Jvm.Free.XT.cmpL x y) :: rest)) := by
  by_cases hc : x < y
  · subst hp; exact own_st (fun T locs X eT t kk => Jvm.Free.XS.ifNo X.here C.g_x rfl (hb C.g_by hd) rfl (Jvm.Free.XT.ll_ge_f hc) kk) (r2 hc)
  · exact own_st (fun T locs X eT t kk => Jvm.Free.XS.ifYes X.here C.g_x rfl (pc0 := pc) (pc' := pc1) rfl (hb C.g_by hd) rfl (Jvm.Free.XT.ll_ge_t hc) (by omega) (by omega) kk) (r1 hc)
theorem own_ii_gt (C : own_Ctx p s m meth c Z own nm bytes maxL ret) {o : Int} {x y : Int32} (hd : decode bytes pc = .ok (.if_icmp .gt o, 3)) (ho : (pc : Int) + o = (pc1 : Int)) (hp : pc + 3 = pc2) (r1 : y < x → own_Run p l e R s m args below meth c n0 Kf h k q (mkF m pc1 Ls rest)) (r2 : ¬ y < x → own_Run p l e R s m args below meth c n0 Kf h k q (mkF m pc2 Ls rest)) : own_Run p l e R s m args below meth c n0 Kf h k q (mkF m pc Ls (.int y :: .int x :: rest)) := by
  by_cases hc : y < x
  · exact own_st (fun T locs X eT t kk => Jvm.Free.XS.icmpYes X.here C.g_x rfl (pc0 := pc) (pc' := pc1) rfl (hb C.g_by hd) rfl (Jvm.Free.XT.ii_gt_t hc) (by omega) (by omega) kk) (r1 hc)
  · subst hp; exact own_st (fun T locs X eT t kk => Jvm.Free.XS.icmpNo X.here C.g_x rfl (hb C.g_by hd) rfl (Jvm.Free.XT.ii_gt_f hc) kk) (r2 hc)
theorem own_i0_gt (C : own_Ctx p s m meth c Z own nm bytes maxL ret) {o : Int} {x : Int32} (hd : decode bytes pc = .ok (.ifCond .gt o, 3)) (ho : (pc : Int) + o = (pc1 : Int)) (hp : pc + 3 = pc2) (r1 : 0 < x → own_Run p l e R s m args below meth c n0 Kf h k q (mkF m pc1 Ls rest)) (r2 : ¬ 0 < x → own_Run p l e R s m args below meth c n0 Kf h k q (mkF m pc2 Ls rest)) : own_Run p l e R s m args below meth c n0 Kf h k q (mkF m pc Ls (.int x :: rest)) := by
  by_cases hc : 0 < x
  · exact own_st (fun T locs X eT t kk => Jvm.Free.XS.ifYes X.here C.g_x rfl (pc0 := pc) (pc' := pc1) rfl (hb C.g_by hd) rfl (Jvm.Free.XT.i0_gt_t hc) (by omega) (by omega) kk) (r1 hc)
  · subst hp; exact own_st (fun T locs X eT t kk => Jvm.Free.XS.ifNo X.here C.g_x rfl (hb C.g_by hd) rfl (Jvm.Free.XT.i0_gt_f hc) kk) (r2 hc)
theorem own_ll_gt (C : own_Ctx p s m meth c Z own nm bytes maxL ret) {o : Int} {x y : Int64} (hd : decode bytes pc = .ok (.ifCond .gt o, 3)) (ho : (pc : Int) + o = (pc1 : Int)) (hp : pc + 3 = pc2) (r1 : y < x → own_Run p l e R s m args below meth c n0 Kf h k q (mkF m pc1 Ls rest)) (r2 : ¬ y < x → own_Run p l e R s m args below meth c n0 Kf h k q (mkF m pc2 Ls rest)) : own_Run p l e R s m args below meth c n0 Kf h k q (mkF m pc Ls (.int (Jvm.Free.XT.cmpL x y) :: rest)) := by
  by_cases hc : y < x
  · exact own_st (fun T locs X eT t kk => Jvm.Free.XS.ifYes X.here C.g_x rfl (pc0 := pc) (pc' := pc1) rfl (hb C.g_by hd) rfl (Jvm.Free.XT.ll_gt_t hc) (by omega) (by omega) kk) (r1 hc)
  · subst hp; exact own_st (fun T locs X eT t kk => Jvm.Free.XS.ifNo X.here C.g_x rfl (hb C.g_by hd) rfl (Jvm.Free.XT.ll_gt_f hc) kk) (r2 hc)
theorem own_ii_le (C : own_Ctx p s m meth c Z own nm bytes maxL ret) {o : Int} {x y : Int32} (hd : decode bytes pc = .ok (.if_icmp .le o, 3)) (ho : (pc : Int) + o = (pc1 : Int)) (hp : pc + 3 = pc2) (r1 : ¬ y < x → own_Run p l e R s m args below meth c n0 Kf h k q (mkF m pc1 Ls rest)) (r2 : y < x → own_Run p l e R s m args below meth c n0 Kf h k q (mkF m pc2 Ls rest)) : own_Run p l e R s m args below meth c n0 Kf h k q (mkF m pc Ls (.int y :: .int x :: rest)) := by
  by_cases hc : y < x
  · subst hp; exact own_st (fun T locs X eT t kk => Jvm.Free.XS.icmpNo X.here C.g_x rfl (hb C.g_by hd) rfl (Jvm.Free.XT.ii_le_f hc) kk) (r2 hc)
  · exact own_st (fun T locs X eT t kk => Jvm.Free.XS.icmpYes X.here C.g_x rfl (pc0 := pc) (pc' := pc1) rfl (hb C.g_by hd) rfl (Jvm.Free.XT.ii_le_t hc) (by omega) (by omega) kk) (r1 hc)
theorem own_i0_le (C : own_Ctx p s m meth c Z own nm bytes maxL ret) {o : Int} {x : Int32} (hd : decode bytes pc = .ok (.ifCond .le o, 3)) (ho : (pc : Int) + o = (pc1 : Int)) (hp : pc + 3 = pc2) (r1 : ¬ 0 < x → own_Run p l e R s m args below meth c n0 Kf h k q (mkF m pc1 Ls rest)) (r2 : 0 < x → own_Run p l e R s m args below meth c n0 Kf h k q (mkF m pc2 Ls rest)) : own_Run p l e R s m args below meth c n0 Kf h k q (mkF m pc Ls (.int x :: rest)) := by
  by_cases hc : 0 < x
  · subst hp; exact own_st (fun T locs X eT t kk => Jvm.Free.XS.ifNo X.here C.g_x rfl (hb C.g_by hd) rfl (Jvm.Free.XT.i0_le_f hc) kk) (r2 hc)
  · exact own_st (fun T locs X eT t kk => Jvm.Free.XS.ifYes X.here C.g_x rfl (pc0 := pc) (pc' := pc1) rfl (hb C.g_by hd) rfl (Jvm.Free.XT.i0_le_t hc) (by omega) (by omega) kk) (r1 hc)
theorem own_ll_le (C : own_Ctx p s m meth c Z own nm bytes maxL ret) {o : Int} {x y : Int64} (hd : decode bytes pc = .ok (.ifCond .le o, 3)) (ho : (pc : Int) + o = (pc1 : Int)) (hp : pc + 3 = pc2) (r1 : ¬ y < x → own_Run p l e R s m args below meth c n0 Kf h k q (mkF m pc1 Ls rest)) (r2 : y < x → own_Run p l e R s m args below meth c n0 Kf h k q (mkF m pc2 Ls rest)) : own_Run p l e R s m args below meth c n0 Kf h k q (mkF m pc Ls (.int (Jvm.Free.XT.cmpL x y) :: rest)) := by
  by_cases hc : y < x
  · subst hp; exact own_st (fun T locs X eT t kk => Jvm.Free.XS.ifNo X.here C.g_x rfl (hb C.g_by hd) rfl (Jvm.Free.XT.ll_le_f hc) kk) (r2 hc)
  · exact own_st (fun T locs X eT t kk => Jvm.Free.XS.ifYes X.here C.g_x rfl (pc0 := pc) (pc' := pc1) rfl (hb C.g_by hd) rfl (Jvm.Free.XT.ll_le_t hc) (by omega) (by omega) kk) (r1 hc)
theorem own_aa_eq (C : own_Ctx p s m meth c Z own nm bytes maxL ret) {o : Int} {x y : Value} (hx1 : x.isRef = true) (hy1 : y.isRef = true) (hd : decode bytes pc = .ok (.if_acmp .eq o, 3)) (ho : (pc : Int) + o = (pc1 : Int)) (hp : pc + 3 = pc2) (r1 : x = y → own_Run p l e R s m args below meth c n0 Kf h k q (mkF m pc1 Ls rest)) (r2 : ¬ x = y → own_Run p l e R s m args below meth c n0 Kf h k q (mkF m pc2 Ls rest)) : own_Run p l e R s m args below meth c n0 Kf h k q (mkF m pc Ls (y :: x :: rest)) := by
  by_cases hc : x = y
  · exact own_st (fun T locs X eT t kk => Jvm.Free.XT.acmpYes X.here C.g_x rfl (pc0 := pc) (pc' := pc1) rfl (hb C.g_by hd) rfl hx1 hy1 (Jvm.Free.XT.aa_eq_t hc) (by omega) (by omega) kk) (r1 hc)
  · subst hp; exact own_st (fun T locs X eT t kk => Jvm.Free.XT.acmpNo X.here C.g_x rfl (hb C.g_by hd) rfl hx1 hy1 (Jvm.Free.XT.aa_eq_f hc) kk) (r2 hc)
theorem own_aa_ne (C : own_Ctx p s m meth c Z own nm bytes maxL ret) {o : Int} {x y : Value} (hx1 : x.isRef = true) (hy1 : y.isRef = true) (hd : decode bytes pc = .ok (.if_acmp .ne o, 3)) (ho : (pc : Int) + o = (pc1 : Int)) (hp : pc + 3 = pc2) (r1 : ¬ x = y → own_Run p l e R s m args below meth c n0 Kf h k q (mkF m pc1 Ls rest)) (r2 : x = y → own_Run p l e R s m args below meth c n0 Kf h k q (mkF m pc2 Ls rest)) : own_Run p l e R s m args below meth c n0 Kf h k q (mkF m pc Ls (y :: x :: rest)) := by
  by_cases hc : x = y
  · subst hp; exact own_st (fun T locs X eT t kk => Jvm.Free.XT.acmpNo X.here C.g_x rfl (hb C.g_by hd) rfl hx1 hy1 (Jvm.Free.XT.aa_ne_f hc) kk) (r2 hc)
  · exact own_st (fun T locs X eT t kk => Jvm.Free.XT.acmpYes X.here C.g_x rfl (pc0 := pc) (pc' := pc1) rfl (hb C.g_by hd) rfl hx1 hy1 (Jvm.Free.XT.aa_ne_t hc) (by omega) (by omega) kk) (r1 hc)
theorem own_nullNo (C : own_Ctx p s m meth c Z own nm bytes maxL ret) {o : Int} {a : Addr} (hd : decode bytes pc = .ok (.ifnull o, 3)) (hp : pc + 3 = pc') (r : own_Run p l e R s m args below meth c n0 Kf h k q (mkF m pc' Ls rest)) : own_Run p l e R s m args below meth c n0 Kf h k q (mkF m pc Ls (.ref a :: rest)) :=
  own_st (fun T locs X eT t kk => by subst hp; exact Jvm.Free.XS.ifnullNo X.here C.g_x rfl (hb C.g_by hd) rfl kk) r
theorem own_getF (C : own_Ctx p s m meth c Z own nm bytes maxL ret) {i : Nat} {O n d : String} {a : Addr} {v : Value} (w : (Jvm.Cond.fieldLink own i O n d).before a0 Z = true) (F : Fld Z h a O n d v) (hd : decode bytes pc = .ok (.getfield i, 3)) (hp : pc + 3 = pc') (r : own_Run p l e R s m args below meth c n0 Kf h k q (mkF m pc' Ls (v :: rest))) : own_Run p l e R s m args below meth c n0 Kf h k q (mkF m pc Ls (.ref a :: rest)) := fun T locs X eT N => by
  subst hp
  obtain ⟨T1, X1, e1, st1⟩ := getF X C.g_x C.g_z C.g_own (host := "") (Or.inl w) Via.refl eT F (g := mkF m pc Ls (.ref a :: rest)) rfl rfl (hb C.g_by hd)
  obtain ⟨t, o, h1, h2⟩ := r T1 locs X1 e1 N
  exact ⟨t, o, st1 _ h1, h2⟩
theorem own_putF (C : own_Ctx p s m meth c Z own nm bytes maxL ret) {i kk : Nat} {O n d K : String} {a : Addr} {v old : Value} {ty : FieldType} (w : (Jvm.Cond.fieldLink own i O n d).before a0 Z = true) (F : Fld Z h a O n d old) (E : Exa Z h a K) (L : (Jvm.Cond.lays K O n d).before a0 Z = true ∨ ((Jvm.Cond.laysFinal K O n d).before a0 Z = true ∧ own = O ∧ nm = "<init>")) (wi : (Jvm.Cond.instantiable K kk).before a0 Z = true) (hty : parseFieldDescriptor d = some ty) (hn : narrow ty v = v) (hf : fits ty v = true) (ga : n0 ≤ a) (hd : decode bytes pc = .ok (.putfield i, 3)) (hp : pc + 3 = pc')
    (r : ∀ h', Wr h h' a (Jvm.RoadKit.slotOf Z O n d) v → own_Run p l e R s m args below meth c n0 Kf h' k q (mkF m pc' Ls rest)) : own_Run p l e R s m args below meth c n0 Kf h k q (mkF m pc Ls (v :: .ref a :: rest)) := fun T locs X eT N => by
  subst hp
  obtain ⟨T1, h1, X1, e1, W1, st1⟩ := putF X C.g_x C.g_z C.g_own (host := "") (Or.inl w) Via.refl eT F E (L.imp id fun x => ⟨x.1, x.2.1, C.g_nm.trans x.2.2⟩) wi hty hn hf (g := mkF m pc Ls (v :: .ref a :: rest)) rfl rfl (hb C.g_by hd)
  obtain ⟨t, o, h2, h3⟩ := r h1 W1 T1 _ X1 e1 (Fr.snoc X1 N ga)
  exact ⟨t, o, st1 _ h2, h3⟩
theorem own_getS (C : own_Ctx p s m meth c Z own nm bytes maxL ret) {i : Nat} {O n d : String} {v : Value} (w : (Jvm.Cond.fieldLink own i O n d).before a0 Z = true) (F : Sta Z h O n d v) (hd : decode bytes pc = .ok (.getstatic i, 3)) (hp : pc + 3 = pc') (r : own_Run p l e R s m args below meth c n0 Kf h k q (mkF m pc' Ls (v :: rest))) : own_Run p l e R s m args below meth c n0 Kf h k q (mkF m pc Ls rest) := fun T locs X eT N => by
  subst hp
  obtain ⟨T1, X1, e1, st1⟩ := getS (host := "") X C.g_x C.g_z C.g_own w Via.refl eT F (g := mkF m pc Ls rest) rfl (hb C.g_by hd)
  obtain ⟨t, o, h1, h2⟩ := r T1 locs X1 e1 N
  exact ⟨t, o, st1 _ h1, h2⟩
theorem own_new (C : own_Ctx p s m meth c Z own nm bytes maxL ret) {i n : Nat} {K : String} (w : (Jvm.Cond.classLink own i K).before a0 Z = true) (wi : (Jvm.Cond.instantiable K n).before a0 Z = true) (wz : (Jvm.Cond.initialized K).before a0 Z = true) (Z0 : n0 ≤ h.size) (hd : decode bytes pc = .ok (.new i, 3)) (hp : pc + 3 = pc') (hc : k + 1 ≤ R.cells) (hs : q + n ≤ R.slots)
    (r : ∀ h' a, a = h.size → n0 ≤ a → n0 ≤ h'.size → Ext h h' → Exa Z h' a K → (∀ {O nm d : String} {ty : FieldType}, Laid Z a0 K O nm d → parseFieldDescriptor d = some ty → Fld Z h' a O nm d (defaultValue ty)) → own_Run p l e R s m args below meth c n0 Kf h' (k + 1) (q + n) (mkF m pc' Ls (.ref a :: rest))) : own_Run p l e R s m args below meth c n0 Kf h k q (mkF m pc Ls rest) := fun T locs X eT N => by
  subst hp
  obtain ⟨T1, h1, X1, e1, E1, A1, D1, -, st1⟩ := newO X C.g_x C.g_z C.g_own w wi wz eT (g := mkF m pc Ls rest) rfl (hb C.g_by hd) hc hs
  obtain ⟨t, o, h2, h3⟩ := r h1 h.size rfl Z0 (Nat.le_trans Z0 E1.1) E1 A1 (fun L ht => D1 L ht) T1 _ X1 e1 N
  exact ⟨t, o, st1 _ h2, h3⟩
theorem own_initO (C : own_Ctx p s m meth c Z own nm bytes maxL ret) {i : Nat} {a : Addr} {W : Nat} (w1 : (Jvm.Cond.methodLink own i Lib.objectInit).before a0 Z = true) (w2 : (Jvm.Cond.instanceMethod Lib.objectInit).before a0 Z = true) (w3 : (Jvm.Cond.code Lib.objectInit ⟨#[0xb1]⟩ 1 none).before a0 Z = true) (hd : decode bytes pc = .ok (.invokespecial i, 3)) (hp : pc + 3 = pc') (hsz : Ls.size = maxL) (hf : 1 ≤ R.frames) (hW : 0 + (rest.map fun v => v.category).sum ≤ W) (hl : W + 12 ≤ R.locals)
    (r : own_Run p l e R s m args below meth c n0 Kf h k q (mkF m pc' Ls rest)) : own_Run p l e R s m args below meth c n0 Kf h k q (mkF m pc Ls (.ref a :: rest)) := fun T locs X eT N => by
  subst hp
  obtain ⟨T1, X1, e1, st1⟩ := initO X C.g_x C.g_z C.g_own w1 w2 w3 eT (g := mkF m pc Ls (.ref a :: rest)) rfl (by rw [C.g_ml]; exact hsz) rfl (hb C.g_by hd) hf (W := W) (by show 2 * 0 + _ ≤ _; exact hW) hl
  obtain ⟨t, o, h1, h2⟩ := r T1 locs X1 e1 N
  exact ⟨t, o, st1 _ h1, h2⟩
theorem own_callN (C : own_Ctx p s m meth c Z own nm bytes maxL ret) {i : Nat} {y : MethodName} {cb : ByteArray} {cm : Nat} {rm : Room} {a : Addr} {argsL : List Value} {Q' : Option Value → Heap → Prop} (W : Nat) (hy1 : y.name = "<init>") (w1 : (Jvm.Cond.methodLink own i y).before a0 Z = true) (w2 : (Jvm.Cond.instanceMethod y).before a0 Z = true) (w3 : (Jvm.Cond.code y cb cm none).before a0 Z = true) (w4 : (Jvm.Cond.initialized y.cls).before a0 Z = true) (hy : y.cls ≠ "java/lang/invoke/MethodHandle" ∧ y.cls ≠ "java/lang/invoke/VarHandle")
    (hM : own_Met l Z n0 y cb cm none rm [] (.ref a :: argsL).toArray h Q') (hf : rm.frames + 1 ≤ R.frames) (hl : W + (cm + 11) + rm.locals ≤ R.locals) (hlen : ∀ sig, parseMethodDescriptor y.desc = some sig → argsL.length = sig.parameters.length) {st : List Value} (hst : st = argsL.reverse ++ .ref a :: rest) (hW : 0 + (rest.map fun v => v.category).sum ≤ W) (hd : decode bytes pc = .ok (.invokespecial i, 3)) (hp : pc + 3 = pc') (hsz : Ls.size = maxL) (hc : k + rm.cells ≤ R.cells) (hs : q + rm.slots ≤ R.slots)
    (r : ∀ v h', Q' v h' → own_Run p l e R s m args below meth c n0 Kf h' (k + rm.cells) (q + rm.slots) (mkF m pc' Ls (v.toList ++ rest))) : own_Run p l e R s m args below meth c n0 Kf h k q (mkF m pc Ls st) := fun T locs X eT N => by
  subst hp
  obtain ⟨v, _, ⟨T1, L1, k1, n1⟩, -, X1, ⟨Lc1, hQ1, l1, y1, z1⟩, st1⟩ := X.specialBack C.g_x (y := y) hy1 C.g_own (mvT C.g_z w1) (mvT C.g_z w2) (mvT C.g_z w3) hy (backOf (W := W) (Q := fun v h L => Fr n0 L ∧ Q' v h) hM C.g_z w3 w4 hf hl) (g := mkF m pc Ls st) rfl (by rw [C.g_ml]; exact hsz) (Steps.refl _) (a := a) (argsL := argsL) (rest := rest) hlen hst (by show 2 * 0 + _ ≤ _; exact hW) (hb C.g_by hd) (fun _ _ => ⟨rfl, eT, hc, hs⟩)
  dsimp only [Pt.U, Pt.locs, Pt.cells, Pt.slots] at X1 l1 y1 z1 st1 hQ1
  subst l1 y1 z1
  obtain ⟨t, o, h2, h3⟩ := r v T1.heap hQ1.2 T1 _ X1 rfl (Fr.app N hQ1.1)
  exact ⟨t, o, st1.trans h2, h3⟩
theorem own_callV (C : own_Ctx p s m meth c Z own nm bytes maxL ret) {i : Nat} {y : MethodName} {cb : ByteArray} {cm : Nat} {cret : Option FieldType} {rm : Room} {a : Addr} {argsL : List Value} {Q' : Option Value → Heap → Prop} (W : Nat) (E : Exa Z h a y.cls) (w1 : (Jvm.Cond.methodLink own i y).before a0 Z = true) (w2 : (Jvm.Cond.declares y).before a0 Z = true) (w3 : (Jvm.Cond.selects y.cls y y).before a0 Z = true) (w4 : (Jvm.Cond.instanceMethod y).before a0 Z = true) (w5 : (Jvm.Cond.code y cb cm cret).before a0 Z = true) (w6 : (Jvm.Cond.initialized y.cls).before a0 Z = true) (hy : y.cls ≠ "java/lang/invoke/MethodHandle" ∧ y.cls ≠ "java/lang/invoke/VarHandle")
    (hM : own_Met l Z n0 y cb cm cret rm [] (.ref a :: argsL).toArray h Q') (hf : rm.frames + 1 ≤ R.frames) (hl : W + (cm + 11) + rm.locals ≤ R.locals) (hlen : ∀ sig, parseMethodDescriptor y.desc = some sig → argsL.length = sig.parameters.length) {st : List Value} (hst : st = argsL.reverse ++ .ref a :: rest) (hW : 0 + (rest.map fun v => v.category).sum ≤ W) (hd : decode bytes pc = .ok (.invokevirtual i, 3)) (hp : pc + 3 = pc') (hsz : Ls.size = maxL) (hc : k + rm.cells ≤ R.cells) (hs : q + rm.slots ≤ R.slots)
    (r : ∀ v h', Q' v h' → own_Run p l e R s m args below meth c n0 Kf h' (k + rm.cells) (q + rm.slots) (mkF m pc' Ls (v.toList ++ rest))) : own_Run p l e R s m args below meth c n0 Kf h k q (mkF m pc Ls st) := fun T locs X eT N => by
  subst hp
  obtain ⟨cq, kq, qa, qb, qc⟩ := isOf C.g_z eT E
  obtain ⟨v, _, ⟨T1, L1, k1, n1⟩, -, X1, ⟨Lc1, hQ1, l1, y1, z1⟩, st1⟩ := X.virtualBack C.g_x (y := y) (z := y) C.g_own (mvT C.g_z w1) (mvT C.g_z w2) (notFace_of_selects (args := #[]) (mvT C.g_z w3)) (mvT C.g_z w3) (mvT C.g_z w4) hy (backOf (W := W) (Q := fun v h L => Fr n0 L ∧ Q' v h) hM C.g_z w5 w6 hf hl) qa qc (g := mkF m pc Ls st) rfl (by rw [C.g_ml]; exact hsz) (Steps.refl _) (argsL := argsL) (rest := rest) hlen hst (by show 2 * 0 + _ ≤ _; exact hW) (hb C.g_by hd) (fun _ _ => ⟨rfl, eT, hc, hs⟩)
  dsimp only [Pt.U, Pt.locs, Pt.cells, Pt.slots] at X1 l1 y1 z1 st1 hQ1
  subst l1 y1 z1
  obtain ⟨t, o, h2, h3⟩ := r v T1.heap hQ1.2 T1 _ X1 rfl (Fr.app N hQ1.1)
  exact ⟨t, o, st1.trans h2, h3⟩
theorem own_callS (C : own_Ctx p s m meth c Z own nm bytes maxL ret) {i : Nat} {y : MethodName} {cb : ByteArray} {cm : Nat} {cret : Option FieldType} {rm : Room} {argsL : List Value} {Q' : Option Value → Heap → Prop} (W : Nat) (w1 : (Jvm.Cond.methodLink own i y).before a0 Z = true) (w2 : (Jvm.Cond.static y).before a0 Z = true) (w3 : (Jvm.Cond.initialized y.cls).before a0 Z = true) (w4 : (Jvm.Cond.code y cb cm cret).before a0 Z = true) (hy : y.cls ≠ "java/lang/invoke/MethodHandle" ∧ y.cls ≠ "java/lang/invoke/VarHandle")
    (hM : own_Met l Z n0 y cb cm cret rm [] argsL.toArray h Q') (hf : rm.frames + 1 ≤ R.frames) (hl : W + (cm + 11) + rm.locals ≤ R.locals) (hlen : ∀ sig, parseMethodDescriptor y.desc = some sig → argsL.length = sig.parameters.length) {st : List Value} (hst : st = argsL.reverse ++ rest) (hW : 0 + (rest.map fun v => v.category).sum ≤ W) (hd : decode bytes pc = .ok (.invokestatic i, 3)) (hp : pc + 3 = pc') (hsz : Ls.size = maxL) (hc : k + rm.cells ≤ R.cells) (hs : q + rm.slots ≤ R.slots)
    (r : ∀ v h', Q' v h' → own_Run p l e R s m args below meth c n0 Kf h' (k + rm.cells) (q + rm.slots) (mkF m pc' Ls (v.toList ++ rest))) : own_Run p l e R s m args below meth c n0 Kf h k q (mkF m pc Ls st) := fun T locs X eT N => by
  subst hp
  obtain ⟨v, _, ⟨T1, L1, k1, n1⟩, -, X1, ⟨Lc1, hQ1, l1, y1, z1⟩, st1⟩ := Jvm.LawKit.callS X C.g_x (y := y) C.g_own (mvT C.g_z w1) (mvT C.g_z w2) (mvT C.g_z w3) (mvT C.g_z w4) hy (backOf (W := W) (Q := fun v h L => Fr n0 L ∧ Q' v h) hM C.g_z w4 w3 hf hl) (g := mkF m pc Ls st) rfl (by rw [C.g_ml]; exact hsz) (argsL := argsL) (rest := rest) hlen hst (by show 2 * 0 + _ ≤ _; exact hW) (hb C.g_by hd) (fun _ _ => ⟨rfl, eT, hc, hs⟩)
  dsimp only [Pt.U, Pt.locs, Pt.cells, Pt.slots] at X1 l1 y1 z1 st1 hQ1
  subst l1 y1 z1
  obtain ⟨t, o, h2, h3⟩ := r v T1.heap hQ1.2 T1 _ X1 rfl (Fr.app N hQ1.1)
  exact ⟨t, o, st1 _ h2, h3⟩
theorem own_callP (C : own_Ctx p s m meth c Z own nm bytes maxL ret) {i nf : Nat} {y : MethodName} {cb : ByteArray} {cm : Nat} {cret : Option FieldType} {rm : Room} {a : Addr} {argsL : List Value} {K : String} {Q' : Option Value → Heap → Prop} (W : Nat) (E : Exa Z h a K) (w1 : (Jvm.Cond.methodLink own i y).before a0 Z = true) (w2 : (Jvm.Cond.instanceMethod y).before a0 Z = true) (w3 : (Jvm.Cond.privateMethod y).before a0 Z = true) (w4 : (Jvm.Cond.instantiable y.cls nf).before a0 Z = true) (w5 : (Jvm.Cond.code y cb cm cret).before a0 Z = true) (w6 : (Jvm.Cond.initialized y.cls).before a0 Z = true) (hy : y.cls ≠ "java/lang/invoke/MethodHandle" ∧ y.cls ≠ "java/lang/invoke/VarHandle")
    (hM : own_Met l Z n0 y cb cm cret rm [] (.ref a :: argsL).toArray h Q') (hf : rm.frames + 1 ≤ R.frames) (hl : W + (cm + 11) + rm.locals ≤ R.locals) (hlen : ∀ sig, parseMethodDescriptor y.desc = some sig → argsL.length = sig.parameters.length) {st : List Value} (hst : st = argsL.reverse ++ .ref a :: rest) (hW : 0 + (rest.map fun v => v.category).sum ≤ W) (hd : decode bytes pc = .ok (.invokevirtual i, 3)) (hp : pc + 3 = pc') (hsz : Ls.size = maxL) (hc : k + rm.cells ≤ R.cells) (hs : q + rm.slots ≤ R.slots)
    (r : ∀ v h', Q' v h' → own_Run p l e R s m args below meth c n0 Kf h' (k + rm.cells) (q + rm.slots) (mkF m pc' Ls (v.toList ++ rest))) : own_Run p l e R s m args below meth c n0 Kf h k q (mkF m pc Ls st) := fun T locs X eT N => by
  subst hp
  have hK := backOf (l := l) (R := R) (p := p) (e := e) (s := s) (below := below) (args := args) (len := 3) (W := W) (Q := fun v h L => Fr n0 L ∧ Q' v h) hM C.g_z w5 w6 hf hl
  obtain ⟨mk, mM, hnamed, hmM, hsta, hab⟩ := Cond.instanceMethod_spec (mvT (args := args) C.g_z w2)
  obtain ⟨mM', cM, hmM', -, -, -, -, -, -, hsig⟩ := Cond.code_spec hnamed (mvT (args := args) C.g_z w5)
  cases hmM.symm.trans hmM'
  obtain ⟨cI, kI, i1, i2, -, i4, -⟩ := Cond.instantiable_spec (mvT (args := args) C.g_z w4)
  cases i1.symm.trans (findClass_of_methodNamed hnamed)
  have hni : kI.isInterface = false := (Bool.or_eq_false_iff.mp i4).1
  obtain ⟨cell, hc1, hc2⟩ := E.cell
  have hsel := selectMethod_private (p := e.platform) (c := cell.cls) hmM (Cond.privateMethod_at (mvP C.g_z w3 (args := #[])) mk mM hnamed hmM)
  obtain ⟨vm1, X1, st1⟩ := X.invokevirtual C.g_x C.g_own (mvT C.g_z w1) hnamed hmM hsta i2 hni hy (a := a) (cell := cell) (by rw [eT]; exact hc1) hc2 hsel hmM hab i2 hni (g := mkF m pc Ls st) rfl (argsL := argsL) (rest := rest) (hlen _ hsig) hst (hb C.g_by hd)
  obtain ⟨v, ⟨T1, L1, k1, n1⟩, X2, ⟨Lc1, hQ1, l1, y1, z1⟩, st2⟩ := hK m meth c ⟨T.setVm vm1, locs, k, q⟩ (mkF m pc Ls rest) (.invokevirtual i) mk (.ref a :: argsL).toArray X1 rfl (by rw [C.g_ml]; exact hsz) (hb C.g_by hd) (by show 2 * 0 + _ ≤ _; exact hW) (X1.named hnamed) ⟨rfl, eT, hc, hs⟩
  dsimp only [Pt.U, Pt.locs, Pt.cells, Pt.slots] at X2 l1 y1 z1 st2 hQ1
  subst l1 y1 z1
  obtain ⟨t, o, h2, h3⟩ := r v T1.heap hQ1.2 T1 _ X2 rfl (Fr.app N hQ1.1)
  exact ⟨t, o, st1 _ fun acts => by rw [doInvoke_state]; exact st2.trans h2, h3⟩
theorem own_ret (C : own_Ctx p s m meth c Z own nm bytes maxL ret) {v : Value} {t : FieldType} {i : Instr} (hret : ret = some t) (hn : narrow t v = v)
    (hi : (i = .ireturn ∧ (t = .int ∨ t = .boolean ∨ t = .byte ∨ t = .char ∨ t = .short) ∧ ∃ z, v = .int z) ∨ (i = .lreturn ∧ t = .long ∧ ∃ z, v = .long z) ∨ (i = .dreturn ∧ t = .double ∧ ∃ z, v = .double z) ∨ (i = .freturn ∧ t = .float ∧ ∃ z, v = .float z) ∨ (i = .areturn ∧ t.isReference = true ∧ v.isRef = true))
    (hd : decode bytes pc = .ok (i, 1)) (hc : k ≤ R.cells) (hs : q ≤ R.slots) (hQ : Q (some v) h) : own_Run p l e R s m args below meth c n0 (own_K below R s n0 Q) h k q (mkF m pc Ls (v :: rest)) := fun T locs X eT N => by
  have hlocks := C.g_lk
  obtain ⟨fs, hr, hrun, hended, hW, hsame⟩ := X.leave (v := some v) (fun hh => by rw [C.g_rt, hret] at hh; cases hh) hlocks
  refine ⟨_, _, retOut X C.g_x (C.g_rt.trans hret) hn hi (hb C.g_by hd) hr, hrun, hended, _, _, rfl, ⟨N, ?_⟩, ⟨_, rfl⟩, hW, hsame.mono hc hs⟩
  show Q (some v) T.heap
  rw [eT]; exact hQ
theorem own_retV (C : own_Ctx p s m meth c Z own nm bytes maxL ret) (hret : ret = none) (hd : decode bytes pc = .ok (.return_, 1)) (hc : k ≤ R.cells) (hs : q ≤ R.slots) (hQ : Q none h) : own_Run p l e R s m args below meth c n0 (own_K below R s n0 Q) h k q (mkF m pc Ls []) := fun T locs X eT N => by
  have hlocks := C.g_lk
  obtain ⟨fs, hr, hrun, hended, hW, hsame⟩ := X.leave (v := none) (fun _ => rfl) hlocks
  refine ⟨_, _, X.returnOut C.g_x (C.g_rt.trans hret) (hb C.g_by hd) hr, hrun, hended, _, _, rfl, ⟨N, ?_⟩, ⟨_, rfl⟩, hW, hsame.mono hc hs⟩
  show Q none T.heap
  rw [eT]; exact hQ
theorem own_refne {a b : Addr} (hn : a ≠ b) : ¬ (Value.ref a = Value.ref b) := fun e => hn (Value.ref.inj e)
theorem own_nb {v : Int32} (hv : v = 0 ∨ v = 1) : narrow .boolean (.int v) = .int v := by rcases hv with rfl | rfl <;> rfl
theorem own_fb {v : Int32} (hv : v = 0 ∨ v = 1) : fits .boolean (.int v) = true := by rcases hv with rfl | rfl <;> rfl
theorem own_join {α : Type} {g : JFrame} (P : α → Prop) (F : α → JFrame) (j : ∀ v, P v → own_Run p l e R s m args below meth c n0 Kf h k q (F v)) (r : (∀ v, P v → own_Run p l e R s m args below meth c n0 Kf h k q (F v)) → own_Run p l e R s m args below meth c n0 Kf h k q g) : own_Run p l e R s m args below meth c n0 Kf h k q g := r j
theorem own_join2 {α β : Type} {g : JFrame} (P : α → β → Prop) (F : α → β → JFrame) (j : ∀ v w, P v w → own_Run p l e R s m args below meth c n0 Kf h k q (F v w)) (r : (∀ v w, P v w → own_Run p l e R s m args below meth c n0 Kf h k q (F v w)) → own_Run p l e R s m args below meth c n0 Kf h k q g) : own_Run p l e R s m args below meth c n0 Kf h k q g := r j
theorem own_join3 {α β γ : Type} {g : JFrame} (P : α → β → γ → Prop) (F : α → β → γ → JFrame) (j : ∀ v w x, P v w x → own_Run p l e R s m args below meth c n0 Kf h k q (F v w x)) (r : (∀ v w x, P v w x → own_Run p l e R s m args below meth c n0 Kf h k q (F v w x)) → own_Run p l e R s m args below meth c n0 Kf h k q g) : own_Run p l e R s m args below meth c n0 Kf h k q g := r j
def own_upd {α : Type} (f : Nat → α) (i : Nat) (x : α) : Nat → α := fun j => if j = i then x else f j
theorem own_upd_eq {α : Type} (f : Nat → α) (i : Nat) (x : α) : own_upd f i x i = x := if_pos rfl
theorem own_upd_ne {α : Type} (f : Nat → α) {i j : Nat} (x : α) (hne : j ≠ i) : own_upd f i x j = f j := if_neg hne
/-- an array: her length, and what each place holds -/
def own_A (Z : State) (h : Heap) (a : Addr) (ty : FieldType) (n : Nat) (f : Nat → Value) : Prop := n < 2 ^ 31 ∧ ∃ cl : Cell, Arr Z h a cl ty ∧ cl.slots.size = n ∧ ∀ j, j < n → cl.slots[j]? = some (f j)
abbrev own_AI (Z : State) (h : Heap) (a : Addr) (n : Nat) (f : Nat → Int32) : Prop := own_A Z h a .int n (fun j => .int (f j))
abbrev own_AB (Z : State) (h : Heap) (a : Addr) (n : Nat) (f : Nat → Int32) : Prop := own_A Z h a .byte n (fun j => .int (f j))
abbrev own_AZ (Z : State) (h : Heap) (a : Addr) (n : Nat) (f : Nat → Int32) : Prop := own_A Z h a .boolean n (fun j => .int (f j))
abbrev own_AJ (Z : State) (h : Heap) (a : Addr) (n : Nat) (f : Nat → Int64) : Prop := own_A Z h a .long n (fun j => .long (f j))
theorem own_A.lt {h : Heap} {a : Addr} {ty : FieldType} {n : Nat} {f : Nat → Value} (V : own_A Z h a ty n f) : a < h.size := by obtain ⟨_, cl, A, _⟩ := V; exact A.lt
theorem own_A.ext {h h' : Heap} {a : Addr} {ty : FieldType} {n : Nat} {f : Nat → Value} (V : own_A Z h a ty n f) (E : Ext h h') : own_A Z h' a ty n f := by obtain ⟨hn, cl, A, r⟩ := V; exact ⟨hn, cl, A.ext E, r⟩
theorem own_A.other {h h' : Heap} {a b : Addr} {sl : Nat} {w : Value} {ty : FieldType} {n : Nat} {f : Nat → Value} (V : own_A Z h b ty n f) (W : Wr h h' a sl w) (hne : b ≠ a) : own_A Z h' b ty n f := by obtain ⟨hn, cl, A, r⟩ := V; exact ⟨hn, cl, A.other W hne, r⟩
theorem own_A.keep {h h' : Heap} {a : Addr} {ws : List Addr} {ty : FieldType} {n : Nat} {f : Nat → Value} (V : own_A Z h a ty n f) (K : Keep h h' ws) (hne : a ∉ ws) : own_A Z h' a ty n f := by obtain ⟨hn, cl, A, r⟩ := V; exact ⟨hn, cl, ⟨K.2.1 a cl A.1 hne, A.2⟩, r⟩
theorem own_A.congr {h : Heap} {a : Addr} {ty : FieldType} {n : Nat} {f g : Nat → Value} (V : own_A Z h a ty n f) (e : ∀ j, j < n → f j = g j) : own_A Z h a ty n g := by obtain ⟨hn, cl, A, S, H⟩ := V; exact ⟨hn, cl, A, S, fun j hj => by rw [← e j hj]; exact H j hj⟩
theorem own_A.set {h h' : Heap} {a : Addr} {i : Nat} {w : Value} {ty : FieldType} {n : Nat} {f : Nat → Value} (V : own_A Z h a ty n f) (W : Wr h h' a i w) (hi : i < n) : own_A Z h' a ty n (own_upd f i w) := by
  obtain ⟨hn, cl, A, S, H⟩ := V
  refine ⟨hn, _, A.same W, by rw [sz_set]; exact S, fun j hj => ?_⟩
  by_cases e : j = i
  · subst e
    rw [own_upd_eq]; simp [Cell.setSlot, S, hj]
  · rw [own_upd_ne _ _ e]
    show (cl.slots.setIfInBounds i w)[j]? = _
    rw [Array.getElem?_setIfInBounds_ne (Ne.symm e)]; exact H j hj
theorem own_nat {j : Int32} {i : Nat} (hj : j.toInt = (i : Int)) : ¬ j < 0 ∧ j.toNatClampNeg = i := by
  have z : (0 : Int32).toInt = 0 := rfl
  refine ⟨?_, ?_⟩
  · rw [Int32.lt_iff_toInt_lt]; omega
  · simp only [Int32.toNatClampNeg]; omega
theorem own_inb {j : Int32} {i : Nat} {cl : Cell} {n : Nat} (hj : j.toInt = (i : Int)) (S : cl.slots.size = n) (hi : i < n) : ¬ (j < 0 ∨ cl.slots.size ≤ j.toNatClampNeg) := by
  obtain ⟨h1, h2⟩ := own_nat hj
  rw [S, h2]; exact fun hh => hh.elim h1 (Nat.not_le.mpr hi)
theorem own_newA (C : own_Ctx p s m meth c Z own nm bytes maxL ret) {aty : ArrayType} (w : (Jvm.Cond.arrayClass (newarray.typeOf aty)).before a0 Z = true) (Z0 : n0 ≤ h.size) (hd : decode bytes pc = .ok (.newarray aty, 2)) (hp : pc + 2 = pc') {n : Int32} {nn cap : Nat} (hn : n.toInt = (nn : Int)) (hcap : nn ≤ cap) (hbig : cap * 8 ≤ 536870912) (hc : k + 1 ≤ R.cells) (hl : q + cap ≤ R.slots)
    (r : ∀ h' a, a = h.size → n0 ≤ a → n0 ≤ h'.size → Ext h h' → own_A Z h' a (newarray.typeOf aty) nn (fun _ => defaultValue (newarray.typeOf aty)) → own_Run p l e R s m args below meth c n0 Kf h' (k + 1) (q + cap) (mkF m pc' Ls (.ref a :: rest))) : own_Run p l e R s m args below meth c n0 Kf h k q (mkF m pc Ls (.int n :: rest)) := fun T locs X eT N => by
  subst hp
  obtain ⟨p1, p2⟩ := own_nat hn
  obtain ⟨T1, h1, cA, X1, e1, E1, A1, st1⟩ := newP X C.g_x C.g_z w eT (g := mkF m pc Ls (.int n :: rest)) rfl (hb C.g_by hd) rfl p1 (cap := cap) (by rw [p2]; exact hcap) hbig hc hl
  have V : own_A Z h1 h.size (newarray.typeOf aty) nn (fun _ => defaultValue (newarray.typeOf aty)) := by
    refine ⟨by have := Int32.toInt_lt n; omega, _, A1, by rw [sz_new, p2], fun j hj => ?_⟩
    simp [newA, p2, hj]
  obtain ⟨t, o, h2, h3⟩ := r h1 h.size rfl Z0 (Nat.le_trans Z0 E1.1) E1 V T1 _ X1 e1 N
  exact ⟨t, o, st1 _ h2, h3⟩
theorem own_newAI (C : own_Ctx p s m meth c Z own nm bytes maxL ret) (w : (Jvm.Cond.arrayClass .int).before a0 Z = true) (Z0 : n0 ≤ h.size) (hd : decode bytes pc = .ok (.newarray .int, 2)) (hp : pc + 2 = pc') {n : Int32} {nn cap : Nat} (hn : n.toInt = (nn : Int)) (hcap : nn ≤ cap) (hbig : cap * 8 ≤ 536870912) (hc : k + 1 ≤ R.cells) (hl : q + cap ≤ R.slots)
    (r : ∀ h' a, a = h.size → n0 ≤ a → n0 ≤ h'.size → Ext h h' → own_AI Z h' a nn (fun _ => (0 : Int32)) → own_Run p l e R s m args below meth c n0 Kf h' (k + 1) (q + cap) (mkF m pc' Ls (.ref a :: rest))) : own_Run p l e R s m args below meth c n0 Kf h k q (mkF m pc Ls (.int n :: rest)) := own_newA C (aty := .int) w Z0 hd hp hn hcap hbig hc hl r
theorem own_stI (C : own_Ctx p s m meth c Z own nm bytes maxL ret) {a : Addr} {n : Nat} {f : Nat → Int32} (V : own_AI Z h a n f) {j : Int32} {i : Nat} {x : Int32} (hj : j.toInt = (i : Int)) (hi : i < n) (ga : n0 ≤ a) (hd : decode bytes pc = .ok (.iastore, 1)) (hp : pc + 1 = pc')
    (r : ∀ h', Wr h h' a i (.int x) → own_AI Z h' a n (own_upd f i x) → own_Run p l e R s m args below meth c n0 Kf h' k q (mkF m pc' Ls rest)) : own_Run p l e R s m args below meth c n0 Kf h k q (mkF m pc Ls (.int x :: .int j :: .ref a :: rest)) := fun T locs X eT N => by
  subst hp
  obtain ⟨p1, p2⟩ := own_nat hj
  obtain ⟨hn, cl, A, S, H⟩ := id V
  obtain ⟨T1, h1, X1, e1, W1, st1⟩ := stI X C.g_x C.g_z eT A (own_inb hj S hi) (g := mkF m pc Ls (.int x :: .int j :: .ref a :: rest)) rfl rfl (hb C.g_by hd)
  have W2 : Wr h h1 a i (.int x) := by rw [← p2]; exact W1
  obtain ⟨t, o, h2, h3⟩ := r h1 W2 ((own_A.set V W2 hi).congr fun j hj => by by_cases e : j = i <;> simp [own_upd, e]) T1 _ X1 e1 (Fr.snoc X1 N ga)
  exact ⟨t, o, st1 _ h2, h3⟩
theorem own_lenI (C : own_Ctx p s m meth c Z own nm bytes maxL ret) {a : Addr} {n : Nat} {f : Nat → Int32} (V : own_AI Z h a n f) (hd : decode bytes pc = .ok (.arraylength, 1)) (hp : pc + 1 = pc') (r : own_Run p l e R s m args below meth c n0 Kf h k q (mkF m pc' Ls (.int (Nat.toInt32 n) :: rest))) : own_Run p l e R s m args below meth c n0 Kf h k q (mkF m pc Ls (.ref a :: rest)) := by
  obtain ⟨hn, cl, A, S, H⟩ := V
  subst hp
  rw [← S] at r
  exact own_st (fun T locs X eT t kk => X.arraylength C.g_x (by rw [eT]; exact A.1) (State.isArrayOf_alike C.g_z.alike A.2.1) (g := mkF m pc Ls (.ref a :: rest)) rfl rfl (hb C.g_by hd) t kk) r
theorem own_ldI (C : own_Ctx p s m meth c Z own nm bytes maxL ret) {a : Addr} {n : Nat} {f : Nat → Int32} (V : own_AI Z h a n f) {j : Int32} {i : Nat} (hj : j.toInt = (i : Int)) (hi : i < n) (hd : decode bytes pc = .ok (.iaload, 1)) (hp : pc + 1 = pc') (r : own_Run p l e R s m args below meth c n0 Kf h k q (mkF m pc' Ls (.int (f i) :: rest))) : own_Run p l e R s m args below meth c n0 Kf h k q (mkF m pc Ls (.int j :: .ref a :: rest)) := by
  obtain ⟨p1, p2⟩ := own_nat hj
  obtain ⟨hn, cl, A, S, H⟩ := V
  subst hp
  exact own_st (fun T locs X eT t kk => X.iaload C.g_x (by rw [eT]; exact A.1) (State.isArrayOf_alike C.g_z.alike A.2.1) A.2.2 (own_inb hj S hi) (by rw [p2]; exact H i hi) (g := mkF m pc Ls (.int j :: .ref a :: rest)) rfl rfl (hb C.g_by hd) t kk) r
theorem own_ldIV (C : own_Ctx p s m meth c Z own nm bytes maxL ret) {a : Addr} {n : Nat} {f : Nat → Int32} (V : own_AI Z h a n f) {j : Int32} {i : Nat} {v : Int32} (hj : j.toInt = (i : Int)) (hi : i < n) (hv : f i = v) (hd : decode bytes pc = .ok (.iaload, 1)) (hp : pc + 1 = pc') (r : own_Run p l e R s m args below meth c n0 Kf h k q (mkF m pc' Ls (.int v :: rest))) : own_Run p l e R s m args below meth c n0 Kf h k q (mkF m pc Ls (.int j :: .ref a :: rest)) := by
  subst hv; exact own_ldI C V hj hi hd hp r
theorem own_newAB (C : own_Ctx p s m meth c Z own nm bytes maxL ret) (w : (Jvm.Cond.arrayClass .byte).before a0 Z = true) (Z0 : n0 ≤ h.size) (hd : decode bytes pc = .ok (.newarray .byte, 2)) (hp : pc + 2 = pc') {n : Int32} {nn cap : Nat} (hn : n.toInt = (nn : Int)) (hcap : nn ≤ cap) (hbig : cap * 8 ≤ 536870912) (hc : k + 1 ≤ R.cells) (hl : q + cap ≤ R.slots)
    (r : ∀ h' a, a = h.size → n0 ≤ a → n0 ≤ h'.size → Ext h h' → own_AB Z h' a nn (fun _ => (0 : Int32)) → own_Run p l e R s m args below meth c n0 Kf h' (k + 1) (q + cap) (mkF m pc' Ls (.ref a :: rest))) : own_Run p l e R s m args below meth c n0 Kf h k q (mkF m pc Ls (.int n :: rest)) := own_newA C (aty := .byte) w Z0 hd hp hn hcap hbig hc hl r
theorem own_stB (C : own_Ctx p s m meth c Z own nm bytes maxL ret) {a : Addr} {n : Nat} {f : Nat → Int32} (V : own_AB Z h a n f) {j : Int32} {i : Nat} {x : Int32} (hj : j.toInt = (i : Int)) (hi : i < n) (ga : n0 ≤ a) (hd : decode bytes pc = .ok (.bastore, 1)) (hp : pc + 1 = pc')
    (r : ∀ h', Wr h h' a i (.int (x.toInt8.toInt32)) → own_AB Z h' a n (own_upd f i (x.toInt8.toInt32)) → own_Run p l e R s m args below meth c n0 Kf h' k q (mkF m pc' Ls rest)) : own_Run p l e R s m args below meth c n0 Kf h k q (mkF m pc Ls (.int x :: .int j :: .ref a :: rest)) := fun T locs X eT N => by
  subst hp
  obtain ⟨p1, p2⟩ := own_nat hj
  obtain ⟨hn, cl, A, S, H⟩ := id V
  obtain ⟨T1, h1, X1, e1, W1, st1⟩ := stB X C.g_x C.g_z eT A (own_inb hj S hi) (g := mkF m pc Ls (.int x :: .int j :: .ref a :: rest)) rfl rfl (hb C.g_by hd)
  have W2 : Wr h h1 a i (.int (x.toInt8.toInt32)) := by rw [← p2]; exact W1
  obtain ⟨t, o, h2, h3⟩ := r h1 W2 ((own_A.set V W2 hi).congr fun j hj => by by_cases e : j = i <;> simp [own_upd, e]) T1 _ X1 e1 (Fr.snoc X1 N ga)
  exact ⟨t, o, st1 _ h2, h3⟩
theorem own_lenB (C : own_Ctx p s m meth c Z own nm bytes maxL ret) {a : Addr} {n : Nat} {f : Nat → Int32} (V : own_AB Z h a n f) (hd : decode bytes pc = .ok (.arraylength, 1)) (hp : pc + 1 = pc') (r : own_Run p l e R s m args below meth c n0 Kf h k q (mkF m pc' Ls (.int (Nat.toInt32 n) :: rest))) : own_Run p l e R s m args below meth c n0 Kf h k q (mkF m pc Ls (.ref a :: rest)) := by
  obtain ⟨hn, cl, A, S, H⟩ := V
  subst hp
  rw [← S] at r
  exact own_st (fun T locs X eT t kk => X.arraylength C.g_x (by rw [eT]; exact A.1) (State.isArrayOf_alike C.g_z.alike A.2.1) (g := mkF m pc Ls (.ref a :: rest)) rfl rfl (hb C.g_by hd) t kk) r
theorem own_ldB (C : own_Ctx p s m meth c Z own nm bytes maxL ret) {a : Addr} {n : Nat} {f : Nat → Int32} (V : own_AB Z h a n f) {j : Int32} {i : Nat} (hj : j.toInt = (i : Int)) (hi : i < n) (hd : decode bytes pc = .ok (.baload, 1)) (hp : pc + 1 = pc') (r : own_Run p l e R s m args below meth c n0 Kf h k q (mkF m pc' Ls (.int (f i) :: rest))) : own_Run p l e R s m args below meth c n0 Kf h k q (mkF m pc Ls (.int j :: .ref a :: rest)) := by
  obtain ⟨p1, p2⟩ := own_nat hj
  obtain ⟨hn, cl, A, S, H⟩ := V
  subst hp
  exact own_st (fun T locs X eT t kk => X.baloadBytes C.g_x (by rw [eT]; exact A.1) (State.isArrayOf_alike C.g_z.alike A.2.1) A.2.2 (own_inb hj S hi) (by rw [p2]; exact H i hi) (g := mkF m pc Ls (.int j :: .ref a :: rest)) rfl rfl (hb C.g_by hd) t kk) r
theorem own_ldBV (C : own_Ctx p s m meth c Z own nm bytes maxL ret) {a : Addr} {n : Nat} {f : Nat → Int32} (V : own_AB Z h a n f) {j : Int32} {i : Nat} {v : Int32} (hj : j.toInt = (i : Int)) (hi : i < n) (hv : f i = v) (hd : decode bytes pc = .ok (.baload, 1)) (hp : pc + 1 = pc') (r : own_Run p l e R s m args below meth c n0 Kf h k q (mkF m pc' Ls (.int v :: rest))) : own_Run p l e R s m args below meth c n0 Kf h k q (mkF m pc Ls (.int j :: .ref a :: rest)) := by
  subst hv; exact own_ldB C V hj hi hd hp r
theorem own_newAZ (C : own_Ctx p s m meth c Z own nm bytes maxL ret) (w : (Jvm.Cond.arrayClass .boolean).before a0 Z = true) (Z0 : n0 ≤ h.size) (hd : decode bytes pc = .ok (.newarray .boolean, 2)) (hp : pc + 2 = pc') {n : Int32} {nn cap : Nat} (hn : n.toInt = (nn : Int)) (hcap : nn ≤ cap) (hbig : cap * 8 ≤ 536870912) (hc : k + 1 ≤ R.cells) (hl : q + cap ≤ R.slots)
    (r : ∀ h' a, a = h.size → n0 ≤ a → n0 ≤ h'.size → Ext h h' → own_AZ Z h' a nn (fun _ => (0 : Int32)) → own_Run p l e R s m args below meth c n0 Kf h' (k + 1) (q + cap) (mkF m pc' Ls (.ref a :: rest))) : own_Run p l e R s m args below meth c n0 Kf h k q (mkF m pc Ls (.int n :: rest)) := own_newA C (aty := .boolean) w Z0 hd hp hn hcap hbig hc hl r
theorem own_stZ (C : own_Ctx p s m meth c Z own nm bytes maxL ret) {a : Addr} {n : Nat} {f : Nat → Int32} (V : own_AZ Z h a n f) {j : Int32} {i : Nat} {x : Int32} (hj : j.toInt = (i : Int)) (hi : i < n) (ga : n0 ≤ a) (hd : decode bytes pc = .ok (.bastore, 1)) (hp : pc + 1 = pc')
    (r : ∀ h', Wr h h' a i (.int (x &&& 1)) → own_AZ Z h' a n (own_upd f i (x &&& 1)) → own_Run p l e R s m args below meth c n0 Kf h' k q (mkF m pc' Ls rest)) : own_Run p l e R s m args below meth c n0 Kf h k q (mkF m pc Ls (.int x :: .int j :: .ref a :: rest)) := fun T locs X eT N => by
  subst hp
  obtain ⟨p1, p2⟩ := own_nat hj
  obtain ⟨hn, cl, A, S, H⟩ := id V
  obtain ⟨T1, h1, X1, e1, W1, st1⟩ := stZ X C.g_x C.g_z eT A (own_inb hj S hi) (g := mkF m pc Ls (.int x :: .int j :: .ref a :: rest)) rfl rfl (hb C.g_by hd)
  have W2 : Wr h h1 a i (.int (x &&& 1)) := by rw [← p2]; exact W1
  obtain ⟨t, o, h2, h3⟩ := r h1 W2 ((own_A.set V W2 hi).congr fun j hj => by by_cases e : j = i <;> simp [own_upd, e]) T1 _ X1 e1 (Fr.snoc X1 N ga)
  exact ⟨t, o, st1 _ h2, h3⟩
theorem own_lenZ (C : own_Ctx p s m meth c Z own nm bytes maxL ret) {a : Addr} {n : Nat} {f : Nat → Int32} (V : own_AZ Z h a n f) (hd : decode bytes pc = .ok (.arraylength, 1)) (hp : pc + 1 = pc') (r : own_Run p l e R s m args below meth c n0 Kf h k q (mkF m pc' Ls (.int (Nat.toInt32 n) :: rest))) : own_Run p l e R s m args below meth c n0 Kf h k q (mkF m pc Ls (.ref a :: rest)) := by
  obtain ⟨hn, cl, A, S, H⟩ := V
  subst hp
  rw [← S] at r
  exact own_st (fun T locs X eT t kk => X.arraylength C.g_x (by rw [eT]; exact A.1) (State.isArrayOf_alike C.g_z.alike A.2.1) (g := mkF m pc Ls (.ref a :: rest)) rfl rfl (hb C.g_by hd) t kk) r
theorem own_newAJ (C : own_Ctx p s m meth c Z own nm bytes maxL ret) (w : (Jvm.Cond.arrayClass .long).before a0 Z = true) (Z0 : n0 ≤ h.size) (hd : decode bytes pc = .ok (.newarray .long, 2)) (hp : pc + 2 = pc') {n : Int32} {nn cap : Nat} (hn : n.toInt = (nn : Int)) (hcap : nn ≤ cap) (hbig : cap * 8 ≤ 536870912) (hc : k + 1 ≤ R.cells) (hl : q + cap ≤ R.slots)
    (r : ∀ h' a, a = h.size → n0 ≤ a → n0 ≤ h'.size → Ext h h' → own_AJ Z h' a nn (fun _ => (0 : Int64)) → own_Run p l e R s m args below meth c n0 Kf h' (k + 1) (q + cap) (mkF m pc' Ls (.ref a :: rest))) : own_Run p l e R s m args below meth c n0 Kf h k q (mkF m pc Ls (.int n :: rest)) := own_newA C (aty := .long) w Z0 hd hp hn hcap hbig hc hl r
theorem own_stJ (C : own_Ctx p s m meth c Z own nm bytes maxL ret) {a : Addr} {n : Nat} {f : Nat → Int64} (V : own_AJ Z h a n f) {j : Int32} {i : Nat} {x : Int64} (hj : j.toInt = (i : Int)) (hi : i < n) (ga : n0 ≤ a) (hd : decode bytes pc = .ok (.lastore, 1)) (hp : pc + 1 = pc')
    (r : ∀ h', Wr h h' a i (.long x) → own_AJ Z h' a n (own_upd f i x) → own_Run p l e R s m args below meth c n0 Kf h' k q (mkF m pc' Ls rest)) : own_Run p l e R s m args below meth c n0 Kf h k q (mkF m pc Ls (.long x :: .int j :: .ref a :: rest)) := fun T locs X eT N => by
  subst hp
  obtain ⟨p1, p2⟩ := own_nat hj
  obtain ⟨hn, cl, A, S, H⟩ := id V
  obtain ⟨T1, h1, X1, e1, W1, st1⟩ := stJ X C.g_x C.g_z eT A (own_inb hj S hi) (g := mkF m pc Ls (.long x :: .int j :: .ref a :: rest)) rfl rfl (hb C.g_by hd)
  have W2 : Wr h h1 a i (.long x) := by rw [← p2]; exact W1
  obtain ⟨t, o, h2, h3⟩ := r h1 W2 ((own_A.set V W2 hi).congr fun j hj => by by_cases e : j = i <;> simp [own_upd, e]) T1 _ X1 e1 (Fr.snoc X1 N ga)
  exact ⟨t, o, st1 _ h2, h3⟩
theorem own_lenJ (C : own_Ctx p s m meth c Z own nm bytes maxL ret) {a : Addr} {n : Nat} {f : Nat → Int64} (V : own_AJ Z h a n f) (hd : decode bytes pc = .ok (.arraylength, 1)) (hp : pc + 1 = pc') (r : own_Run p l e R s m args below meth c n0 Kf h k q (mkF m pc' Ls (.int (Nat.toInt32 n) :: rest))) : own_Run p l e R s m args below meth c n0 Kf h k q (mkF m pc Ls (.ref a :: rest)) := by
  obtain ⟨hn, cl, A, S, H⟩ := V
  subst hp
  rw [← S] at r
  exact own_st (fun T locs X eT t kk => X.arraylength C.g_x (by rw [eT]; exact A.1) (State.isArrayOf_alike C.g_z.alike A.2.1) (g := mkF m pc Ls (.ref a :: rest)) rfl rfl (hb C.g_by hd) t kk) r
end Own

theorem own_succ (i : Nat) : Nat.toInt32 i + (1 : Int32) = Nat.toInt32 (i + 1) := by
  show Int32.ofNat i + Int32.ofNat 1 = Int32.ofNat (i + 1)
  rw [Int32.ofNat_add]
theorem own_ti {i : Nat} (hi : i < 2 ^ 31) : (Nat.toInt32 i).toInt = (i : Int) := len_toInt hi
theorem own_tlt {i n : Nat} (hi : i < 2 ^ 31) (hn : n < 2 ^ 31) : Nat.toInt32 i < Nat.toInt32 n ↔ i < n := by
  rw [Int32.lt_iff_toInt_lt, own_ti hi, own_ti hn]; omega
theorem own_nz {n : Int32} {N : Nat} (hn : n.toInt = (N : Int)) (h0 : 0 < N) : n ≠ 0 := by
  intro e; subst e
  have z : (0 : Int32).toInt = 0 := rfl
  omega
theorem own_pos (p : Int32) : ∃ P : Nat, (p &&& (2147483647 : Int32)).toInt = (P : Int) ∧ P < 2147483648 := by
  have h1 := (Jvm.RoadKit.c_andS p (2147483647 : Int32)).2.2 (by decide)
  have h2 := Int32.toInt_lt (p &&& (2147483647 : Int32))
  exact ⟨(p &&& (2147483647 : Int32)).toInt.toNat, by omega, by omega⟩
theorem own_mod {x n : Int32} {X N : Nat} (hx : x.toInt = (X : Int)) (hn : n.toInt = (N : Int)) (h0 : 0 < N) : (x % n).toInt = ((X % N : Nat) : Int) := by
  have h := Int32.toInt_lt n
  rw [Int32.toInt_mod, hx, hn, Int.tmod_eq_emod_of_nonneg (by omega)]
  rfl
theorem own_rem (p : Int32) {n : Int32} {N : Nat} (hn : n.toInt = (N : Int)) (h0 : 0 < N) : ∃ A : Nat, A < N ∧ ((p &&& (2147483647 : Int32)) % n).toInt = (A : Int) := by
  obtain ⟨P, hP, _⟩ := own_pos p
  exact ⟨P % N, Nat.mod_lt _ h0, own_mod hP hn h0⟩
theorem own_add {x y : Int32} {X Y : Nat} (hx : x.toInt = (X : Int)) (hy : y.toInt = (Y : Int)) (hb : X + Y < 2147483648) : (x + y).toInt = ((X + Y : Nat) : Int) := by
  rw [Jvm.Free.XT.add32 ⟨by rw [hx, hy]; omega, by rw [hx, hy]; omega⟩, hx, hy]; omega
theorem own_sub1 {x : Int32} {X : Nat} (hx : x.toInt = (X : Int)) (h0 : 0 < X) : (x - (1 : Int32)).toInt = ((X - 1 : Nat) : Int) := by
  have h := Int32.toInt_lt x
  have o : (1 : Int32).toInt = 1 := rfl
  rw [Jvm.Free.XT.sub32 ⟨by rw [hx, o]; omega, by rw [hx, o]; omega⟩, hx, o]; omega
theorem own_inj {x y : Int32} {X Y : Nat} (hx : x.toInt = (X : Int)) (hy : y.toInt = (Y : Int)) : x = y ↔ X = Y := by
  rw [← Int32.toInt_inj, hx, hy]; omega
theorem own_low (p m : Int32) (M : Nat) (hm : m.toBitVec.toNat = M) (hM : M < 2147483648) : ∃ P : Nat, P ≤ M ∧ (p &&& m).toInt = (P : Int) := by
  have e : (p &&& m).toBitVec = p.toBitVec &&& m.toBitVec := rfl
  have l : (p &&& m).toBitVec.toNat ≤ M := by rw [e, BitVec.toNat_and, ← hm]; exact Nat.and_le_right
  refine ⟨(p &&& m).toBitVec.toNat, l, ?_⟩
  show (p &&& m).toBitVec.toInt = _
  rw [BitVec.toInt_eq_toNat_cond]; split <;> omega
theorem own_ix {a n b : Int32} {A N B : Nat} (ha : a.toInt = (A : Int)) (hn : n.toInt = (N : Int)) (hb : b.toInt = (B : Int)) (h1 : A < N) (h2 : B < N) (h3 : N ≤ 4) : ∃ I : Nat, I < N * N ∧ I = A * N + B ∧ ((a * n) + b).toInt = (I : Int) := by
  have hAN : A * N ≤ 12 ∧ A * N + B < N * N := by
    have t : N = 1 ∨ N = 2 ∨ N = 3 ∨ N = 4 := by omega
    rcases t with rfl | rfl | rfl | rfl <;> omega
  have e1 : (a * n).toInt = ((A * N : Nat) : Int) := by
    have e : a.toInt * n.toInt = ((A * N : Nat) : Int) := by rw [ha, hn]; rfl
    rw [Jvm.Free.XT.mul32 ⟨by rw [e]; omega, by rw [e]; omega⟩, e]
  exact ⟨A * N + B, hAN.2, rfl, own_add e1 hb (by omega)⟩
theorem own_ixi {A B A' B' N I I' : Nat} (h : I = A * N + B) (h' : I' = A' * N + B') (hb : B < N) (hb' : B' < N) : I = I' ↔ A = A' ∧ B = B' := by
  subst h h'
  constructor
  · intro e
    have h0 : 0 < N := by omega
    have d1 : (A * N + B) / N = A := by rw [Nat.mul_comm, Nat.mul_add_div h0, Nat.div_eq_of_lt hb]; rfl
    have d2 : (A' * N + B') / N = A' := by rw [Nat.mul_comm, Nat.mul_add_div h0, Nat.div_eq_of_lt hb']; rfl
    have e1 : A = A' := by rw [← d1, e, d2]
    subst e1; exact ⟨rfl, by omega⟩
  · rintro ⟨rfl, rfl⟩; rfl
theorem own_sq {n : Int32} {N : Nat} (hn : n.toInt = (N : Int)) (h3 : N ≤ 4) : ∃ M : Nat, M ≤ 16 ∧ M = N * N ∧ (n * n).toInt = (M : Int) := by
  have hN : N * N ≤ 16 := Nat.mul_le_mul h3 h3
  have e : n.toInt * n.toInt = ((N * N : Nat) : Int) := by rw [hn]; rfl
  exact ⟨N * N, hN, rfl, by rw [Jvm.Free.XT.mul32 ⟨by rw [e]; omega, by rw [e]; omega⟩, e]⟩
theorem own_n4 (p : Int32) : ∃ N : Nat, 0 < N ∧ N ≤ 4 ∧ ((1 : Int32) + (p &&& (3 : Int32))).toInt = (N : Int) := by
  obtain ⟨P, h1, h2⟩ := own_low p 3 3 rfl (by decide)
  exact ⟨1 + P, by omega, by omega, own_add (rfl : (1 : Int32).toInt = ((1 : Nat) : Int)) h2 (by omega)⟩
theorem own_win (p : Int32) : (0 : Int32) < (1 : Int32) + ((Jvm.Free.XT.ushr p (3 : Int32)) &&& (3 : Int32)) ∧ ¬ (1 : Int32) + ((Jvm.Free.XT.ushr p (3 : Int32)) &&& (3 : Int32)) = 0 := by
  obtain ⟨P, h1, h2⟩ := own_low (Jvm.Free.XT.ushr p (3 : Int32)) 3 3 rfl (by decide)
  have e := own_add (X := 1) (Y := P) (x := (1 : Int32)) rfl h2 (by omega)
  have z : (0 : Int32).toInt = 0 := rfl
  constructor
  · rw [Int32.lt_iff_toInt_lt, e]; omega
  · rw [← Int32.toInt_inj, e]; omega
theorem own_fs (p n : Int32) {N : Nat} (hn : n.toInt = (N : Int)) (h0 : 0 < N) : ∃ A : Nat, A < N ∧ ((p &&& (255 : Int32)) % n).toInt = (A : Int) := by
  obtain ⟨P, h1, h2⟩ := own_low p 255 255 rfl (by decide)
  exact ⟨P % N, Nat.mod_lt _ h0, own_mod h2 hn h0⟩

theorem own_d1_0 : decode method_2_code 0 = .ok (.iload_n 0, 1) := by decide +kernel
theorem own_d1_1 : decode method_2_code 1 = .ok (.sipush 255, 3) := by decide +kernel
theorem own_d1_4 : decode method_2_code 4 = .ok (.iand, 1) := by decide +kernel
theorem own_d1_5 : decode method_2_code 5 = .ok (.iload_n 1, 1) := by decide +kernel
theorem own_d1_6 : decode method_2_code 6 = .ok (.irem, 1) := by decide +kernel
theorem own_d1_7 : decode method_2_code 7 = .ok (.ireturn, 1) := by decide +kernel
theorem own_d2_0 : decode method_3_code 0 = .ok (.iload_n 0, 1) := by decide +kernel
theorem own_d2_1 : decode method_3_code 1 = .ok (.bipush 8, 2) := by decide +kernel
theorem own_d2_3 : decode method_3_code 3 = .ok (.iushr, 1) := by decide +kernel
theorem own_d2_4 : decode method_3_code 4 = .ok (.sipush 255, 3) := by decide +kernel
theorem own_d2_7 : decode method_3_code 7 = .ok (.iand, 1) := by decide +kernel
theorem own_d2_8 : decode method_3_code 8 = .ok (.iload_n 1, 1) := by decide +kernel
theorem own_d2_9 : decode method_3_code 9 = .ok (.irem, 1) := by decide +kernel
theorem own_d2_10 : decode method_3_code 10 = .ok (.ireturn, 1) := by decide +kernel
theorem own_d3_0 : decode prog_33_method_2_code 0 = .ok (.aload_n 0, 1) := by decide +kernel
theorem own_d3_1 : decode prog_33_method_2_code 1 = .ok (.invokespecial 7, 3) := by decide +kernel
theorem own_d3_4 : decode prog_33_method_2_code 4 = .ok (.aload_n 0, 1) := by decide +kernel
theorem own_d3_5 : decode prog_33_method_2_code 5 = .ok (.iload_n 1, 1) := by decide +kernel
theorem own_d3_6 : decode prog_33_method_2_code 6 = .ok (.putfield 12, 3) := by decide +kernel
theorem own_d3_9 : decode prog_33_method_2_code 9 = .ok (.aload_n 0, 1) := by decide +kernel
theorem own_d3_10 : decode prog_33_method_2_code 10 = .ok (.iload_n 2, 1) := by decide +kernel
theorem own_d3_11 : decode prog_33_method_2_code 11 = .ok (.putfield 16, 3) := by decide +kernel
theorem own_d3_14 : decode prog_33_method_2_code 14 = .ok (.aload_n 0, 1) := by decide +kernel
theorem own_d3_15 : decode prog_33_method_2_code 15 = .ok (.iload_n 1, 1) := by decide +kernel
theorem own_d3_16 : decode prog_33_method_2_code 16 = .ok (.iload_n 1, 1) := by decide +kernel
theorem own_d3_17 : decode prog_33_method_2_code 17 = .ok (.imul, 1) := by decide +kernel
theorem own_d3_18 : decode prog_33_method_2_code 18 = .ok (.newarray .int, 2) := by decide +kernel
theorem own_d3_20 : decode prog_33_method_2_code 20 = .ok (.putfield 19, 3) := by decide +kernel
theorem own_d3_23 : decode prog_33_method_2_code 23 = .ok (.aload_n 0, 1) := by decide +kernel
theorem own_d3_24 : decode prog_33_method_2_code 24 = .ok (.iload_n 2, 1) := by decide +kernel
theorem own_d3_25 : decode prog_33_method_2_code 25 = .ok (.ifCond .le 9, 3) := by decide +kernel
theorem own_d3_28 : decode prog_33_method_2_code 28 = .ok (.iload_n 1, 1) := by decide +kernel
theorem own_d3_29 : decode prog_33_method_2_code 29 = .ok (.iload_n 1, 1) := by decide +kernel
theorem own_d3_30 : decode prog_33_method_2_code 30 = .ok (.imul, 1) := by decide +kernel
theorem own_d3_31 : decode prog_33_method_2_code 31 = .ok (.goto 4, 3) := by decide +kernel
theorem own_d3_34 : decode prog_33_method_2_code 34 = .ok (.iconst 0, 1) := by decide +kernel
theorem own_d3_35 : decode prog_33_method_2_code 35 = .ok (.newarray .int, 2) := by decide +kernel
theorem own_d3_37 : decode prog_33_method_2_code 37 = .ok (.putfield 23, 3) := by decide +kernel
theorem own_d3_40 : decode prog_33_method_2_code 40 = .ok (.aload_n 0, 1) := by decide +kernel
theorem own_d3_41 : decode prog_33_method_2_code 41 = .ok (.getfield 19, 3) := by decide +kernel
theorem own_d3_44 : decode prog_33_method_2_code 44 = .ok (.iconst (-1), 1) := by decide +kernel
theorem own_d3_45 : decode prog_33_method_2_code 45 = .ok (.invokestatic 26, 3) := by decide +kernel
theorem own_d3_48 : decode prog_33_method_2_code 48 = .ok (.aload_n 0, 1) := by decide +kernel
theorem own_d3_49 : decode prog_33_method_2_code 49 = .ok (.getfield 23, 3) := by decide +kernel
theorem own_d3_52 : decode prog_33_method_2_code 52 = .ok (.iconst (-1), 1) := by decide +kernel
theorem own_d3_53 : decode prog_33_method_2_code 53 = .ok (.invokestatic 26, 3) := by decide +kernel
theorem own_d3_56 : decode prog_33_method_2_code 56 = .ok (.return_, 1) := by decide +kernel
theorem own_d5_0 : decode jdk_65_method_103_code 0 = .ok (.iconst 0, 1) := by decide +kernel
theorem own_d5_1 : decode jdk_65_method_103_code 1 = .ok (.istore_n 2, 1) := by decide +kernel
theorem own_d5_2 : decode jdk_65_method_103_code 2 = .ok (.aload_n 0, 1) := by decide +kernel
theorem own_d5_3 : decode jdk_65_method_103_code 3 = .ok (.arraylength, 1) := by decide +kernel
theorem own_d5_4 : decode jdk_65_method_103_code 4 = .ok (.istore_n 3, 1) := by decide +kernel
theorem own_d5_5 : decode jdk_65_method_103_code 5 = .ok (.iload_n 2, 1) := by decide +kernel
theorem own_d5_6 : decode jdk_65_method_103_code 6 = .ok (.iload_n 3, 1) := by decide +kernel
theorem own_d5_7 : decode jdk_65_method_103_code 7 = .ok (.if_icmp .ge 13, 3) := by decide +kernel
theorem own_d5_10 : decode jdk_65_method_103_code 10 = .ok (.aload_n 0, 1) := by decide +kernel
theorem own_d5_11 : decode jdk_65_method_103_code 11 = .ok (.iload_n 2, 1) := by decide +kernel
theorem own_d5_12 : decode jdk_65_method_103_code 12 = .ok (.iload_n 1, 1) := by decide +kernel
theorem own_d5_13 : decode jdk_65_method_103_code 13 = .ok (.iastore, 1) := by decide +kernel
theorem own_d5_14 : decode jdk_65_method_103_code 14 = .ok (.iinc 2 1, 3) := by decide +kernel
theorem own_d5_17 : decode jdk_65_method_103_code 17 = .ok (.goto (-12), 3) := by decide +kernel
theorem own_d5_20 : decode jdk_65_method_103_code 20 = .ok (.return_, 1) := by decide +kernel
theorem own_d6_0 : decode prog_33_method_3_code 0 = .ok (.aload_n 0, 1) := by decide +kernel
theorem own_d6_1 : decode prog_33_method_3_code 1 = .ok (.aload_n 0, 1) := by decide +kernel
theorem own_d6_2 : decode prog_33_method_3_code 2 = .ok (.getfield 19, 3) := by decide +kernel
theorem own_d6_5 : decode prog_33_method_3_code 5 = .ok (.iload_n 1, 1) := by decide +kernel
theorem own_d6_6 : decode prog_33_method_3_code 6 = .ok (.aload_n 0, 1) := by decide +kernel
theorem own_d6_7 : decode prog_33_method_3_code 7 = .ok (.getfield 12, 3) := by decide +kernel
theorem own_d6_10 : decode prog_33_method_3_code 10 = .ok (.imul, 1) := by decide +kernel
theorem own_d6_11 : decode prog_33_method_3_code 11 = .ok (.iload_n 2, 1) := by decide +kernel
theorem own_d6_12 : decode prog_33_method_3_code 12 = .ok (.iadd, 1) := by decide +kernel
theorem own_d6_13 : decode prog_33_method_3_code 13 = .ok (.iload_n 1, 1) := by decide +kernel
theorem own_d6_14 : decode prog_33_method_3_code 14 = .ok (.aload_n 0, 1) := by decide +kernel
theorem own_d6_15 : decode prog_33_method_3_code 15 = .ok (.getfield 12, 3) := by decide +kernel
theorem own_d6_18 : decode prog_33_method_3_code 18 = .ok (.imul, 1) := by decide +kernel
theorem own_d6_19 : decode prog_33_method_3_code 19 = .ok (.iload_n 2, 1) := by decide +kernel
theorem own_d6_20 : decode prog_33_method_3_code 20 = .ok (.iadd, 1) := by decide +kernel
theorem own_d6_21 : decode prog_33_method_3_code 21 = .ok (.invokevirtual 32, 3) := by decide +kernel
theorem own_d6_24 : decode prog_33_method_3_code 24 = .ok (.ireturn, 1) := by decide +kernel
theorem own_d7_0 : decode prog_33_method_5_code 0 = .ok (.aload_n 1, 1) := by decide +kernel
theorem own_d7_1 : decode prog_33_method_5_code 1 = .ok (.iload_n 2, 1) := by decide +kernel
theorem own_d7_2 : decode prog_33_method_5_code 2 = .ok (.iaload, 1) := by decide +kernel
theorem own_d7_3 : decode prog_33_method_5_code 3 = .ok (.iconst (-1), 1) := by decide +kernel
theorem own_d7_4 : decode prog_33_method_5_code 4 = .ok (.if_icmp .ne 27, 3) := by decide +kernel
theorem own_d7_7 : decode prog_33_method_5_code 7 = .ok (.aload_n 1, 1) := by decide +kernel
theorem own_d7_8 : decode prog_33_method_5_code 8 = .ok (.iload_n 2, 1) := by decide +kernel
theorem own_d7_9 : decode prog_33_method_5_code 9 = .ok (.aload_n 0, 1) := by decide +kernel
theorem own_d7_10 : decode prog_33_method_5_code 10 = .ok (.getfield 43, 3) := by decide +kernel
theorem own_d7_13 : decode prog_33_method_5_code 13 = .ok (.iastore, 1) := by decide +kernel
theorem own_d7_14 : decode prog_33_method_5_code 14 = .ok (.aload_n 1, 1) := by decide +kernel
theorem own_d7_15 : decode prog_33_method_5_code 15 = .ok (.iload_n 3, 1) := by decide +kernel
theorem own_d7_16 : decode prog_33_method_5_code 16 = .ok (.aload_n 0, 1) := by decide +kernel
theorem own_d7_17 : decode prog_33_method_5_code 17 = .ok (.getfield 43, 3) := by decide +kernel
theorem own_d7_20 : decode prog_33_method_5_code 20 = .ok (.iastore, 1) := by decide +kernel
theorem own_d7_21 : decode prog_33_method_5_code 21 = .ok (.aload_n 0, 1) := by decide +kernel
theorem own_d7_22 : decode prog_33_method_5_code 22 = .ok (.dup, 1) := by decide +kernel
theorem own_d7_23 : decode prog_33_method_5_code 23 = .ok (.getfield 43, 3) := by decide +kernel
theorem own_d7_26 : decode prog_33_method_5_code 26 = .ok (.iconst 1, 1) := by decide +kernel
theorem own_d7_27 : decode prog_33_method_5_code 27 = .ok (.iadd, 1) := by decide +kernel
theorem own_d7_28 : decode prog_33_method_5_code 28 = .ok (.putfield 43, 3) := by decide +kernel
theorem own_d7_31 : decode prog_33_method_5_code 31 = .ok (.aload_n 1, 1) := by decide +kernel
theorem own_d7_32 : decode prog_33_method_5_code 32 = .ok (.iload_n 2, 1) := by decide +kernel
theorem own_d7_33 : decode prog_33_method_5_code 33 = .ok (.iaload, 1) := by decide +kernel
theorem own_d7_34 : decode prog_33_method_5_code 34 = .ok (.ireturn, 1) := by decide +kernel
theorem own_d8_0 : decode prog_33_method_6_code 0 = .ok (.aload_n 0, 1) := by decide +kernel
theorem own_d8_1 : decode prog_33_method_6_code 1 = .ok (.getfield 43, 3) := by decide +kernel
theorem own_d8_4 : decode prog_33_method_6_code 4 = .ok (.ireturn, 1) := by decide +kernel
theorem own_d9_0 : decode prog_33_method_4_code 0 = .ok (.aload_n 0, 1) := by decide +kernel
theorem own_d9_1 : decode prog_33_method_4_code 1 = .ok (.getfield 16, 3) := by decide +kernel
theorem own_d9_4 : decode prog_33_method_4_code 4 = .ok (.ifCond .ne 13, 3) := by decide +kernel
theorem own_d9_17 : decode prog_33_method_4_code 17 = .ok (.aload_n 0, 1) := by decide +kernel
theorem own_d9_18 : decode prog_33_method_4_code 18 = .ok (.aload_n 0, 1) := by decide +kernel
theorem own_d9_19 : decode prog_33_method_4_code 19 = .ok (.getfield 23, 3) := by decide +kernel
theorem own_d9_22 : decode prog_33_method_4_code 22 = .ok (.iload_n 1, 1) := by decide +kernel
theorem own_d9_23 : decode prog_33_method_4_code 23 = .ok (.aload_n 0, 1) := by decide +kernel
theorem own_d9_24 : decode prog_33_method_4_code 24 = .ok (.getfield 12, 3) := by decide +kernel
theorem own_d9_27 : decode prog_33_method_4_code 27 = .ok (.imul, 1) := by decide +kernel
theorem own_d9_28 : decode prog_33_method_4_code 28 = .ok (.iload_n 2, 1) := by decide +kernel
theorem own_d9_29 : decode prog_33_method_4_code 29 = .ok (.iadd, 1) := by decide +kernel
theorem own_d9_30 : decode prog_33_method_4_code 30 = .ok (.iload_n 2, 1) := by decide +kernel
theorem own_d9_31 : decode prog_33_method_4_code 31 = .ok (.aload_n 0, 1) := by decide +kernel
theorem own_d9_32 : decode prog_33_method_4_code 32 = .ok (.getfield 12, 3) := by decide +kernel
theorem own_d9_35 : decode prog_33_method_4_code 35 = .ok (.imul, 1) := by decide +kernel
theorem own_d9_36 : decode prog_33_method_4_code 36 = .ok (.iload_n 1, 1) := by decide +kernel
theorem own_d9_37 : decode prog_33_method_4_code 37 = .ok (.iadd, 1) := by decide +kernel
theorem own_d9_38 : decode prog_33_method_4_code 38 = .ok (.invokevirtual 32, 3) := by decide +kernel
theorem own_d9_41 : decode prog_33_method_4_code 41 = .ok (.ireturn, 1) := by decide +kernel
theorem own_pn0 : plainName "com/example/words_to_weights/wordstoweights/model/PairCounterAddOrderedPinLaw" = true := by first | (simp [plainName, overriddenIn]; done) | decide +kernel
theorem own_pn1 : plainName "java/util/Arrays" = true := by first | (simp [plainName, overriddenIn]; done) | decide +kernel
theorem own_pn2 : plainName "com/example/words_to_weights/wordstoweights/model/PairCounter" = true := by first | (simp [plainName, overriddenIn]; done) | decide +kernel
theorem own_pd0 : parseMethodDescriptor "([II)V" = some ⟨[(.array .int), .int], none⟩ := by decide +kernel
theorem own_pd1 : parseMethodDescriptor "([III)I" = some ⟨[(.array .int), .int, .int], some .int⟩ := by decide +kernel
theorem own_pd2 : parseMethodDescriptor "(II)I" = some ⟨[.int, .int], some .int⟩ := by decide +kernel
theorem own_pd3 : parseMethodDescriptor "(II)V" = some ⟨[.int, .int], none⟩ := by decide +kernel
theorem own_pd4 : parseMethodDescriptor "()I" = some ⟨[], some .int⟩ := by decide +kernel
set_option maxRecDepth 65536 in
set_option maxHeartbeats 40000000 in
theorem own_m1 {l : Launch} {Z : State} {a0 : Array Value} (hw : ∀ d ∈ tables_1, d.before a0 Z = true) {n0 : Nat} {ws : List Jvm.Cond} {h : Heap} (x : Int32) (n : Int32) (hn : n ≠ 0) :
    own_Met l Z n0 (⟨"com/example/words_to_weights/wordstoweights/model/PairCounterAddOrderedPinLaw", "fst", "(II)I"⟩ : MethodName) method_2_code 2 (some .int) ({ frames := 0, cells := 0, slots := 0, locals := 0 } : Room) ws #[(.int x), (.int n)] h (fun v h' => (v = some (.int ((x &&& (255 : Int32)) % n))) ∧ (h = h')) := by
  refine own_met own_pn0 #[.val (.int x), .val (.int n)] (fun m => by first | (simp [entryFrame, mkF, argsToLocals, Value.category]; done) | rfl) ?_
  intro p_ e_ s_ m_ b_ mt_ c_ C
  replace C : own_Ctx p_ s_ m_ mt_ c_ Z "com/example/words_to_weights/wordstoweights/model/PairCounterAddOrderedPinLaw" "fst" method_2_code 2 (some .int) := C
  refine own_iloadN C (pc' := 1) own_d1_0 rfl rfl ?_
  refine own_sipush C (pc' := 4) (v := (255 : Int32)) own_d1_1 rfl (by decide) ?_
  refine own_iand C (pc' := 5) own_d1_4 rfl ?_
  refine own_iloadN C (pc' := 6) own_d1_5 rfl rfl ?_
  refine own_irem C (pc' := 7) own_d1_6 rfl (by assumption) ?_
  exact own_ret C (t := .int) rfl rfl (Or.inl ⟨rfl, by simp, _, rfl⟩) own_d1_7 (by decide) (by decide) (⟨rfl, rfl⟩)
set_option maxRecDepth 65536 in
set_option maxHeartbeats 40000000 in
theorem own_m2 {l : Launch} {Z : State} {a0 : Array Value} (hw : ∀ d ∈ tables_1, d.before a0 Z = true) {n0 : Nat} {ws : List Jvm.Cond} {h : Heap} (x : Int32) (n : Int32) (hn : n ≠ 0) :
    own_Met l Z n0 (⟨"com/example/words_to_weights/wordstoweights/model/PairCounterAddOrderedPinLaw", "snd", "(II)I"⟩ : MethodName) method_3_code 2 (some .int) ({ frames := 0, cells := 0, slots := 0, locals := 0 } : Room) ws #[(.int x), (.int n)] h (fun v h' => (v = some (.int (((Jvm.Free.XT.ushr x (8 : Int32)) &&& (255 : Int32)) % n))) ∧ (h = h')) := by
  refine own_met own_pn0 #[.val (.int x), .val (.int n)] (fun m => by first | (simp [entryFrame, mkF, argsToLocals, Value.category]; done) | rfl) ?_
  intro p_ e_ s_ m_ b_ mt_ c_ C
  replace C : own_Ctx p_ s_ m_ mt_ c_ Z "com/example/words_to_weights/wordstoweights/model/PairCounterAddOrderedPinLaw" "snd" method_3_code 2 (some .int) := C
  refine own_iloadN C (pc' := 1) own_d2_0 rfl rfl ?_
  refine own_bipush C (pc' := 3) (v := (8 : Int32)) own_d2_1 rfl (by decide) ?_
  refine own_iushr C (pc' := 4) own_d2_3 rfl ?_
  refine own_sipush C (pc' := 7) (v := (255 : Int32)) own_d2_4 rfl (by decide) ?_
  refine own_iand C (pc' := 8) own_d2_7 rfl ?_
  refine own_iloadN C (pc' := 9) own_d2_8 rfl rfl ?_
  refine own_irem C (pc' := 10) own_d2_9 rfl (by assumption) ?_
  exact own_ret C (t := .int) rfl rfl (Or.inl ⟨rfl, by simp, _, rfl⟩) own_d2_10 (by decide) (by decide) (⟨rfl, rfl⟩)
set_option maxRecDepth 65536 in
set_option maxHeartbeats 40000000 in
theorem own_m5 {l : Launch} {Z : State} {a0 : Array Value} (hw : ∀ d ∈ tables_1, d.before a0 Z = true) {n0 : Nat} {ws : List Jvm.Cond} {h : Heap} (a : Addr) (x : Int32) (n : Nat) (f : Nat → Int32) (Z0 : n0 ≤ h.size) (f0 : n0 ≤ a) (f1 : own_AI Z h a n f) :
    own_Met l Z n0 (⟨"java/util/Arrays", "fill", "([II)V"⟩ : MethodName) jdk_65_method_103_code 4 none ({ frames := 0, cells := 0, slots := 0, locals := 0 } : Room) ws #[(.ref a), (.int x)] h (fun v h' => (v = none) ∧ (Keep h h' [a]) ∧ (own_AI Z h' a n (fun _ => x))) := by
  refine own_met own_pn1 #[.val (.ref a), .val (.int x), .unset, .unset] (fun m => by first | (simp [entryFrame, mkF, argsToLocals, Value.category]; done) | rfl) ?_
  intro p_ e_ s_ m_ b_ mt_ c_ C
  replace C : own_Ctx p_ s_ m_ mt_ c_ Z "java/util/Arrays" "fill" jdk_65_method_103_code 4 none := C
  have K0 : Keep h h [a] := Keep.refl _ _
  refine own_iconst C (pc' := 1) (v := (0 : Int32)) own_d5_0 rfl (by decide) ?_
  refine own_istoreN C (pc' := 2) (Ls' := #[.val (.ref a), .val (.int x), .val (.int (0 : Int32)), .unset]) own_d5_1 rfl rfl ?_
  refine own_aloadN C (pc' := 3) own_d5_2 rfl rfl rfl ?_
  refine own_lenI C (pc' := 4) f1 own_d5_3 rfl ?_
  refine own_istoreN C (pc' := 5) (Ls' := #[.val (.ref a), .val (.int x), .val (.int (0 : Int32)), .val (.int (Nat.toInt32 n))]) own_d5_4 rfl rfl ?_
  have hn : n < 2 ^ 31 := f1.1
  have loop : ∀ (t i : Nat) (hh : Heap) (g : Nat → Int32), t + i = n → own_AI Z hh a n g → (∀ j, j < i → g j = x) → Keep h hh [a] → n0 ≤ hh.size → own_Run p_ l e_ ({ frames := 0, cells := 0, slots := 0, locals := 0 } : Room) s_ m_ #[(.ref a), (.int x)] b_ mt_ c_ n0 (own_K b_ ({ frames := 0, cells := 0, slots := 0, locals := 0 } : Room) s_ n0 (fun v h' => (v = none) ∧ (Keep h h' [a]) ∧ (own_AI Z h' a n (fun _ => x)))) hh 0 0 (mkF m_ 5 #[.val (.ref a), .val (.int x), .val (.int (Nat.toInt32 i)), .val (.int (Nat.toInt32 n))] []) := by
    intro t; induction t with
    | zero =>
      intro i hh g ht V hg K Z1
      refine own_iloadN C (pc' := 6) own_d5_5 rfl rfl ?_
      refine own_iloadN C (pc' := 7) own_d5_6 rfl rfl ?_
      refine own_ii_ge C (pc1 := 20) (pc2 := 10) own_d5_7 rfl rfl (fun c1 => ?_) (fun c1 => absurd c1 (by rw [own_tlt (by omega) hn]; omega))
      exact own_retV C rfl own_d5_20 (by decide) (by decide) (⟨rfl, K, (own_A.congr V fun j hj => congrArg _ (hg j (by omega)))⟩)
    | succ t ih =>
      intro i hh g ht V hg K Z1
      refine own_iloadN C (pc' := 6) own_d5_5 rfl rfl ?_
      refine own_iloadN C (pc' := 7) own_d5_6 rfl rfl ?_
      refine own_ii_ge C (pc1 := 20) (pc2 := 10) own_d5_7 rfl rfl (fun c2 => absurd c2 (by rw [own_tlt (by omega) hn]; exact not_not_intro (by omega))) (fun c2 => ?_)
      refine own_aloadN C (pc' := 11) own_d5_10 rfl rfl rfl ?_
      refine own_iloadN C (pc' := 12) own_d5_11 rfl rfl ?_
      refine own_iloadN C (pc' := 13) own_d5_12 rfl rfl ?_
      refine own_stI C (pc' := 14) V (i := i) (own_ti (by omega)) (by omega) f0 own_d5_13 rfl (fun h3 W4 V5 => ?_)
      have Z6 : n0 ≤ h3.size := Nat.le_trans Z1 (Nat.le_of_eq (Wr.size W4).symm)
      have K7 := Keep.wr K W4 (Or.inl (List.mem_of_getElem? (i := 0) rfl))
      have F8 : own_AI Z h3 a n (own_upd g i x) := V5
      refine own_iinc C (pc' := 17) (w := (1 : Int32)) (Ls' := #[.val (.ref a), .val (.int x), .val (.int ((Nat.toInt32 i) + (1 : Int32))), .val (.int (Nat.toInt32 n))]) own_d5_14 rfl (by decide) rfl rfl ?_
      refine own_goto C (pc' := 5) own_d5_17 rfl ?_
      rw [own_succ]
      exact ih (i + 1) h3 (own_upd g i x) (by omega) F8 (fun j hj => by by_cases e : j = i <;> simp [own_upd, e] <;> exact hg j (by omega)) K7 Z6
  exact loop n 0 h f rfl f1 (fun j hj => absurd hj (Nat.not_lt_zero j)) K0 Z0
set_option maxRecDepth 65536 in
set_option maxHeartbeats 40000000 in
theorem own_init0 {l : Launch} {Z : State} {a0 : Array Value} (hw : ∀ d ∈ tables_1, d.before a0 Z = true) {n0 : Nat} {ws : List Jvm.Cond} {h : Heap} (a : Addr) (N : Int32) (mm : Nat) (Z0 : n0 ≤ h.size) (f0 : Exa Z h a "com/example/words_to_weights/wordstoweights/model/PairCounter") (f1 : n0 ≤ a) (f2 : Fld Z h a "com/example/words_to_weights/wordstoweights/model/PairCounter" "terms" "I" (.int (0 : Int32))) (f3 : Fld Z h a "com/example/words_to_weights/wordstoweights/model/PairCounter" "window" "I" (.int (0 : Int32))) (f4 : Fld Z h a "com/example/words_to_weights/wordstoweights/model/PairCounter" "orderedSlots" "[I" .null) (f5 : Fld Z h a "com/example/words_to_weights/wordstoweights/model/PairCounter" "windowSlots" "[I" .null) (f6 : Fld Z h a "com/example/words_to_weights/wordstoweights/model/PairCounter" "slots" "I" (.int (0 : Int32))) (hN : (N * N).toInt = (mm : Int)) (hcap : mm ≤ 16) :
    own_Met l Z n0 (⟨"com/example/words_to_weights/wordstoweights/model/PairCounter", "<init>", "(II)V"⟩ : MethodName) prog_33_method_2_code 3 none ({ frames := 1, cells := 2, slots := 16, locals := 15 } : Room) ws #[(.ref a), (.int N), (.int (0 : Int32))] h (fun v h' => ∃ os : Addr, ∃ wsl : Addr, (v = none) ∧ (Keep h h' [a]) ∧ (n0 ≤ os ∧ h.size ≤ os) ∧ (n0 ≤ wsl ∧ h.size ≤ wsl) ∧ (Exa Z h' a "com/example/words_to_weights/wordstoweights/model/PairCounter") ∧ (Fld Z h' a "com/example/words_to_weights/wordstoweights/model/PairCounter" "terms" "I" (.int N)) ∧ (Fld Z h' a "com/example/words_to_weights/wordstoweights/model/PairCounter" "window" "I" (.int (0 : Int32))) ∧ (Fld Z h' a "com/example/words_to_weights/wordstoweights/model/PairCounter" "orderedSlots" "[I" (.ref os)) ∧ (Fld Z h' a "com/example/words_to_weights/wordstoweights/model/PairCounter" "windowSlots" "[I" (.ref wsl)) ∧ (Fld Z h' a "com/example/words_to_weights/wordstoweights/model/PairCounter" "slots" "I" (.int (0 : Int32))) ∧ (own_AI Z h' os mm (fun _ => (-1 : Int32))) ∧ (own_AI Z h' wsl 0 (fun _ => (-1 : Int32))) ∧ (a ≠ os) ∧ (a ≠ wsl) ∧ (os ≠ wsl)) := by
  refine own_met own_pn2 #[.val (.ref a), .val (.int N), .val (.int (0 : Int32))] (fun m => by first | (simp [entryFrame, mkF, argsToLocals, Value.category]; done) | rfl) ?_
  intro p_ e_ s_ m_ b_ mt_ c_ C
  replace C : own_Ctx p_ s_ m_ mt_ c_ Z "com/example/words_to_weights/wordstoweights/model/PairCounter" "<init>" prog_33_method_2_code 3 none := C
  have K0 : Keep h h [a] := Keep.refl _ _
  refine own_aloadN C (pc' := 1) own_d3_0 rfl rfl rfl ?_
  refine own_initO C (pc' := 4) (W := 0) (hw _ (List.mem_of_getElem? (i := 13) rfl)) (hw _ (List.mem_of_getElem? (i := 14) rfl)) (hw _ (List.mem_of_getElem? (i := 15) rfl)) own_d3_1 rfl rfl (by decide) (Nat.le_of_eq rfl) (by decide) ?_
  refine own_aloadN C (pc' := 5) own_d3_4 rfl rfl rfl ?_
  refine own_iloadN C (pc' := 6) own_d3_5 rfl rfl ?_
  refine own_putF C (pc' := 9) (hw _ (List.mem_of_getElem? (i := 16) rfl)) f2 f0 (Or.inr ⟨(hw _ (List.mem_of_getElem? (i := 17) rfl)), rfl, rfl⟩) (hw _ (List.mem_of_getElem? (i := 8) rfl)) (ty := .int) (by decide) rfl rfl f1 own_d3_6 rfl (fun h9 W10 => ?_)
  have Z11 : n0 ≤ h9.size := Nat.le_trans Z0 (Nat.le_of_eq (Wr.size W10).symm)
  have K12 := Keep.wr K0 W10 (Or.inl (List.mem_of_getElem? (i := 0) rfl))
  have F13 : Exa Z h9 a "com/example/words_to_weights/wordstoweights/model/PairCounter" := Exa.wr W10 f0
  have F14 : Fld Z h9 a "com/example/words_to_weights/wordstoweights/model/PairCounter" "terms" "I" (.int N) := Fld.same W10 f2
  have F15 : Fld Z h9 a "com/example/words_to_weights/wordstoweights/model/PairCounter" "window" "I" (.int (0 : Int32)) := Fld.other W10 f3 (Or.inr (slot_ne (Or.inr (hw _ (List.mem_of_getElem? (i := 19) rfl))) (Or.inr (hw _ (List.mem_of_getElem? (i := 17) rfl))) (by decide) (t := .int) (t' := .int) (by decide) (by decide)))
  have F16 : Fld Z h9 a "com/example/words_to_weights/wordstoweights/model/PairCounter" "orderedSlots" "[I" .null := Fld.other W10 f4 (Or.inr (slot_ne (Or.inr (hw _ (List.mem_of_getElem? (i := 22) rfl))) (Or.inr (hw _ (List.mem_of_getElem? (i := 17) rfl))) (by decide) (t := (.array .int)) (t' := .int) (by decide) (by decide)))
  have F17 : Fld Z h9 a "com/example/words_to_weights/wordstoweights/model/PairCounter" "windowSlots" "[I" .null := Fld.other W10 f5 (Or.inr (slot_ne (Or.inr (hw _ (List.mem_of_getElem? (i := 24) rfl))) (Or.inr (hw _ (List.mem_of_getElem? (i := 17) rfl))) (by decide) (t := (.array .int)) (t' := .int) (by decide) (by decide)))
  have F18 : Fld Z h9 a "com/example/words_to_weights/wordstoweights/model/PairCounter" "slots" "I" (.int (0 : Int32)) := Fld.other W10 f6 (Or.inr (slot_ne (Or.inl (hw _ (List.mem_of_getElem? (i := 39) rfl))) (Or.inr (hw _ (List.mem_of_getElem? (i := 17) rfl))) (by decide) (t := .int) (t' := .int) (by decide) (by decide)))
  refine own_aloadN C (pc' := 10) own_d3_9 rfl rfl rfl ?_
  refine own_iloadN C (pc' := 11) own_d3_10 rfl rfl ?_
  refine own_putF C (pc' := 14) (hw _ (List.mem_of_getElem? (i := 18) rfl)) F15 F13 (Or.inr ⟨(hw _ (List.mem_of_getElem? (i := 19) rfl)), rfl, rfl⟩) (hw _ (List.mem_of_getElem? (i := 8) rfl)) (ty := .int) (by decide) rfl rfl f1 own_d3_11 rfl (fun h19 W20 => ?_)
  have Z21 : n0 ≤ h19.size := Nat.le_trans Z11 (Nat.le_of_eq (Wr.size W20).symm)
  have K22 := Keep.wr K12 W20 (Or.inl (List.mem_of_getElem? (i := 0) rfl))
  have F23 : Exa Z h19 a "com/example/words_to_weights/wordstoweights/model/PairCounter" := Exa.wr W20 F13
  have F24 : Fld Z h19 a "com/example/words_to_weights/wordstoweights/model/PairCounter" "terms" "I" (.int N) := Fld.other W20 F14 (Or.inr (slot_ne (Or.inr (hw _ (List.mem_of_getElem? (i := 17) rfl))) (Or.inr (hw _ (List.mem_of_getElem? (i := 19) rfl))) (by decide) (t := .int) (t' := .int) (by decide) (by decide)))
  have F25 : Fld Z h19 a "com/example/words_to_weights/wordstoweights/model/PairCounter" "window" "I" (.int (0 : Int32)) := Fld.same W20 F15
  have F26 : Fld Z h19 a "com/example/words_to_weights/wordstoweights/model/PairCounter" "orderedSlots" "[I" .null := Fld.other W20 F16 (Or.inr (slot_ne (Or.inr (hw _ (List.mem_of_getElem? (i := 22) rfl))) (Or.inr (hw _ (List.mem_of_getElem? (i := 19) rfl))) (by decide) (t := (.array .int)) (t' := .int) (by decide) (by decide)))
  have F27 : Fld Z h19 a "com/example/words_to_weights/wordstoweights/model/PairCounter" "windowSlots" "[I" .null := Fld.other W20 F17 (Or.inr (slot_ne (Or.inr (hw _ (List.mem_of_getElem? (i := 24) rfl))) (Or.inr (hw _ (List.mem_of_getElem? (i := 19) rfl))) (by decide) (t := (.array .int)) (t' := .int) (by decide) (by decide)))
  have F28 : Fld Z h19 a "com/example/words_to_weights/wordstoweights/model/PairCounter" "slots" "I" (.int (0 : Int32)) := Fld.other W20 F18 (Or.inr (slot_ne (Or.inl (hw _ (List.mem_of_getElem? (i := 39) rfl))) (Or.inr (hw _ (List.mem_of_getElem? (i := 19) rfl))) (by decide) (t := .int) (t' := .int) (by decide) (by decide)))
  refine own_aloadN C (pc' := 15) own_d3_14 rfl rfl rfl ?_
  refine own_iloadN C (pc' := 16) own_d3_15 rfl rfl ?_
  refine own_iloadN C (pc' := 17) own_d3_16 rfl rfl ?_
  refine own_imul C (pc' := 18) own_d3_17 rfl ?_
  refine own_newAI C (pc' := 20) (hw _ (List.mem_of_getElem? (i := 20) rfl)) Z21 own_d3_18 rfl (nn := mm) (cap := 16) hN hcap (by decide) (by decide) (by decide) (fun h29 a30 ea31 ga32 Z33 E34 V35 => ?_)
  have ne36 : a ≠ a30 := by rw [ea31]; exact Nat.ne_of_lt (Exa.lt F23)
  have F37 : Exa Z h29 a "com/example/words_to_weights/wordstoweights/model/PairCounter" := Exa.ext E34 F23
  have F38 : Fld Z h29 a "com/example/words_to_weights/wordstoweights/model/PairCounter" "terms" "I" (.int N) := Fld.ext E34 F24
  have F39 : Fld Z h29 a "com/example/words_to_weights/wordstoweights/model/PairCounter" "window" "I" (.int (0 : Int32)) := Fld.ext E34 F25
  have F40 : Fld Z h29 a "com/example/words_to_weights/wordstoweights/model/PairCounter" "orderedSlots" "[I" .null := Fld.ext E34 F26
  have F41 : Fld Z h29 a "com/example/words_to_weights/wordstoweights/model/PairCounter" "windowSlots" "[I" .null := Fld.ext E34 F27
  have F42 : Fld Z h29 a "com/example/words_to_weights/wordstoweights/model/PairCounter" "slots" "I" (.int (0 : Int32)) := Fld.ext E34 F28
  have gk44 : h.size ≤ a30 := by rw [ea31]; exact K22.1
  have K43 := Keep.ext K22 E34
  refine own_putF C (pc' := 23) (hw _ (List.mem_of_getElem? (i := 21) rfl)) F40 F37 (Or.inr ⟨(hw _ (List.mem_of_getElem? (i := 22) rfl)), rfl, rfl⟩) (hw _ (List.mem_of_getElem? (i := 8) rfl)) (ty := (.array .int)) (by decide) rfl rfl f1 own_d3_20 rfl (fun h45 W46 => ?_)
  have Z47 : n0 ≤ h45.size := Nat.le_trans Z33 (Nat.le_of_eq (Wr.size W46).symm)
  have K48 := Keep.wr K43 W46 (Or.inl (List.mem_of_getElem? (i := 0) rfl))
  have F49 : Exa Z h45 a "com/example/words_to_weights/wordstoweights/model/PairCounter" := Exa.wr W46 F37
  have F50 : Fld Z h45 a "com/example/words_to_weights/wordstoweights/model/PairCounter" "terms" "I" (.int N) := Fld.other W46 F38 (Or.inr (slot_ne (Or.inr (hw _ (List.mem_of_getElem? (i := 17) rfl))) (Or.inr (hw _ (List.mem_of_getElem? (i := 22) rfl))) (by decide) (t := .int) (t' := (.array .int)) (by decide) (by decide)))
  have F51 : Fld Z h45 a "com/example/words_to_weights/wordstoweights/model/PairCounter" "window" "I" (.int (0 : Int32)) := Fld.other W46 F39 (Or.inr (slot_ne (Or.inr (hw _ (List.mem_of_getElem? (i := 19) rfl))) (Or.inr (hw _ (List.mem_of_getElem? (i := 22) rfl))) (by decide) (t := .int) (t' := (.array .int)) (by decide) (by decide)))
  have F52 : Fld Z h45 a "com/example/words_to_weights/wordstoweights/model/PairCounter" "orderedSlots" "[I" (.ref a30) := Fld.same W46 F40
  have F53 : Fld Z h45 a "com/example/words_to_weights/wordstoweights/model/PairCounter" "windowSlots" "[I" .null := Fld.other W46 F41 (Or.inr (slot_ne (Or.inr (hw _ (List.mem_of_getElem? (i := 24) rfl))) (Or.inr (hw _ (List.mem_of_getElem? (i := 22) rfl))) (by decide) (t := (.array .int)) (t' := (.array .int)) (by decide) (by decide)))
  have F54 : Fld Z h45 a "com/example/words_to_weights/wordstoweights/model/PairCounter" "slots" "I" (.int (0 : Int32)) := Fld.other W46 F42 (Or.inr (slot_ne (Or.inl (hw _ (List.mem_of_getElem? (i := 39) rfl))) (Or.inr (hw _ (List.mem_of_getElem? (i := 22) rfl))) (by decide) (t := .int) (t' := (.array .int)) (by decide) (by decide)))
  have F55 : own_AI Z h45 a30 mm (fun _ => (0 : Int32)) := own_A.other V35 W46 (Ne.symm ne36)
  refine own_aloadN C (pc' := 24) own_d3_23 rfl rfl rfl ?_
  refine own_iloadN C (pc' := 25) own_d3_24 rfl rfl ?_
  refine own_i0_le C (pc1 := 34) (pc2 := 28) own_d3_25 rfl rfl (fun c56 => ?_) (fun c56 => absurd c56 (by decide))
  refine own_iconst C (pc' := 35) (v := (0 : Int32)) own_d3_34 rfl (by decide) ?_
  refine own_newAI C (pc' := 37) (hw _ (List.mem_of_getElem? (i := 20) rfl)) Z47 own_d3_35 rfl (nn := 0) (cap := 0) (by decide) (by decide) (by decide) (by decide) (by decide) (fun h57 a58 ea59 ga60 Z61 E62 V63 => ?_)
  have ne64 : a ≠ a58 := by rw [ea59]; exact Nat.ne_of_lt (Exa.lt F49)
  have ne65 : a30 ≠ a58 := by rw [ea59]; exact Nat.ne_of_lt (own_A.lt F55)
  have F66 : Exa Z h57 a "com/example/words_to_weights/wordstoweights/model/PairCounter" := Exa.ext E62 F49
  have F67 : Fld Z h57 a "com/example/words_to_weights/wordstoweights/model/PairCounter" "terms" "I" (.int N) := Fld.ext E62 F50
  have F68 : Fld Z h57 a "com/example/words_to_weights/wordstoweights/model/PairCounter" "window" "I" (.int (0 : Int32)) := Fld.ext E62 F51
  have F69 : Fld Z h57 a "com/example/words_to_weights/wordstoweights/model/PairCounter" "orderedSlots" "[I" (.ref a30) := Fld.ext E62 F52
  have F70 : Fld Z h57 a "com/example/words_to_weights/wordstoweights/model/PairCounter" "windowSlots" "[I" .null := Fld.ext E62 F53
  have F71 : Fld Z h57 a "com/example/words_to_weights/wordstoweights/model/PairCounter" "slots" "I" (.int (0 : Int32)) := Fld.ext E62 F54
  have F72 : own_AI Z h57 a30 mm (fun _ => (0 : Int32)) := own_A.ext F55 E62
  have gk74 : h.size ≤ a58 := by rw [ea59]; exact K48.1
  have K73 := Keep.ext K48 E62
  refine own_putF C (pc' := 40) (hw _ (List.mem_of_getElem? (i := 23) rfl)) F70 F66 (Or.inr ⟨(hw _ (List.mem_of_getElem? (i := 24) rfl)), rfl, rfl⟩) (hw _ (List.mem_of_getElem? (i := 8) rfl)) (ty := (.array .int)) (by decide) rfl rfl f1 own_d3_37 rfl (fun h75 W76 => ?_)
  have Z77 : n0 ≤ h75.size := Nat.le_trans Z61 (Nat.le_of_eq (Wr.size W76).symm)
  have K78 := Keep.wr K73 W76 (Or.inl (List.mem_of_getElem? (i := 0) rfl))
  have F79 : Exa Z h75 a "com/example/words_to_weights/wordstoweights/model/PairCounter" := Exa.wr W76 F66
  have F80 : Fld Z h75 a "com/example/words_to_weights/wordstoweights/model/PairCounter" "terms" "I" (.int N) := Fld.other W76 F67 (Or.inr (slot_ne (Or.inr (hw _ (List.mem_of_getElem? (i := 17) rfl))) (Or.inr (hw _ (List.mem_of_getElem? (i := 24) rfl))) (by decide) (t := .int) (t' := (.array .int)) (by decide) (by decide)))
  have F81 : Fld Z h75 a "com/example/words_to_weights/wordstoweights/model/PairCounter" "window" "I" (.int (0 : Int32)) := Fld.other W76 F68 (Or.inr (slot_ne (Or.inr (hw _ (List.mem_of_getElem? (i := 19) rfl))) (Or.inr (hw _ (List.mem_of_getElem? (i := 24) rfl))) (by decide) (t := .int) (t' := (.array .int)) (by decide) (by decide)))
  have F82 : Fld Z h75 a "com/example/words_to_weights/wordstoweights/model/PairCounter" "orderedSlots" "[I" (.ref a30) := Fld.other W76 F69 (Or.inr (slot_ne (Or.inr (hw _ (List.mem_of_getElem? (i := 22) rfl))) (Or.inr (hw _ (List.mem_of_getElem? (i := 24) rfl))) (by decide) (t := (.array .int)) (t' := (.array .int)) (by decide) (by decide)))
  have F83 : Fld Z h75 a "com/example/words_to_weights/wordstoweights/model/PairCounter" "windowSlots" "[I" (.ref a58) := Fld.same W76 F70
  have F84 : Fld Z h75 a "com/example/words_to_weights/wordstoweights/model/PairCounter" "slots" "I" (.int (0 : Int32)) := Fld.other W76 F71 (Or.inr (slot_ne (Or.inl (hw _ (List.mem_of_getElem? (i := 39) rfl))) (Or.inr (hw _ (List.mem_of_getElem? (i := 24) rfl))) (by decide) (t := .int) (t' := (.array .int)) (by decide) (by decide)))
  have F85 : own_AI Z h75 a30 mm (fun _ => (0 : Int32)) := own_A.other F72 W76 (Ne.symm ne36)
  have F86 : own_AI Z h75 a58 0 (fun _ => (0 : Int32)) := own_A.other V63 W76 (Ne.symm ne64)
  refine own_aloadN C (pc' := 41) own_d3_40 rfl rfl rfl ?_
  refine own_getF C (pc' := 44) (hw _ (List.mem_of_getElem? (i := 21) rfl)) F82 own_d3_41 rfl ?_
  refine own_iconst C (pc' := 45) (v := (-1 : Int32)) own_d3_44 rfl (by decide) ?_
  refine own_callS C (pc' := 48) (y := (⟨"java/util/Arrays", "fill", "([II)V"⟩ : MethodName)) (argsL := [(.ref a30), (.int (-1 : Int32))]) (rest := []) 0 (hw _ (List.mem_of_getElem? (i := 25) rfl)) (hw _ (List.mem_of_getElem? (i := 26) rfl)) (hw _ (List.mem_of_getElem? (i := 27) rfl)) (hw _ (List.mem_of_getElem? (i := 28) rfl)) (by decide) (own_m5 hw a30 (-1 : Int32) mm (fun _ => (0 : Int32)) Z77 ga32 F85 ) (by decide) (by decide) (lenOf own_pd0 rfl) rfl (Nat.le_of_eq rfl) own_d3_45 rfl rfl (by decide) (by decide) (fun v87 h88 hq89 => ?_)
  obtain ⟨rfl, K90, F91⟩ := hq89
  have K93 := Keep.trans K78 K90 (allS (Or.inr gk44) all0)
  have Z94 : n0 ≤ h88.size := Nat.le_trans Z77 K90.1
  have F95 : Exa Z h88 a "com/example/words_to_weights/wordstoweights/model/PairCounter" := Exa.keep F79 K90
  have F96 : Fld Z h88 a "com/example/words_to_weights/wordstoweights/model/PairCounter" "terms" "I" (.int N) := Fld.keep F80 K90 (ninS ne36 nin0)
  have F97 : Fld Z h88 a "com/example/words_to_weights/wordstoweights/model/PairCounter" "window" "I" (.int (0 : Int32)) := Fld.keep F81 K90 (ninS ne36 nin0)
  have F98 : Fld Z h88 a "com/example/words_to_weights/wordstoweights/model/PairCounter" "orderedSlots" "[I" (.ref a30) := Fld.keep F82 K90 (ninS ne36 nin0)
  have F99 : Fld Z h88 a "com/example/words_to_weights/wordstoweights/model/PairCounter" "windowSlots" "[I" (.ref a58) := Fld.keep F83 K90 (ninS ne36 nin0)
  have F100 : Fld Z h88 a "com/example/words_to_weights/wordstoweights/model/PairCounter" "slots" "I" (.int (0 : Int32)) := Fld.keep F84 K90 (ninS ne36 nin0)
  have F101 : own_AI Z h88 a58 0 (fun _ => (0 : Int32)) := own_A.keep F86 K90 (ninS (Ne.symm ne65) nin0)
  show own_Run p_ l e_ _ s_ m_ _ b_ mt_ c_ n0 _ h88 _ _ (mkF m_ 48 #[.val (.ref a), .val (.int N), .val (.int (0 : Int32))] [])
  refine own_aloadN C (pc' := 49) own_d3_48 rfl rfl rfl ?_
  refine own_getF C (pc' := 52) (hw _ (List.mem_of_getElem? (i := 23) rfl)) F99 own_d3_49 rfl ?_
  refine own_iconst C (pc' := 53) (v := (-1 : Int32)) own_d3_52 rfl (by decide) ?_
  refine own_callS C (pc' := 56) (y := (⟨"java/util/Arrays", "fill", "([II)V"⟩ : MethodName)) (argsL := [(.ref a58), (.int (-1 : Int32))]) (rest := []) 0 (hw _ (List.mem_of_getElem? (i := 25) rfl)) (hw _ (List.mem_of_getElem? (i := 26) rfl)) (hw _ (List.mem_of_getElem? (i := 27) rfl)) (hw _ (List.mem_of_getElem? (i := 28) rfl)) (by decide) (own_m5 hw a58 (-1 : Int32) 0 (fun _ => (0 : Int32)) Z94 ga60 F101 ) (by decide) (by decide) (lenOf own_pd0 rfl) rfl (Nat.le_of_eq rfl) own_d3_53 rfl rfl (by decide) (by decide) (fun v102 h103 hq104 => ?_)
  obtain ⟨rfl, K105, F106⟩ := hq104
  have K108 := Keep.trans K93 K105 (allS (Or.inr gk74) all0)
  have Z109 : n0 ≤ h103.size := Nat.le_trans Z94 K105.1
  have F110 : Exa Z h103 a "com/example/words_to_weights/wordstoweights/model/PairCounter" := Exa.keep F95 K105
  have F111 : Fld Z h103 a "com/example/words_to_weights/wordstoweights/model/PairCounter" "terms" "I" (.int N) := Fld.keep F96 K105 (ninS ne64 nin0)
  have F112 : Fld Z h103 a "com/example/words_to_weights/wordstoweights/model/PairCounter" "window" "I" (.int (0 : Int32)) := Fld.keep F97 K105 (ninS ne64 nin0)
  have F113 : Fld Z h103 a "com/example/words_to_weights/wordstoweights/model/PairCounter" "orderedSlots" "[I" (.ref a30) := Fld.keep F98 K105 (ninS ne64 nin0)
  have F114 : Fld Z h103 a "com/example/words_to_weights/wordstoweights/model/PairCounter" "windowSlots" "[I" (.ref a58) := Fld.keep F99 K105 (ninS ne64 nin0)
  have F115 : Fld Z h103 a "com/example/words_to_weights/wordstoweights/model/PairCounter" "slots" "I" (.int (0 : Int32)) := Fld.keep F100 K105 (ninS ne64 nin0)
  have F116 : own_AI Z h103 a30 mm (fun _ => (-1 : Int32)) := own_A.keep F91 K105 (ninS ne65 nin0)
  show own_Run p_ l e_ _ s_ m_ _ b_ mt_ c_ n0 _ h103 _ _ (mkF m_ 56 #[.val (.ref a), .val (.int N), .val (.int (0 : Int32))] [])
  exact own_retV C rfl own_d3_56 (by decide) (by decide) (⟨a30, a58, rfl, K108, ⟨ga32, gk44⟩, ⟨ga60, gk74⟩, F110, F111, F112, F113, F114, F115, F116, F106, ne36, ne64, ne65⟩)
set_option maxRecDepth 65536 in
set_option maxHeartbeats 40000000 in
theorem own_initw {l : Launch} {Z : State} {a0 : Array Value} (hw : ∀ d ∈ tables_1, d.before a0 Z = true) {n0 : Nat} {ws : List Jvm.Cond} {h : Heap} (a : Addr) (N : Int32) (mm : Nat) (win : Int32) (Z0 : n0 ≤ h.size) (f0 : Exa Z h a "com/example/words_to_weights/wordstoweights/model/PairCounter") (f1 : n0 ≤ a) (f2 : Fld Z h a "com/example/words_to_weights/wordstoweights/model/PairCounter" "terms" "I" (.int (0 : Int32))) (f3 : Fld Z h a "com/example/words_to_weights/wordstoweights/model/PairCounter" "window" "I" (.int (0 : Int32))) (f4 : Fld Z h a "com/example/words_to_weights/wordstoweights/model/PairCounter" "orderedSlots" "[I" .null) (f5 : Fld Z h a "com/example/words_to_weights/wordstoweights/model/PairCounter" "windowSlots" "[I" .null) (f6 : Fld Z h a "com/example/words_to_weights/wordstoweights/model/PairCounter" "slots" "I" (.int (0 : Int32))) (hN : (N * N).toInt = (mm : Int)) (hcap : mm ≤ 16) (hwin : 0 < win) :
    own_Met l Z n0 (⟨"com/example/words_to_weights/wordstoweights/model/PairCounter", "<init>", "(II)V"⟩ : MethodName) prog_33_method_2_code 3 none ({ frames := 1, cells := 2, slots := 32, locals := 15 } : Room) ws #[(.ref a), (.int N), (.int win)] h (fun v h' => ∃ os : Addr, ∃ wsl : Addr, (v = none) ∧ (Keep h h' [a]) ∧ (n0 ≤ os ∧ h.size ≤ os) ∧ (n0 ≤ wsl ∧ h.size ≤ wsl) ∧ (Exa Z h' a "com/example/words_to_weights/wordstoweights/model/PairCounter") ∧ (Fld Z h' a "com/example/words_to_weights/wordstoweights/model/PairCounter" "terms" "I" (.int N)) ∧ (Fld Z h' a "com/example/words_to_weights/wordstoweights/model/PairCounter" "window" "I" (.int win)) ∧ (Fld Z h' a "com/example/words_to_weights/wordstoweights/model/PairCounter" "orderedSlots" "[I" (.ref os)) ∧ (Fld Z h' a "com/example/words_to_weights/wordstoweights/model/PairCounter" "windowSlots" "[I" (.ref wsl)) ∧ (Fld Z h' a "com/example/words_to_weights/wordstoweights/model/PairCounter" "slots" "I" (.int (0 : Int32))) ∧ (own_AI Z h' os mm (fun _ => (-1 : Int32))) ∧ (own_AI Z h' wsl mm (fun _ => (-1 : Int32))) ∧ (a ≠ os) ∧ (a ≠ wsl) ∧ (os ≠ wsl)) := by
  refine own_met own_pn2 #[.val (.ref a), .val (.int N), .val (.int win)] (fun m => by first | (simp [entryFrame, mkF, argsToLocals, Value.category]; done) | rfl) ?_
  intro p_ e_ s_ m_ b_ mt_ c_ C
  replace C : own_Ctx p_ s_ m_ mt_ c_ Z "com/example/words_to_weights/wordstoweights/model/PairCounter" "<init>" prog_33_method_2_code 3 none := C
  have K0 : Keep h h [a] := Keep.refl _ _
  refine own_aloadN C (pc' := 1) own_d3_0 rfl rfl rfl ?_
  refine own_initO C (pc' := 4) (W := 0) (hw _ (List.mem_of_getElem? (i := 13) rfl)) (hw _ (List.mem_of_getElem? (i := 14) rfl)) (hw _ (List.mem_of_getElem? (i := 15) rfl)) own_d3_1 rfl rfl (by decide) (Nat.le_of_eq rfl) (by decide) ?_
  refine own_aloadN C (pc' := 5) own_d3_4 rfl rfl rfl ?_
  refine own_iloadN C (pc' := 6) own_d3_5 rfl rfl ?_
  refine own_putF C (pc' := 9) (hw _ (List.mem_of_getElem? (i := 16) rfl)) f2 f0 (Or.inr ⟨(hw _ (List.mem_of_getElem? (i := 17) rfl)), rfl, rfl⟩) (hw _ (List.mem_of_getElem? (i := 8) rfl)) (ty := .int) (by decide) rfl rfl f1 own_d3_6 rfl (fun h117 W118 => ?_)
  have Z119 : n0 ≤ h117.size := Nat.le_trans Z0 (Nat.le_of_eq (Wr.size W118).symm)
  have K120 := Keep.wr K0 W118 (Or.inl (List.mem_of_getElem? (i := 0) rfl))
  have F121 : Exa Z h117 a "com/example/words_to_weights/wordstoweights/model/PairCounter" := Exa.wr W118 f0
  have F122 : Fld Z h117 a "com/example/words_to_weights/wordstoweights/model/PairCounter" "terms" "I" (.int N) := Fld.same W118 f2
  have F123 : Fld Z h117 a "com/example/words_to_weights/wordstoweights/model/PairCounter" "window" "I" (.int (0 : Int32)) := Fld.other W118 f3 (Or.inr (slot_ne (Or.inr (hw _ (List.mem_of_getElem? (i := 19) rfl))) (Or.inr (hw _ (List.mem_of_getElem? (i := 17) rfl))) (by decide) (t := .int) (t' := .int) (by decide) (by decide)))
  have F124 : Fld Z h117 a "com/example/words_to_weights/wordstoweights/model/PairCounter" "orderedSlots" "[I" .null := Fld.other W118 f4 (Or.inr (slot_ne (Or.inr (hw _ (List.mem_of_getElem? (i := 22) rfl))) (Or.inr (hw _ (List.mem_of_getElem? (i := 17) rfl))) (by decide) (t := (.array .int)) (t' := .int) (by decide) (by decide)))
  have F125 : Fld Z h117 a "com/example/words_to_weights/wordstoweights/model/PairCounter" "windowSlots" "[I" .null := Fld.other W118 f5 (Or.inr (slot_ne (Or.inr (hw _ (List.mem_of_getElem? (i := 24) rfl))) (Or.inr (hw _ (List.mem_of_getElem? (i := 17) rfl))) (by decide) (t := (.array .int)) (t' := .int) (by decide) (by decide)))
  have F126 : Fld Z h117 a "com/example/words_to_weights/wordstoweights/model/PairCounter" "slots" "I" (.int (0 : Int32)) := Fld.other W118 f6 (Or.inr (slot_ne (Or.inl (hw _ (List.mem_of_getElem? (i := 39) rfl))) (Or.inr (hw _ (List.mem_of_getElem? (i := 17) rfl))) (by decide) (t := .int) (t' := .int) (by decide) (by decide)))
  refine own_aloadN C (pc' := 10) own_d3_9 rfl rfl rfl ?_
  refine own_iloadN C (pc' := 11) own_d3_10 rfl rfl ?_
  refine own_putF C (pc' := 14) (hw _ (List.mem_of_getElem? (i := 18) rfl)) F123 F121 (Or.inr ⟨(hw _ (List.mem_of_getElem? (i := 19) rfl)), rfl, rfl⟩) (hw _ (List.mem_of_getElem? (i := 8) rfl)) (ty := .int) (by decide) rfl rfl f1 own_d3_11 rfl (fun h127 W128 => ?_)
  have Z129 : n0 ≤ h127.size := Nat.le_trans Z119 (Nat.le_of_eq (Wr.size W128).symm)
  have K130 := Keep.wr K120 W128 (Or.inl (List.mem_of_getElem? (i := 0) rfl))
  have F131 : Exa Z h127 a "com/example/words_to_weights/wordstoweights/model/PairCounter" := Exa.wr W128 F121
  have F132 : Fld Z h127 a "com/example/words_to_weights/wordstoweights/model/PairCounter" "terms" "I" (.int N) := Fld.other W128 F122 (Or.inr (slot_ne (Or.inr (hw _ (List.mem_of_getElem? (i := 17) rfl))) (Or.inr (hw _ (List.mem_of_getElem? (i := 19) rfl))) (by decide) (t := .int) (t' := .int) (by decide) (by decide)))
  have F133 : Fld Z h127 a "com/example/words_to_weights/wordstoweights/model/PairCounter" "window" "I" (.int win) := Fld.same W128 F123
  have F134 : Fld Z h127 a "com/example/words_to_weights/wordstoweights/model/PairCounter" "orderedSlots" "[I" .null := Fld.other W128 F124 (Or.inr (slot_ne (Or.inr (hw _ (List.mem_of_getElem? (i := 22) rfl))) (Or.inr (hw _ (List.mem_of_getElem? (i := 19) rfl))) (by decide) (t := (.array .int)) (t' := .int) (by decide) (by decide)))
  have F135 : Fld Z h127 a "com/example/words_to_weights/wordstoweights/model/PairCounter" "windowSlots" "[I" .null := Fld.other W128 F125 (Or.inr (slot_ne (Or.inr (hw _ (List.mem_of_getElem? (i := 24) rfl))) (Or.inr (hw _ (List.mem_of_getElem? (i := 19) rfl))) (by decide) (t := (.array .int)) (t' := .int) (by decide) (by decide)))
  have F136 : Fld Z h127 a "com/example/words_to_weights/wordstoweights/model/PairCounter" "slots" "I" (.int (0 : Int32)) := Fld.other W128 F126 (Or.inr (slot_ne (Or.inl (hw _ (List.mem_of_getElem? (i := 39) rfl))) (Or.inr (hw _ (List.mem_of_getElem? (i := 19) rfl))) (by decide) (t := .int) (t' := .int) (by decide) (by decide)))
  refine own_aloadN C (pc' := 15) own_d3_14 rfl rfl rfl ?_
  refine own_iloadN C (pc' := 16) own_d3_15 rfl rfl ?_
  refine own_iloadN C (pc' := 17) own_d3_16 rfl rfl ?_
  refine own_imul C (pc' := 18) own_d3_17 rfl ?_
  refine own_newAI C (pc' := 20) (hw _ (List.mem_of_getElem? (i := 20) rfl)) Z129 own_d3_18 rfl (nn := mm) (cap := 16) hN hcap (by decide) (by decide) (by decide) (fun h137 a138 ea139 ga140 Z141 E142 V143 => ?_)
  have ne144 : a ≠ a138 := by rw [ea139]; exact Nat.ne_of_lt (Exa.lt F131)
  have F145 : Exa Z h137 a "com/example/words_to_weights/wordstoweights/model/PairCounter" := Exa.ext E142 F131
  have F146 : Fld Z h137 a "com/example/words_to_weights/wordstoweights/model/PairCounter" "terms" "I" (.int N) := Fld.ext E142 F132
  have F147 : Fld Z h137 a "com/example/words_to_weights/wordstoweights/model/PairCounter" "window" "I" (.int win) := Fld.ext E142 F133
  have F148 : Fld Z h137 a "com/example/words_to_weights/wordstoweights/model/PairCounter" "orderedSlots" "[I" .null := Fld.ext E142 F134
  have F149 : Fld Z h137 a "com/example/words_to_weights/wordstoweights/model/PairCounter" "windowSlots" "[I" .null := Fld.ext E142 F135
  have F150 : Fld Z h137 a "com/example/words_to_weights/wordstoweights/model/PairCounter" "slots" "I" (.int (0 : Int32)) := Fld.ext E142 F136
  have gk152 : h.size ≤ a138 := by rw [ea139]; exact K130.1
  have K151 := Keep.ext K130 E142
  refine own_putF C (pc' := 23) (hw _ (List.mem_of_getElem? (i := 21) rfl)) F148 F145 (Or.inr ⟨(hw _ (List.mem_of_getElem? (i := 22) rfl)), rfl, rfl⟩) (hw _ (List.mem_of_getElem? (i := 8) rfl)) (ty := (.array .int)) (by decide) rfl rfl f1 own_d3_20 rfl (fun h153 W154 => ?_)
  have Z155 : n0 ≤ h153.size := Nat.le_trans Z141 (Nat.le_of_eq (Wr.size W154).symm)
  have K156 := Keep.wr K151 W154 (Or.inl (List.mem_of_getElem? (i := 0) rfl))
  have F157 : Exa Z h153 a "com/example/words_to_weights/wordstoweights/model/PairCounter" := Exa.wr W154 F145
  have F158 : Fld Z h153 a "com/example/words_to_weights/wordstoweights/model/PairCounter" "terms" "I" (.int N) := Fld.other W154 F146 (Or.inr (slot_ne (Or.inr (hw _ (List.mem_of_getElem? (i := 17) rfl))) (Or.inr (hw _ (List.mem_of_getElem? (i := 22) rfl))) (by decide) (t := .int) (t' := (.array .int)) (by decide) (by decide)))
  have F159 : Fld Z h153 a "com/example/words_to_weights/wordstoweights/model/PairCounter" "window" "I" (.int win) := Fld.other W154 F147 (Or.inr (slot_ne (Or.inr (hw _ (List.mem_of_getElem? (i := 19) rfl))) (Or.inr (hw _ (List.mem_of_getElem? (i := 22) rfl))) (by decide) (t := .int) (t' := (.array .int)) (by decide) (by decide)))
  have F160 : Fld Z h153 a "com/example/words_to_weights/wordstoweights/model/PairCounter" "orderedSlots" "[I" (.ref a138) := Fld.same W154 F148
  have F161 : Fld Z h153 a "com/example/words_to_weights/wordstoweights/model/PairCounter" "windowSlots" "[I" .null := Fld.other W154 F149 (Or.inr (slot_ne (Or.inr (hw _ (List.mem_of_getElem? (i := 24) rfl))) (Or.inr (hw _ (List.mem_of_getElem? (i := 22) rfl))) (by decide) (t := (.array .int)) (t' := (.array .int)) (by decide) (by decide)))
  have F162 : Fld Z h153 a "com/example/words_to_weights/wordstoweights/model/PairCounter" "slots" "I" (.int (0 : Int32)) := Fld.other W154 F150 (Or.inr (slot_ne (Or.inl (hw _ (List.mem_of_getElem? (i := 39) rfl))) (Or.inr (hw _ (List.mem_of_getElem? (i := 22) rfl))) (by decide) (t := .int) (t' := (.array .int)) (by decide) (by decide)))
  have F163 : own_AI Z h153 a138 mm (fun _ => (0 : Int32)) := own_A.other V143 W154 (Ne.symm ne144)
  refine own_aloadN C (pc' := 24) own_d3_23 rfl rfl rfl ?_
  refine own_iloadN C (pc' := 25) own_d3_24 rfl rfl ?_
  refine own_i0_le C (pc1 := 34) (pc2 := 28) own_d3_25 rfl rfl (fun c164 => absurd c164 (not_not_intro hwin)) (fun c164 => ?_)
  refine own_iloadN C (pc' := 29) own_d3_28 rfl rfl ?_
  refine own_iloadN C (pc' := 30) own_d3_29 rfl rfl ?_
  refine own_imul C (pc' := 31) own_d3_30 rfl ?_
  refine own_goto C (pc' := 35) own_d3_31 rfl ?_
  refine own_newAI C (pc' := 37) (hw _ (List.mem_of_getElem? (i := 20) rfl)) Z155 own_d3_35 rfl (nn := mm) (cap := 16) hN hcap (by decide) (by decide) (by decide) (fun h165 a166 ea167 ga168 Z169 E170 V171 => ?_)
  have ne172 : a ≠ a166 := by rw [ea167]; exact Nat.ne_of_lt (Exa.lt F157)
  have ne173 : a138 ≠ a166 := by rw [ea167]; exact Nat.ne_of_lt (own_A.lt F163)
  have F174 : Exa Z h165 a "com/example/words_to_weights/wordstoweights/model/PairCounter" := Exa.ext E170 F157
  have F175 : Fld Z h165 a "com/example/words_to_weights/wordstoweights/model/PairCounter" "terms" "I" (.int N) := Fld.ext E170 F158
  have F176 : Fld Z h165 a "com/example/words_to_weights/wordstoweights/model/PairCounter" "window" "I" (.int win) := Fld.ext E170 F159
  have F177 : Fld Z h165 a "com/example/words_to_weights/wordstoweights/model/PairCounter" "orderedSlots" "[I" (.ref a138) := Fld.ext E170 F160
  have F178 : Fld Z h165 a "com/example/words_to_weights/wordstoweights/model/PairCounter" "windowSlots" "[I" .null := Fld.ext E170 F161
  have F179 : Fld Z h165 a "com/example/words_to_weights/wordstoweights/model/PairCounter" "slots" "I" (.int (0 : Int32)) := Fld.ext E170 F162
  have F180 : own_AI Z h165 a138 mm (fun _ => (0 : Int32)) := own_A.ext F163 E170
  have gk182 : h.size ≤ a166 := by rw [ea167]; exact K156.1
  have K181 := Keep.ext K156 E170
  refine own_putF C (pc' := 40) (hw _ (List.mem_of_getElem? (i := 23) rfl)) F178 F174 (Or.inr ⟨(hw _ (List.mem_of_getElem? (i := 24) rfl)), rfl, rfl⟩) (hw _ (List.mem_of_getElem? (i := 8) rfl)) (ty := (.array .int)) (by decide) rfl rfl f1 own_d3_37 rfl (fun h183 W184 => ?_)
  have Z185 : n0 ≤ h183.size := Nat.le_trans Z169 (Nat.le_of_eq (Wr.size W184).symm)
  have K186 := Keep.wr K181 W184 (Or.inl (List.mem_of_getElem? (i := 0) rfl))
  have F187 : Exa Z h183 a "com/example/words_to_weights/wordstoweights/model/PairCounter" := Exa.wr W184 F174
  have F188 : Fld Z h183 a "com/example/words_to_weights/wordstoweights/model/PairCounter" "terms" "I" (.int N) := Fld.other W184 F175 (Or.inr (slot_ne (Or.inr (hw _ (List.mem_of_getElem? (i := 17) rfl))) (Or.inr (hw _ (List.mem_of_getElem? (i := 24) rfl))) (by decide) (t := .int) (t' := (.array .int)) (by decide) (by decide)))
  have F189 : Fld Z h183 a "com/example/words_to_weights/wordstoweights/model/PairCounter" "window" "I" (.int win) := Fld.other W184 F176 (Or.inr (slot_ne (Or.inr (hw _ (List.mem_of_getElem? (i := 19) rfl))) (Or.inr (hw _ (List.mem_of_getElem? (i := 24) rfl))) (by decide) (t := .int) (t' := (.array .int)) (by decide) (by decide)))
  have F190 : Fld Z h183 a "com/example/words_to_weights/wordstoweights/model/PairCounter" "orderedSlots" "[I" (.ref a138) := Fld.other W184 F177 (Or.inr (slot_ne (Or.inr (hw _ (List.mem_of_getElem? (i := 22) rfl))) (Or.inr (hw _ (List.mem_of_getElem? (i := 24) rfl))) (by decide) (t := (.array .int)) (t' := (.array .int)) (by decide) (by decide)))
  have F191 : Fld Z h183 a "com/example/words_to_weights/wordstoweights/model/PairCounter" "windowSlots" "[I" (.ref a166) := Fld.same W184 F178
  have F192 : Fld Z h183 a "com/example/words_to_weights/wordstoweights/model/PairCounter" "slots" "I" (.int (0 : Int32)) := Fld.other W184 F179 (Or.inr (slot_ne (Or.inl (hw _ (List.mem_of_getElem? (i := 39) rfl))) (Or.inr (hw _ (List.mem_of_getElem? (i := 24) rfl))) (by decide) (t := .int) (t' := (.array .int)) (by decide) (by decide)))
  have F193 : own_AI Z h183 a138 mm (fun _ => (0 : Int32)) := own_A.other F180 W184 (Ne.symm ne144)
  have F194 : own_AI Z h183 a166 mm (fun _ => (0 : Int32)) := own_A.other V171 W184 (Ne.symm ne172)
  refine own_aloadN C (pc' := 41) own_d3_40 rfl rfl rfl ?_
  refine own_getF C (pc' := 44) (hw _ (List.mem_of_getElem? (i := 21) rfl)) F190 own_d3_41 rfl ?_
  refine own_iconst C (pc' := 45) (v := (-1 : Int32)) own_d3_44 rfl (by decide) ?_
  refine own_callS C (pc' := 48) (y := (⟨"java/util/Arrays", "fill", "([II)V"⟩ : MethodName)) (argsL := [(.ref a138), (.int (-1 : Int32))]) (rest := []) 0 (hw _ (List.mem_of_getElem? (i := 25) rfl)) (hw _ (List.mem_of_getElem? (i := 26) rfl)) (hw _ (List.mem_of_getElem? (i := 27) rfl)) (hw _ (List.mem_of_getElem? (i := 28) rfl)) (by decide) (own_m5 hw a138 (-1 : Int32) mm (fun _ => (0 : Int32)) Z185 ga140 F193 ) (by decide) (by decide) (lenOf own_pd0 rfl) rfl (Nat.le_of_eq rfl) own_d3_45 rfl rfl (by decide) (by decide) (fun v195 h196 hq197 => ?_)
  obtain ⟨rfl, K198, F199⟩ := hq197
  have K201 := Keep.trans K186 K198 (allS (Or.inr gk152) all0)
  have Z202 : n0 ≤ h196.size := Nat.le_trans Z185 K198.1
  have F203 : Exa Z h196 a "com/example/words_to_weights/wordstoweights/model/PairCounter" := Exa.keep F187 K198
  have F204 : Fld Z h196 a "com/example/words_to_weights/wordstoweights/model/PairCounter" "terms" "I" (.int N) := Fld.keep F188 K198 (ninS ne144 nin0)
  have F205 : Fld Z h196 a "com/example/words_to_weights/wordstoweights/model/PairCounter" "window" "I" (.int win) := Fld.keep F189 K198 (ninS ne144 nin0)
  have F206 : Fld Z h196 a "com/example/words_to_weights/wordstoweights/model/PairCounter" "orderedSlots" "[I" (.ref a138) := Fld.keep F190 K198 (ninS ne144 nin0)
  have F207 : Fld Z h196 a "com/example/words_to_weights/wordstoweights/model/PairCounter" "windowSlots" "[I" (.ref a166) := Fld.keep F191 K198 (ninS ne144 nin0)
  have F208 : Fld Z h196 a "com/example/words_to_weights/wordstoweights/model/PairCounter" "slots" "I" (.int (0 : Int32)) := Fld.keep F192 K198 (ninS ne144 nin0)
  have F209 : own_AI Z h196 a166 mm (fun _ => (0 : Int32)) := own_A.keep F194 K198 (ninS (Ne.symm ne173) nin0)
  show own_Run p_ l e_ _ s_ m_ _ b_ mt_ c_ n0 _ h196 _ _ (mkF m_ 48 #[.val (.ref a), .val (.int N), .val (.int win)] [])
  refine own_aloadN C (pc' := 49) own_d3_48 rfl rfl rfl ?_
  refine own_getF C (pc' := 52) (hw _ (List.mem_of_getElem? (i := 23) rfl)) F207 own_d3_49 rfl ?_
  refine own_iconst C (pc' := 53) (v := (-1 : Int32)) own_d3_52 rfl (by decide) ?_
  refine own_callS C (pc' := 56) (y := (⟨"java/util/Arrays", "fill", "([II)V"⟩ : MethodName)) (argsL := [(.ref a166), (.int (-1 : Int32))]) (rest := []) 0 (hw _ (List.mem_of_getElem? (i := 25) rfl)) (hw _ (List.mem_of_getElem? (i := 26) rfl)) (hw _ (List.mem_of_getElem? (i := 27) rfl)) (hw _ (List.mem_of_getElem? (i := 28) rfl)) (by decide) (own_m5 hw a166 (-1 : Int32) mm (fun _ => (0 : Int32)) Z202 ga168 F209 ) (by decide) (by decide) (lenOf own_pd0 rfl) rfl (Nat.le_of_eq rfl) own_d3_53 rfl rfl (by decide) (by decide) (fun v210 h211 hq212 => ?_)
  obtain ⟨rfl, K213, F214⟩ := hq212
  have K216 := Keep.trans K201 K213 (allS (Or.inr gk182) all0)
  have Z217 : n0 ≤ h211.size := Nat.le_trans Z202 K213.1
  have F218 : Exa Z h211 a "com/example/words_to_weights/wordstoweights/model/PairCounter" := Exa.keep F203 K213
  have F219 : Fld Z h211 a "com/example/words_to_weights/wordstoweights/model/PairCounter" "terms" "I" (.int N) := Fld.keep F204 K213 (ninS ne172 nin0)
  have F220 : Fld Z h211 a "com/example/words_to_weights/wordstoweights/model/PairCounter" "window" "I" (.int win) := Fld.keep F205 K213 (ninS ne172 nin0)
  have F221 : Fld Z h211 a "com/example/words_to_weights/wordstoweights/model/PairCounter" "orderedSlots" "[I" (.ref a138) := Fld.keep F206 K213 (ninS ne172 nin0)
  have F222 : Fld Z h211 a "com/example/words_to_weights/wordstoweights/model/PairCounter" "windowSlots" "[I" (.ref a166) := Fld.keep F207 K213 (ninS ne172 nin0)
  have F223 : Fld Z h211 a "com/example/words_to_weights/wordstoweights/model/PairCounter" "slots" "I" (.int (0 : Int32)) := Fld.keep F208 K213 (ninS ne172 nin0)
  have F224 : own_AI Z h211 a138 mm (fun _ => (-1 : Int32)) := own_A.keep F199 K213 (ninS ne173 nin0)
  show own_Run p_ l e_ _ s_ m_ _ b_ mt_ c_ n0 _ h211 _ _ (mkF m_ 56 #[.val (.ref a), .val (.int N), .val (.int win)] [])
  exact own_retV C rfl own_d3_56 (by decide) (by decide) (⟨a138, a166, rfl, K216, ⟨ga140, gk152⟩, ⟨ga168, gk182⟩, F218, F219, F220, F221, F222, F223, F224, F214, ne144, ne172, ne173⟩)
set_option maxRecDepth 65536 in
set_option maxHeartbeats 40000000 in
theorem own_slotN {l : Launch} {Z : State} {a0 : Array Value} (hw : ∀ d ∈ tables_1, d.before a0 Z = true) {n0 : Nat} {ws : List Jvm.Cond} {h : Heap} (a : Addr) (ar : Addr) (n : Nat) (f : Nat → Int32) (sl : Int32) (i : Int32) (ii : Nat) (j : Int32) (jj : Nat) (t : Int32) (wi : Int32) (os : Addr) (wsl : Addr) (sl' : Int32) (Z0 : n0 ≤ h.size) (f0 : Exa Z h a "com/example/words_to_weights/wordstoweights/model/PairCounter") (f1 : n0 ≤ a) (f2 : n0 ≤ ar) (f3 : a ≠ ar) (f4 : Fld Z h a "com/example/words_to_weights/wordstoweights/model/PairCounter" "terms" "I" (.int t)) (f5 : Fld Z h a "com/example/words_to_weights/wordstoweights/model/PairCounter" "window" "I" (.int wi)) (f6 : Fld Z h a "com/example/words_to_weights/wordstoweights/model/PairCounter" "orderedSlots" "[I" (.ref os)) (f7 : Fld Z h a "com/example/words_to_weights/wordstoweights/model/PairCounter" "windowSlots" "[I" (.ref wsl)) (f8 : Fld Z h a "com/example/words_to_weights/wordstoweights/model/PairCounter" "slots" "I" (.int sl)) (f9 : own_AI Z h ar n f) (hi : i.toInt = (ii : Int)) (hib : ii < n) (hj : j.toInt = (jj : Int)) (hjb : jj < n) (hnew : f ii = (-1 : Int32)) (hsl : sl + (1 : Int32) = sl') :
    own_Met l Z n0 (⟨"com/example/words_to_weights/wordstoweights/model/PairCounter", "slot", "([III)I"⟩ : MethodName) prog_33_method_5_code 4 (some .int) ({ frames := 0, cells := 0, slots := 0, locals := 0 } : Room) ws #[(.ref a), (.ref ar), (.int i), (.int j)] h (fun v h' => (v = some (.int sl)) ∧ (Keep h h' [a, ar]) ∧ (Exa Z h' a "com/example/words_to_weights/wordstoweights/model/PairCounter") ∧ (Fld Z h' a "com/example/words_to_weights/wordstoweights/model/PairCounter" "terms" "I" (.int t)) ∧ (Fld Z h' a "com/example/words_to_weights/wordstoweights/model/PairCounter" "window" "I" (.int wi)) ∧ (Fld Z h' a "com/example/words_to_weights/wordstoweights/model/PairCounter" "orderedSlots" "[I" (.ref os)) ∧ (Fld Z h' a "com/example/words_to_weights/wordstoweights/model/PairCounter" "windowSlots" "[I" (.ref wsl)) ∧ (Fld Z h' a "com/example/words_to_weights/wordstoweights/model/PairCounter" "slots" "I" (.int sl')) ∧ (own_AI Z h' ar n (own_upd (own_upd f ii sl) jj sl))) := by
  refine own_met own_pn2 #[.val (.ref a), .val (.ref ar), .val (.int i), .val (.int j)] (fun m => by first | (simp [entryFrame, mkF, argsToLocals, Value.category]; done) | rfl) ?_
  intro p_ e_ s_ m_ b_ mt_ c_ C
  replace C : own_Ctx p_ s_ m_ mt_ c_ Z "com/example/words_to_weights/wordstoweights/model/PairCounter" "slot" prog_33_method_5_code 4 (some .int) := C
  have K0 : Keep h h [a, ar] := Keep.refl _ _
  refine own_aloadN C (pc' := 1) own_d7_0 rfl rfl rfl ?_
  refine own_iloadN C (pc' := 2) own_d7_1 rfl rfl ?_
  refine own_ldIV C (pc' := 3) f9 (i := ii) (v := (-1 : Int32)) hi hib hnew own_d7_2 rfl ?_
  refine own_iconst C (pc' := 4) (v := (-1 : Int32)) own_d7_3 rfl (by decide) ?_
  refine own_ii_ne C (pc1 := 31) (pc2 := 7) own_d7_4 rfl rfl (fun c225 => absurd c225 (by decide)) (fun c225 => ?_)
  refine own_aloadN C (pc' := 8) own_d7_7 rfl rfl rfl ?_
  refine own_iloadN C (pc' := 9) own_d7_8 rfl rfl ?_
  refine own_aloadN C (pc' := 10) own_d7_9 rfl rfl rfl ?_
  refine own_getF C (pc' := 13) (hw _ (List.mem_of_getElem? (i := 38) rfl)) f8 own_d7_10 rfl ?_
  refine own_stI C (pc' := 14) f9 (i := ii) hi hib f2 own_d7_13 rfl (fun h226 W227 V228 => ?_)
  have Z229 : n0 ≤ h226.size := Nat.le_trans Z0 (Nat.le_of_eq (Wr.size W227).symm)
  have K230 := Keep.wr K0 W227 (Or.inl (List.mem_of_getElem? (i := 1) rfl))
  have F231 : Exa Z h226 a "com/example/words_to_weights/wordstoweights/model/PairCounter" := Exa.wr W227 f0
  have F232 : Fld Z h226 a "com/example/words_to_weights/wordstoweights/model/PairCounter" "terms" "I" (.int t) := Fld.other W227 f4 (Or.inl f3)
  have F233 : Fld Z h226 a "com/example/words_to_weights/wordstoweights/model/PairCounter" "window" "I" (.int wi) := Fld.other W227 f5 (Or.inl f3)
  have F234 : Fld Z h226 a "com/example/words_to_weights/wordstoweights/model/PairCounter" "orderedSlots" "[I" (.ref os) := Fld.other W227 f6 (Or.inl f3)
  have F235 : Fld Z h226 a "com/example/words_to_weights/wordstoweights/model/PairCounter" "windowSlots" "[I" (.ref wsl) := Fld.other W227 f7 (Or.inl f3)
  have F236 : Fld Z h226 a "com/example/words_to_weights/wordstoweights/model/PairCounter" "slots" "I" (.int sl) := Fld.other W227 f8 (Or.inl f3)
  have F237 : own_AI Z h226 ar n (own_upd f ii sl) := V228
  refine own_aloadN C (pc' := 15) own_d7_14 rfl rfl rfl ?_
  refine own_iloadN C (pc' := 16) own_d7_15 rfl rfl ?_
  refine own_aloadN C (pc' := 17) own_d7_16 rfl rfl rfl ?_
  refine own_getF C (pc' := 20) (hw _ (List.mem_of_getElem? (i := 38) rfl)) F236 own_d7_17 rfl ?_
  refine own_stI C (pc' := 21) F237 (i := jj) hj hjb f2 own_d7_20 rfl (fun h238 W239 V240 => ?_)
  have Z241 : n0 ≤ h238.size := Nat.le_trans Z229 (Nat.le_of_eq (Wr.size W239).symm)
  have K242 := Keep.wr K230 W239 (Or.inl (List.mem_of_getElem? (i := 1) rfl))
  have F243 : Exa Z h238 a "com/example/words_to_weights/wordstoweights/model/PairCounter" := Exa.wr W239 F231
  have F244 : Fld Z h238 a "com/example/words_to_weights/wordstoweights/model/PairCounter" "terms" "I" (.int t) := Fld.other W239 F232 (Or.inl f3)
  have F245 : Fld Z h238 a "com/example/words_to_weights/wordstoweights/model/PairCounter" "window" "I" (.int wi) := Fld.other W239 F233 (Or.inl f3)
  have F246 : Fld Z h238 a "com/example/words_to_weights/wordstoweights/model/PairCounter" "orderedSlots" "[I" (.ref os) := Fld.other W239 F234 (Or.inl f3)
  have F247 : Fld Z h238 a "com/example/words_to_weights/wordstoweights/model/PairCounter" "windowSlots" "[I" (.ref wsl) := Fld.other W239 F235 (Or.inl f3)
  have F248 : Fld Z h238 a "com/example/words_to_weights/wordstoweights/model/PairCounter" "slots" "I" (.int sl) := Fld.other W239 F236 (Or.inl f3)
  have F249 : own_AI Z h238 ar n (own_upd (own_upd f ii sl) jj sl) := V240
  refine own_aloadN C (pc' := 22) own_d7_21 rfl rfl rfl ?_
  refine own_dup C (pc' := 23) own_d7_22 rfl rfl ?_
  refine own_getF C (pc' := 26) (hw _ (List.mem_of_getElem? (i := 38) rfl)) F248 own_d7_23 rfl ?_
  refine own_iconst C (pc' := 27) (v := (1 : Int32)) own_d7_26 rfl (by decide) ?_
  refine own_iadd C (pc' := 28) own_d7_27 rfl ?_
  refine own_putF C (pc' := 31) (hw _ (List.mem_of_getElem? (i := 38) rfl)) F248 F243 (Or.inl (hw _ (List.mem_of_getElem? (i := 39) rfl))) (hw _ (List.mem_of_getElem? (i := 8) rfl)) (ty := .int) (by decide) rfl rfl f1 own_d7_28 rfl (fun h250 W251 => ?_)
  have Z252 : n0 ≤ h250.size := Nat.le_trans Z241 (Nat.le_of_eq (Wr.size W251).symm)
  have K253 := Keep.wr K242 W251 (Or.inl (List.mem_of_getElem? (i := 0) rfl))
  have F254 : Exa Z h250 a "com/example/words_to_weights/wordstoweights/model/PairCounter" := Exa.wr W251 F243
  have F255 : Fld Z h250 a "com/example/words_to_weights/wordstoweights/model/PairCounter" "terms" "I" (.int t) := Fld.other W251 F244 (Or.inr (slot_ne (Or.inr (hw _ (List.mem_of_getElem? (i := 17) rfl))) (Or.inl (hw _ (List.mem_of_getElem? (i := 39) rfl))) (by decide) (t := .int) (t' := .int) (by decide) (by decide)))
  have F256 : Fld Z h250 a "com/example/words_to_weights/wordstoweights/model/PairCounter" "window" "I" (.int wi) := Fld.other W251 F245 (Or.inr (slot_ne (Or.inr (hw _ (List.mem_of_getElem? (i := 19) rfl))) (Or.inl (hw _ (List.mem_of_getElem? (i := 39) rfl))) (by decide) (t := .int) (t' := .int) (by decide) (by decide)))
  have F257 : Fld Z h250 a "com/example/words_to_weights/wordstoweights/model/PairCounter" "orderedSlots" "[I" (.ref os) := Fld.other W251 F246 (Or.inr (slot_ne (Or.inr (hw _ (List.mem_of_getElem? (i := 22) rfl))) (Or.inl (hw _ (List.mem_of_getElem? (i := 39) rfl))) (by decide) (t := (.array .int)) (t' := .int) (by decide) (by decide)))
  have F258 : Fld Z h250 a "com/example/words_to_weights/wordstoweights/model/PairCounter" "windowSlots" "[I" (.ref wsl) := Fld.other W251 F247 (Or.inr (slot_ne (Or.inr (hw _ (List.mem_of_getElem? (i := 24) rfl))) (Or.inl (hw _ (List.mem_of_getElem? (i := 39) rfl))) (by decide) (t := (.array .int)) (t' := .int) (by decide) (by decide)))
  have F259 : Fld Z h250 a "com/example/words_to_weights/wordstoweights/model/PairCounter" "slots" "I" (.int (sl + (1 : Int32))) := Fld.same W251 F248
  have F260 : own_AI Z h250 ar n (own_upd (own_upd f ii sl) jj sl) := own_A.other F249 W251 (Ne.symm f3)
  refine own_aloadN C (pc' := 32) own_d7_31 rfl rfl rfl ?_
  refine own_iloadN C (pc' := 33) own_d7_32 rfl rfl ?_
  refine own_ldIV C (pc' := 34) F260 (i := ii) (v := sl) hi hib (by simp [own_upd]) own_d7_33 rfl ?_
  exact own_ret C (t := .int) rfl rfl (Or.inl ⟨rfl, by simp, _, rfl⟩) own_d7_34 (by decide) (by decide) (⟨rfl, K253, F254, F255, F256, F257, F258, (by rw [← hsl]; exact F259), F260⟩)
set_option maxRecDepth 65536 in
set_option maxHeartbeats 40000000 in
theorem own_slotO {l : Launch} {Z : State} {a0 : Array Value} (hw : ∀ d ∈ tables_1, d.before a0 Z = true) {n0 : Nat} {ws : List Jvm.Cond} {h : Heap} (a : Addr) (ar : Addr) (n : Nat) (f : Nat → Int32) (i : Int32) (ii : Nat) (j : Int32) (jj : Nat) (r : Int32) (Z0 : n0 ≤ h.size) (f0 : own_AI Z h ar n f) (hi : i.toInt = (ii : Int)) (hib : ii < n) (hj : j.toInt = (jj : Int)) (hjb : jj < n) (hold : f ii = r) (hr : ¬ r = (-1 : Int32)) :
    own_Met l Z n0 (⟨"com/example/words_to_weights/wordstoweights/model/PairCounter", "slot", "([III)I"⟩ : MethodName) prog_33_method_5_code 4 (some .int) ({ frames := 0, cells := 0, slots := 0, locals := 0 } : Room) ws #[(.ref a), (.ref ar), (.int i), (.int j)] h (fun v h' => (v = some (.int r)) ∧ (h = h')) := by
  refine own_met own_pn2 #[.val (.ref a), .val (.ref ar), .val (.int i), .val (.int j)] (fun m => by first | (simp [entryFrame, mkF, argsToLocals, Value.category]; done) | rfl) ?_
  intro p_ e_ s_ m_ b_ mt_ c_ C
  replace C : own_Ctx p_ s_ m_ mt_ c_ Z "com/example/words_to_weights/wordstoweights/model/PairCounter" "slot" prog_33_method_5_code 4 (some .int) := C
  refine own_aloadN C (pc' := 1) own_d7_0 rfl rfl rfl ?_
  refine own_iloadN C (pc' := 2) own_d7_1 rfl rfl ?_
  refine own_ldIV C (pc' := 3) f0 (i := ii) (v := r) hi hib hold own_d7_2 rfl ?_
  refine own_iconst C (pc' := 4) (v := (-1 : Int32)) own_d7_3 rfl (by decide) ?_
  refine own_ii_ne C (pc1 := 31) (pc2 := 7) own_d7_4 rfl rfl (fun c261 => ?_) (fun c261 => absurd c261 hr)
  refine own_aloadN C (pc' := 32) own_d7_31 rfl rfl rfl ?_
  refine own_iloadN C (pc' := 33) own_d7_32 rfl rfl ?_
  refine own_ldIV C (pc' := 34) f0 (i := ii) (v := r) hi hib hold own_d7_33 rfl ?_
  exact own_ret C (t := .int) rfl rfl (Or.inl ⟨rfl, by simp, _, rfl⟩) own_d7_34 (by decide) (by decide) (⟨rfl, rfl⟩)
set_option maxRecDepth 65536 in
set_option maxHeartbeats 40000000 in
theorem own_addN {l : Launch} {Z : State} {a0 : Array Value} (hw : ∀ d ∈ tables_1, d.before a0 Z = true) {n0 : Nat} {ws : List Jvm.Cond} {h : Heap} (a : Addr) (n : Nat) (f : Nat → Int32) (sl : Int32) (x : Int32) (y : Int32) (ii : Nat) (t : Int32) (wi : Int32) (os : Addr) (wsl : Addr) (sl' : Int32) (Z0 : n0 ≤ h.size) (f0 : Exa Z h a "com/example/words_to_weights/wordstoweights/model/PairCounter") (f1 : n0 ≤ a) (f2 : n0 ≤ os) (f3 : a ≠ os) (f4 : Fld Z h a "com/example/words_to_weights/wordstoweights/model/PairCounter" "terms" "I" (.int t)) (f5 : Fld Z h a "com/example/words_to_weights/wordstoweights/model/PairCounter" "window" "I" (.int wi)) (f6 : Fld Z h a "com/example/words_to_weights/wordstoweights/model/PairCounter" "orderedSlots" "[I" (.ref os)) (f7 : Fld Z h a "com/example/words_to_weights/wordstoweights/model/PairCounter" "windowSlots" "[I" (.ref wsl)) (f8 : Fld Z h a "com/example/words_to_weights/wordstoweights/model/PairCounter" "slots" "I" (.int sl)) (f9 : own_AI Z h os n f) (hi : ((x * t) + y).toInt = (ii : Int)) (hib : ii < n) (hnew : f ii = (-1 : Int32)) (hsl : sl + (1 : Int32) = sl') :
    own_Met l Z n0 (⟨"com/example/words_to_weights/wordstoweights/model/PairCounter", "addOrdered", "(II)I"⟩ : MethodName) prog_33_method_3_code 3 (some .int) ({ frames := 1, cells := 0, slots := 0, locals := 15 } : Room) ws #[(.ref a), (.int x), (.int y)] h (fun v h' => (v = some (.int sl)) ∧ (Keep h h' [a, os]) ∧ (Exa Z h' a "com/example/words_to_weights/wordstoweights/model/PairCounter") ∧ (Fld Z h' a "com/example/words_to_weights/wordstoweights/model/PairCounter" "terms" "I" (.int t)) ∧ (Fld Z h' a "com/example/words_to_weights/wordstoweights/model/PairCounter" "window" "I" (.int wi)) ∧ (Fld Z h' a "com/example/words_to_weights/wordstoweights/model/PairCounter" "orderedSlots" "[I" (.ref os)) ∧ (Fld Z h' a "com/example/words_to_weights/wordstoweights/model/PairCounter" "windowSlots" "[I" (.ref wsl)) ∧ (Fld Z h' a "com/example/words_to_weights/wordstoweights/model/PairCounter" "slots" "I" (.int sl')) ∧ (own_AI Z h' os n (own_upd (own_upd f ii sl) ii sl))) := by
  refine own_met own_pn2 #[.val (.ref a), .val (.int x), .val (.int y)] (fun m => by first | (simp [entryFrame, mkF, argsToLocals, Value.category]; done) | rfl) ?_
  intro p_ e_ s_ m_ b_ mt_ c_ C
  replace C : own_Ctx p_ s_ m_ mt_ c_ Z "com/example/words_to_weights/wordstoweights/model/PairCounter" "addOrdered" prog_33_method_3_code 3 (some .int) := C
  have K0 : Keep h h [a, os] := Keep.refl _ _
  refine own_aloadN C (pc' := 1) own_d6_0 rfl rfl rfl ?_
  refine own_aloadN C (pc' := 2) own_d6_1 rfl rfl rfl ?_
  refine own_getF C (pc' := 5) (hw _ (List.mem_of_getElem? (i := 21) rfl)) f6 own_d6_2 rfl ?_
  refine own_iloadN C (pc' := 6) own_d6_5 rfl rfl ?_
  refine own_aloadN C (pc' := 7) own_d6_6 rfl rfl rfl ?_
  refine own_getF C (pc' := 10) (hw _ (List.mem_of_getElem? (i := 16) rfl)) f4 own_d6_7 rfl ?_
  refine own_imul C (pc' := 11) own_d6_10 rfl ?_
  refine own_iloadN C (pc' := 12) own_d6_11 rfl rfl ?_
  refine own_iadd C (pc' := 13) own_d6_12 rfl ?_
  refine own_iloadN C (pc' := 14) own_d6_13 rfl rfl ?_
  refine own_aloadN C (pc' := 15) own_d6_14 rfl rfl rfl ?_
  refine own_getF C (pc' := 18) (hw _ (List.mem_of_getElem? (i := 16) rfl)) f4 own_d6_15 rfl ?_
  refine own_imul C (pc' := 19) own_d6_18 rfl ?_
  refine own_iloadN C (pc' := 20) own_d6_19 rfl rfl ?_
  refine own_iadd C (pc' := 21) own_d6_20 rfl ?_
  refine own_callP C (pc' := 24) (y := (⟨"com/example/words_to_weights/wordstoweights/model/PairCounter", "slot", "([III)I"⟩ : MethodName)) (a := a) (argsL := [(.ref os), (.int ((x * t) + y)), (.int ((x * t) + y))]) (rest := []) 0 f0 (hw _ (List.mem_of_getElem? (i := 34) rfl)) (hw _ (List.mem_of_getElem? (i := 35) rfl)) (hw _ (List.mem_of_getElem? (i := 36) rfl)) (hw _ (List.mem_of_getElem? (i := 8) rfl)) (hw _ (List.mem_of_getElem? (i := 37) rfl)) (hw _ (List.mem_of_getElem? (i := 9) rfl)) (by decide) (own_slotN hw a os n f sl ((x * t) + y) ii ((x * t) + y) ii t wi os wsl sl' Z0 f0 f1 f2 f3 f4 f5 f6 f7 f8 f9 hi hib hi hib hnew hsl) (by decide) (by decide) (lenOf own_pd1 rfl) rfl (Nat.le_of_eq rfl) own_d6_21 rfl rfl (by decide) (by decide) (fun v262 h263 hq264 => ?_)
  obtain ⟨rfl, K265, F266, F267, F268, F269, F270, F271, F272⟩ := hq264
  have K274 := Keep.trans K0 K265 (allS (Or.inl (List.mem_of_getElem? (i := 0) rfl)) (allS (Or.inl (List.mem_of_getElem? (i := 1) rfl)) all0))
  have Z275 : n0 ≤ h263.size := Nat.le_trans Z0 K265.1
  have F276 : Exa Z h263 a "com/example/words_to_weights/wordstoweights/model/PairCounter" := Exa.keep f0 K265
  show own_Run p_ l e_ _ s_ m_ _ b_ mt_ c_ n0 _ h263 _ _ (mkF m_ 24 #[.val (.ref a), .val (.int x), .val (.int y)] [(.int sl)])
  exact own_ret C (t := .int) rfl rfl (Or.inl ⟨rfl, by simp, _, rfl⟩) own_d6_24 (by decide) (by decide) (⟨rfl, K274, F266, F267, F268, F269, F270, F271, F272⟩)
set_option maxRecDepth 65536 in
set_option maxHeartbeats 40000000 in
theorem own_addO {l : Launch} {Z : State} {a0 : Array Value} (hw : ∀ d ∈ tables_1, d.before a0 Z = true) {n0 : Nat} {ws : List Jvm.Cond} {h : Heap} (a : Addr) (n : Nat) (f : Nat → Int32) (x : Int32) (y : Int32) (ii : Nat) (t : Int32) (os : Addr) (r : Int32) (Z0 : n0 ≤ h.size) (f0 : Exa Z h a "com/example/words_to_weights/wordstoweights/model/PairCounter") (f1 : Fld Z h a "com/example/words_to_weights/wordstoweights/model/PairCounter" "terms" "I" (.int t)) (f2 : Fld Z h a "com/example/words_to_weights/wordstoweights/model/PairCounter" "orderedSlots" "[I" (.ref os)) (f3 : own_AI Z h os n f) (hi : ((x * t) + y).toInt = (ii : Int)) (hib : ii < n) (hold : f ii = r) (hr : ¬ r = (-1 : Int32)) :
    own_Met l Z n0 (⟨"com/example/words_to_weights/wordstoweights/model/PairCounter", "addOrdered", "(II)I"⟩ : MethodName) prog_33_method_3_code 3 (some .int) ({ frames := 1, cells := 0, slots := 0, locals := 15 } : Room) ws #[(.ref a), (.int x), (.int y)] h (fun v h' => (v = some (.int r)) ∧ (h = h')) := by
  refine own_met own_pn2 #[.val (.ref a), .val (.int x), .val (.int y)] (fun m => by first | (simp [entryFrame, mkF, argsToLocals, Value.category]; done) | rfl) ?_
  intro p_ e_ s_ m_ b_ mt_ c_ C
  replace C : own_Ctx p_ s_ m_ mt_ c_ Z "com/example/words_to_weights/wordstoweights/model/PairCounter" "addOrdered" prog_33_method_3_code 3 (some .int) := C
  refine own_aloadN C (pc' := 1) own_d6_0 rfl rfl rfl ?_
  refine own_aloadN C (pc' := 2) own_d6_1 rfl rfl rfl ?_
  refine own_getF C (pc' := 5) (hw _ (List.mem_of_getElem? (i := 21) rfl)) f2 own_d6_2 rfl ?_
  refine own_iloadN C (pc' := 6) own_d6_5 rfl rfl ?_
  refine own_aloadN C (pc' := 7) own_d6_6 rfl rfl rfl ?_
  refine own_getF C (pc' := 10) (hw _ (List.mem_of_getElem? (i := 16) rfl)) f1 own_d6_7 rfl ?_
  refine own_imul C (pc' := 11) own_d6_10 rfl ?_
  refine own_iloadN C (pc' := 12) own_d6_11 rfl rfl ?_
  refine own_iadd C (pc' := 13) own_d6_12 rfl ?_
  refine own_iloadN C (pc' := 14) own_d6_13 rfl rfl ?_
  refine own_aloadN C (pc' := 15) own_d6_14 rfl rfl rfl ?_
  refine own_getF C (pc' := 18) (hw _ (List.mem_of_getElem? (i := 16) rfl)) f1 own_d6_15 rfl ?_
  refine own_imul C (pc' := 19) own_d6_18 rfl ?_
  refine own_iloadN C (pc' := 20) own_d6_19 rfl rfl ?_
  refine own_iadd C (pc' := 21) own_d6_20 rfl ?_
  refine own_callP C (pc' := 24) (y := (⟨"com/example/words_to_weights/wordstoweights/model/PairCounter", "slot", "([III)I"⟩ : MethodName)) (a := a) (argsL := [(.ref os), (.int ((x * t) + y)), (.int ((x * t) + y))]) (rest := []) 0 f0 (hw _ (List.mem_of_getElem? (i := 34) rfl)) (hw _ (List.mem_of_getElem? (i := 35) rfl)) (hw _ (List.mem_of_getElem? (i := 36) rfl)) (hw _ (List.mem_of_getElem? (i := 8) rfl)) (hw _ (List.mem_of_getElem? (i := 37) rfl)) (hw _ (List.mem_of_getElem? (i := 9) rfl)) (by decide) (own_slotO hw a os n f ((x * t) + y) ii ((x * t) + y) ii r Z0 f3 hi hib hi hib hold hr) (by decide) (by decide) (lenOf own_pd1 rfl) rfl (Nat.le_of_eq rfl) own_d6_21 rfl rfl (by decide) (by decide) (fun v277 h278 hq279 => ?_)
  obtain ⟨rfl, rfl⟩ := hq279
  show own_Run p_ l e_ _ s_ m_ _ b_ mt_ c_ n0 _ h _ _ (mkF m_ 24 #[.val (.ref a), .val (.int x), .val (.int y)] [(.int r)])
  exact own_ret C (t := .int) rfl rfl (Or.inl ⟨rfl, by simp, _, rfl⟩) own_d6_24 (by decide) (by decide) (⟨rfl, rfl⟩)
set_option maxRecDepth 65536 in
set_option maxHeartbeats 40000000 in
theorem own_addW {l : Launch} {Z : State} {a0 : Array Value} (hw : ∀ d ∈ tables_1, d.before a0 Z = true) {n0 : Nat} {ws : List Jvm.Cond} {h : Heap} (a : Addr) (n : Nat) (f : Nat → Int32) (sl : Int32) (x : Int32) (y : Int32) (ii : Nat) (t : Int32) (wi : Int32) (os : Addr) (wsl : Addr) (jj : Nat) (sl' : Int32) (Z0 : n0 ≤ h.size) (f0 : Exa Z h a "com/example/words_to_weights/wordstoweights/model/PairCounter") (f1 : n0 ≤ a) (f2 : n0 ≤ wsl) (f3 : a ≠ wsl) (f4 : Fld Z h a "com/example/words_to_weights/wordstoweights/model/PairCounter" "terms" "I" (.int t)) (f5 : Fld Z h a "com/example/words_to_weights/wordstoweights/model/PairCounter" "window" "I" (.int wi)) (f6 : Fld Z h a "com/example/words_to_weights/wordstoweights/model/PairCounter" "orderedSlots" "[I" (.ref os)) (f7 : Fld Z h a "com/example/words_to_weights/wordstoweights/model/PairCounter" "windowSlots" "[I" (.ref wsl)) (f8 : Fld Z h a "com/example/words_to_weights/wordstoweights/model/PairCounter" "slots" "I" (.int sl)) (f9 : own_AI Z h wsl n f) (hi : ((x * t) + y).toInt = (ii : Int)) (hib : ii < n) (hj : ((y * t) + x).toInt = (jj : Int)) (hjb : jj < n) (hnew : f ii = (-1 : Int32)) (hsl : sl + (1 : Int32) = sl') (hwin : ¬ wi = 0) :
    own_Met l Z n0 (⟨"com/example/words_to_weights/wordstoweights/model/PairCounter", "addWindow", "(II)I"⟩ : MethodName) prog_33_method_4_code 3 (some .int) ({ frames := 1, cells := 0, slots := 0, locals := 15 } : Room) ws #[(.ref a), (.int x), (.int y)] h (fun v h' => (v = some (.int sl)) ∧ (Keep h h' [a, wsl]) ∧ (Exa Z h' a "com/example/words_to_weights/wordstoweights/model/PairCounter") ∧ (Fld Z h' a "com/example/words_to_weights/wordstoweights/model/PairCounter" "terms" "I" (.int t)) ∧ (Fld Z h' a "com/example/words_to_weights/wordstoweights/model/PairCounter" "window" "I" (.int wi)) ∧ (Fld Z h' a "com/example/words_to_weights/wordstoweights/model/PairCounter" "orderedSlots" "[I" (.ref os)) ∧ (Fld Z h' a "com/example/words_to_weights/wordstoweights/model/PairCounter" "windowSlots" "[I" (.ref wsl)) ∧ (Fld Z h' a "com/example/words_to_weights/wordstoweights/model/PairCounter" "slots" "I" (.int sl')) ∧ (own_AI Z h' wsl n (own_upd (own_upd f ii sl) jj sl))) := by
  refine own_met own_pn2 #[.val (.ref a), .val (.int x), .val (.int y)] (fun m => by first | (simp [entryFrame, mkF, argsToLocals, Value.category]; done) | rfl) ?_
  intro p_ e_ s_ m_ b_ mt_ c_ C
  replace C : own_Ctx p_ s_ m_ mt_ c_ Z "com/example/words_to_weights/wordstoweights/model/PairCounter" "addWindow" prog_33_method_4_code 3 (some .int) := C
  have K0 : Keep h h [a, wsl] := Keep.refl _ _
  refine own_aloadN C (pc' := 1) own_d9_0 rfl rfl rfl ?_
  refine own_getF C (pc' := 4) (hw _ (List.mem_of_getElem? (i := 18) rfl)) f5 own_d9_1 rfl ?_
  refine own_i0_ne C (pc1 := 17) (pc2 := 7) own_d9_4 rfl rfl (fun c280 => ?_) (fun c280 => absurd c280 hwin)
  refine own_aloadN C (pc' := 18) own_d9_17 rfl rfl rfl ?_
  refine own_aloadN C (pc' := 19) own_d9_18 rfl rfl rfl ?_
  refine own_getF C (pc' := 22) (hw _ (List.mem_of_getElem? (i := 23) rfl)) f7 own_d9_19 rfl ?_
  refine own_iloadN C (pc' := 23) own_d9_22 rfl rfl ?_
  refine own_aloadN C (pc' := 24) own_d9_23 rfl rfl rfl ?_
  refine own_getF C (pc' := 27) (hw _ (List.mem_of_getElem? (i := 16) rfl)) f4 own_d9_24 rfl ?_
  refine own_imul C (pc' := 28) own_d9_27 rfl ?_
  refine own_iloadN C (pc' := 29) own_d9_28 rfl rfl ?_
  refine own_iadd C (pc' := 30) own_d9_29 rfl ?_
  refine own_iloadN C (pc' := 31) own_d9_30 rfl rfl ?_
  refine own_aloadN C (pc' := 32) own_d9_31 rfl rfl rfl ?_
  refine own_getF C (pc' := 35) (hw _ (List.mem_of_getElem? (i := 16) rfl)) f4 own_d9_32 rfl ?_
  refine own_imul C (pc' := 36) own_d9_35 rfl ?_
  refine own_iloadN C (pc' := 37) own_d9_36 rfl rfl ?_
  refine own_iadd C (pc' := 38) own_d9_37 rfl ?_
  refine own_callP C (pc' := 41) (y := (⟨"com/example/words_to_weights/wordstoweights/model/PairCounter", "slot", "([III)I"⟩ : MethodName)) (a := a) (argsL := [(.ref wsl), (.int ((x * t) + y)), (.int ((y * t) + x))]) (rest := []) 0 f0 (hw _ (List.mem_of_getElem? (i := 34) rfl)) (hw _ (List.mem_of_getElem? (i := 35) rfl)) (hw _ (List.mem_of_getElem? (i := 36) rfl)) (hw _ (List.mem_of_getElem? (i := 8) rfl)) (hw _ (List.mem_of_getElem? (i := 37) rfl)) (hw _ (List.mem_of_getElem? (i := 9) rfl)) (by decide) (own_slotN hw a wsl n f sl ((x * t) + y) ii ((y * t) + x) jj t wi os wsl sl' Z0 f0 f1 f2 f3 f4 f5 f6 f7 f8 f9 hi hib hj hjb hnew hsl) (by decide) (by decide) (lenOf own_pd1 rfl) rfl (Nat.le_of_eq rfl) own_d9_38 rfl rfl (by decide) (by decide) (fun v281 h282 hq283 => ?_)
  obtain ⟨rfl, K284, F285, F286, F287, F288, F289, F290, F291⟩ := hq283
  have K293 := Keep.trans K0 K284 (allS (Or.inl (List.mem_of_getElem? (i := 0) rfl)) (allS (Or.inl (List.mem_of_getElem? (i := 1) rfl)) all0))
  have Z294 : n0 ≤ h282.size := Nat.le_trans Z0 K284.1
  have F295 : Exa Z h282 a "com/example/words_to_weights/wordstoweights/model/PairCounter" := Exa.keep f0 K284
  show own_Run p_ l e_ _ s_ m_ _ b_ mt_ c_ n0 _ h282 _ _ (mkF m_ 41 #[.val (.ref a), .val (.int x), .val (.int y)] [(.int sl)])
  exact own_ret C (t := .int) rfl rfl (Or.inl ⟨rfl, by simp, _, rfl⟩) own_d9_41 (by decide) (by decide) (⟨rfl, K293, F285, F286, F287, F288, F289, F290, F291⟩)
set_option maxRecDepth 65536 in
set_option maxHeartbeats 40000000 in
theorem own_m8 {l : Launch} {Z : State} {a0 : Array Value} (hw : ∀ d ∈ tables_1, d.before a0 Z = true) {n0 : Nat} {ws : List Jvm.Cond} {h : Heap} (a : Addr) (w : Int32) (Z0 : n0 ≤ h.size) (f0 : Fld Z h a "com/example/words_to_weights/wordstoweights/model/PairCounter" "slots" "I" (.int w)) :
    own_Met l Z n0 (⟨"com/example/words_to_weights/wordstoweights/model/PairCounter", "slots", "()I"⟩ : MethodName) prog_33_method_6_code 1 (some .int) ({ frames := 0, cells := 0, slots := 0, locals := 0 } : Room) ws #[(.ref a)] h (fun v h' => (v = some (.int w)) ∧ (h = h')) := by
  refine own_met own_pn2 #[.val (.ref a)] (fun m => by first | (simp [entryFrame, mkF, argsToLocals, Value.category]; done) | rfl) ?_
  intro p_ e_ s_ m_ b_ mt_ c_ C
  replace C : own_Ctx p_ s_ m_ mt_ c_ Z "com/example/words_to_weights/wordstoweights/model/PairCounter" "slots" prog_33_method_6_code 1 (some .int) := C
  refine own_aloadN C (pc' := 1) own_d8_0 rfl rfl rfl ?_
  refine own_getF C (pc' := 4) (hw _ (List.mem_of_getElem? (i := 38) rfl)) f0 own_d8_1 rfl ?_
  exact own_ret C (t := .int) rfl rfl (Or.inl ⟨rfl, by simp, _, rfl⟩) own_d8_4 (by decide) (by decide) (⟨rfl, rfl⟩)
set_option maxRecDepth 65536 in
set_option maxHeartbeats 40000000 in
theorem own_law {l : Launch} {Z : State} {a0 : Array Value} (hw : ∀ d ∈ tables_1, d.before a0 Z = true) {n0 : Nat} {ws : List Jvm.Cond} {h : Heap} (p0 : Int32) (p1 : Int32) (p2 : Int32) (p3 : Int32) (p4 : Int32) (Z0 : n0 ≤ h.size) :
    own_Met l Z n0 x code maxLocals ret room_1 ws #[(.int p0), (.int p1), (.int p2), (.int p3), (.int p4)] h (fun v h' => v = some (.int 1)) := by
  refine own_met own_pn0 #[.val (.int p0), .val (.int p1), .val (.int p2), .val (.int p3), .val (.int p4), .unset, .unset, .unset, .unset, .unset, .unset, .unset, .unset, .unset, .unset, .unset, .unset, .unset, .unset, .unset, .unset, .unset, .unset, .unset, .unset, .unset, .unset, .unset] (fun m => by first | (simp [entryFrame, mkF, argsToLocals, Value.category, maxLocals]; done) | rfl) ?_
  intro p_ e_ s_ m_ b_ mt_ c_ C
  replace C : own_Ctx p_ s_ m_ mt_ c_ Z "com/example/words_to_weights/wordstoweights/model/PairCounterAddOrderedPinLaw" "law" code maxLocals ret := C
  refine own_iconst C (pc' := 1) (v := (1 : Int32)) at_0 rfl (by decide) ?_
  refine own_iloadN C (pc' := 2) at_1 rfl rfl ?_
  refine own_iconst C (pc' := 3) (v := (3 : Int32)) at_2 rfl (by decide) ?_
  refine own_iand C (pc' := 4) at_3 rfl ?_
  refine own_iadd C (pc' := 5) at_4 rfl ?_
  refine own_istore C (pc' := 7) (Ls' := #[.val (.int p0), .val (.int p1), .val (.int p2), .val (.int p3), .val (.int p4), .val (.int ((1 : Int32) + (p0 &&& (3 : Int32)))), .unset, .unset, .unset, .unset, .unset, .unset, .unset, .unset, .unset, .unset, .unset, .unset, .unset, .unset, .unset, .unset, .unset, .unset, .unset, .unset, .unset, .unset]) at_5 rfl rfl ?_
  obtain ⟨N297, b298, b299, hN300⟩ := own_n4 p0
  generalize ((1 : Int32) + (p0 &&& (3 : Int32))) = x296 at hN300 ⊢
  show own_Run p_ l e_ _ s_ m_ _ b_ mt_ c_ n0 _ h _ _ (mkF m_ 7 #[.val (.int p0), .val (.int p1), .val (.int p2), .val (.int p3), .val (.int p4), .val (.int x296), .unset, .unset, .unset, .unset, .unset, .unset, .unset, .unset, .unset, .unset, .unset, .unset, .unset, .unset, .unset, .unset, .unset, .unset, .unset, .unset, .unset, .unset] [])
  obtain ⟨M, hM16, hMe, hMi⟩ := own_sq hN300 b299
  refine own_iloadN C (pc' := 8) at_7 rfl rfl ?_
  refine own_iconst C (pc' := 9) (v := (4 : Int32)) at_8 rfl (by decide) ?_
  refine own_iand C (pc' := 10) at_9 rfl ?_
  refine own_i0_eq C (pc1 := 17) (pc2 := 13) at_10 rfl rfl (fun c301 => ?_) (fun c301 => ?_)
  · skip
    refine own_iconst C (pc' := 18) (v := (0 : Int32)) at_17 rfl (by decide) ?_
    refine own_istore C (pc' := 20) (Ls' := #[.val (.int p0), .val (.int p1), .val (.int p2), .val (.int p3), .val (.int p4), .val (.int x296), .val (.int (0 : Int32)), .unset, .unset, .unset, .unset, .unset, .unset, .unset, .unset, .unset, .unset, .unset, .unset, .unset, .unset, .unset, .unset, .unset, .unset, .unset, .unset, .unset]) at_18 rfl rfl ?_
    refine own_iload C (pc' := 22) at_20 rfl rfl ?_
    refine own_i0_eq C (pc1 := 35) (pc2 := 25) at_22 rfl rfl (fun c302 => ?_) (fun c302 => absurd c302 (by decide))
    refine own_iconst C (pc' := 36) (v := (0 : Int32)) at_35 rfl (by decide) ?_
    refine own_istore C (pc' := 38) (Ls' := #[.val (.int p0), .val (.int p1), .val (.int p2), .val (.int p3), .val (.int p4), .val (.int x296), .val (.int (0 : Int32)), .val (.int (0 : Int32)), .unset, .unset, .unset, .unset, .unset, .unset, .unset, .unset, .unset, .unset, .unset, .unset, .unset, .unset, .unset, .unset, .unset, .unset, .unset, .unset]) at_36 rfl rfl ?_
    refine own_iloadN C (pc' := 39) at_38 rfl rfl ?_
    refine own_iload C (pc' := 41) at_39 rfl rfl ?_
    refine own_callS C (pc' := 44) (y := (⟨"com/example/words_to_weights/wordstoweights/model/PairCounterAddOrderedPinLaw", "fst", "(II)I"⟩ : MethodName)) (argsL := [(.int p1), (.int x296)]) (rest := []) 0 (hw _ (List.mem_of_getElem? (i := 0) rfl)) (hw _ (List.mem_of_getElem? (i := 1) rfl)) (hw _ (List.mem_of_getElem? (i := 2) rfl)) (hw _ (List.mem_of_getElem? (i := 3) rfl)) (by decide) (own_m1 hw p1 x296   (own_nz hN300 b298)) (by decide) (by decide) (lenOf own_pd2 rfl) rfl (Nat.le_of_eq rfl) at_41 rfl rfl (by decide) (by decide) (fun v303 h304 hq305 => ?_)
    obtain ⟨rfl, rfl⟩ := hq305
    show own_Run p_ l e_ _ s_ m_ _ b_ mt_ c_ n0 _ h _ _ (mkF m_ 44 #[.val (.int p0), .val (.int p1), .val (.int p2), .val (.int p3), .val (.int p4), .val (.int x296), .val (.int (0 : Int32)), .val (.int (0 : Int32)), .unset, .unset, .unset, .unset, .unset, .unset, .unset, .unset, .unset, .unset, .unset, .unset, .unset, .unset, .unset, .unset, .unset, .unset, .unset, .unset] [(.int ((p1 &&& (255 : Int32)) % x296))])
    refine own_istore C (pc' := 46) (Ls' := #[.val (.int p0), .val (.int p1), .val (.int p2), .val (.int p3), .val (.int p4), .val (.int x296), .val (.int (0 : Int32)), .val (.int (0 : Int32)), .val (.int ((p1 &&& (255 : Int32)) % x296)), .unset, .unset, .unset, .unset, .unset, .unset, .unset, .unset, .unset, .unset, .unset, .unset, .unset, .unset, .unset, .unset, .unset, .unset, .unset]) at_44 rfl rfl ?_
    obtain ⟨A307, b308, hA309⟩ := own_fs p1 _ hN300 b298
    generalize ((p1 &&& (255 : Int32)) % x296) = x306 at hA309 ⊢
    show own_Run p_ l e_ _ s_ m_ _ b_ mt_ c_ n0 _ h _ _ (mkF m_ 46 #[.val (.int p0), .val (.int p1), .val (.int p2), .val (.int p3), .val (.int p4), .val (.int x296), .val (.int (0 : Int32)), .val (.int (0 : Int32)), .val (.int x306), .unset, .unset, .unset, .unset, .unset, .unset, .unset, .unset, .unset, .unset, .unset, .unset, .unset, .unset, .unset, .unset, .unset, .unset, .unset] [])
    refine own_iloadN C (pc' := 47) at_46 rfl rfl ?_
    refine own_iload C (pc' := 49) at_47 rfl rfl ?_
    refine own_callS C (pc' := 52) (y := (⟨"com/example/words_to_weights/wordstoweights/model/PairCounterAddOrderedPinLaw", "snd", "(II)I"⟩ : MethodName)) (argsL := [(.int p1), (.int x296)]) (rest := []) 0 (hw _ (List.mem_of_getElem? (i := 4) rfl)) (hw _ (List.mem_of_getElem? (i := 5) rfl)) (hw _ (List.mem_of_getElem? (i := 2) rfl)) (hw _ (List.mem_of_getElem? (i := 6) rfl)) (by decide) (own_m2 hw p1 x296   (own_nz hN300 b298)) (by decide) (by decide) (lenOf own_pd2 rfl) rfl (Nat.le_of_eq rfl) at_49 rfl rfl (by decide) (by decide) (fun v310 h311 hq312 => ?_)
    obtain ⟨rfl, rfl⟩ := hq312
    show own_Run p_ l e_ _ s_ m_ _ b_ mt_ c_ n0 _ h _ _ (mkF m_ 52 #[.val (.int p0), .val (.int p1), .val (.int p2), .val (.int p3), .val (.int p4), .val (.int x296), .val (.int (0 : Int32)), .val (.int (0 : Int32)), .val (.int x306), .unset, .unset, .unset, .unset, .unset, .unset, .unset, .unset, .unset, .unset, .unset, .unset, .unset, .unset, .unset, .unset, .unset, .unset, .unset] [(.int (((Jvm.Free.XT.ushr p1 (8 : Int32)) &&& (255 : Int32)) % x296))])
    refine own_istore C (pc' := 54) (Ls' := #[.val (.int p0), .val (.int p1), .val (.int p2), .val (.int p3), .val (.int p4), .val (.int x296), .val (.int (0 : Int32)), .val (.int (0 : Int32)), .val (.int x306), .val (.int (((Jvm.Free.XT.ushr p1 (8 : Int32)) &&& (255 : Int32)) % x296)), .unset, .unset, .unset, .unset, .unset, .unset, .unset, .unset, .unset, .unset, .unset, .unset, .unset, .unset, .unset, .unset, .unset, .unset]) at_52 rfl rfl ?_
    obtain ⟨A314, b315, hA316⟩ := own_fs (Jvm.Free.XT.ushr p1 (8 : Int32)) _ hN300 b298
    generalize (((Jvm.Free.XT.ushr p1 (8 : Int32)) &&& (255 : Int32)) % x296) = x313 at hA316 ⊢
    show own_Run p_ l e_ _ s_ m_ _ b_ mt_ c_ n0 _ h _ _ (mkF m_ 54 #[.val (.int p0), .val (.int p1), .val (.int p2), .val (.int p3), .val (.int p4), .val (.int x296), .val (.int (0 : Int32)), .val (.int (0 : Int32)), .val (.int x306), .val (.int x313), .unset, .unset, .unset, .unset, .unset, .unset, .unset, .unset, .unset, .unset, .unset, .unset, .unset, .unset, .unset, .unset, .unset, .unset] [])
    refine own_iloadN C (pc' := 55) at_54 rfl rfl ?_
    refine own_iload C (pc' := 57) at_55 rfl rfl ?_
    refine own_callS C (pc' := 60) (y := (⟨"com/example/words_to_weights/wordstoweights/model/PairCounterAddOrderedPinLaw", "fst", "(II)I"⟩ : MethodName)) (argsL := [(.int p2), (.int x296)]) (rest := []) 0 (hw _ (List.mem_of_getElem? (i := 0) rfl)) (hw _ (List.mem_of_getElem? (i := 1) rfl)) (hw _ (List.mem_of_getElem? (i := 2) rfl)) (hw _ (List.mem_of_getElem? (i := 3) rfl)) (by decide) (own_m1 hw p2 x296   (own_nz hN300 b298)) (by decide) (by decide) (lenOf own_pd2 rfl) rfl (Nat.le_of_eq rfl) at_57 rfl rfl (by decide) (by decide) (fun v317 h318 hq319 => ?_)
    obtain ⟨rfl, rfl⟩ := hq319
    show own_Run p_ l e_ _ s_ m_ _ b_ mt_ c_ n0 _ h _ _ (mkF m_ 60 #[.val (.int p0), .val (.int p1), .val (.int p2), .val (.int p3), .val (.int p4), .val (.int x296), .val (.int (0 : Int32)), .val (.int (0 : Int32)), .val (.int x306), .val (.int x313), .unset, .unset, .unset, .unset, .unset, .unset, .unset, .unset, .unset, .unset, .unset, .unset, .unset, .unset, .unset, .unset, .unset, .unset] [(.int ((p2 &&& (255 : Int32)) % x296))])
    refine own_istore C (pc' := 62) (Ls' := #[.val (.int p0), .val (.int p1), .val (.int p2), .val (.int p3), .val (.int p4), .val (.int x296), .val (.int (0 : Int32)), .val (.int (0 : Int32)), .val (.int x306), .val (.int x313), .val (.int ((p2 &&& (255 : Int32)) % x296)), .unset, .unset, .unset, .unset, .unset, .unset, .unset, .unset, .unset, .unset, .unset, .unset, .unset, .unset, .unset, .unset, .unset]) at_60 rfl rfl ?_
    obtain ⟨A321, b322, hA323⟩ := own_fs p2 _ hN300 b298
    generalize ((p2 &&& (255 : Int32)) % x296) = x320 at hA323 ⊢
    show own_Run p_ l e_ _ s_ m_ _ b_ mt_ c_ n0 _ h _ _ (mkF m_ 62 #[.val (.int p0), .val (.int p1), .val (.int p2), .val (.int p3), .val (.int p4), .val (.int x296), .val (.int (0 : Int32)), .val (.int (0 : Int32)), .val (.int x306), .val (.int x313), .val (.int x320), .unset, .unset, .unset, .unset, .unset, .unset, .unset, .unset, .unset, .unset, .unset, .unset, .unset, .unset, .unset, .unset, .unset] [])
    refine own_iloadN C (pc' := 63) at_62 rfl rfl ?_
    refine own_iload C (pc' := 65) at_63 rfl rfl ?_
    refine own_callS C (pc' := 68) (y := (⟨"com/example/words_to_weights/wordstoweights/model/PairCounterAddOrderedPinLaw", "snd", "(II)I"⟩ : MethodName)) (argsL := [(.int p2), (.int x296)]) (rest := []) 0 (hw _ (List.mem_of_getElem? (i := 4) rfl)) (hw _ (List.mem_of_getElem? (i := 5) rfl)) (hw _ (List.mem_of_getElem? (i := 2) rfl)) (hw _ (List.mem_of_getElem? (i := 6) rfl)) (by decide) (own_m2 hw p2 x296   (own_nz hN300 b298)) (by decide) (by decide) (lenOf own_pd2 rfl) rfl (Nat.le_of_eq rfl) at_65 rfl rfl (by decide) (by decide) (fun v324 h325 hq326 => ?_)
    obtain ⟨rfl, rfl⟩ := hq326
    show own_Run p_ l e_ _ s_ m_ _ b_ mt_ c_ n0 _ h _ _ (mkF m_ 68 #[.val (.int p0), .val (.int p1), .val (.int p2), .val (.int p3), .val (.int p4), .val (.int x296), .val (.int (0 : Int32)), .val (.int (0 : Int32)), .val (.int x306), .val (.int x313), .val (.int x320), .unset, .unset, .unset, .unset, .unset, .unset, .unset, .unset, .unset, .unset, .unset, .unset, .unset, .unset, .unset, .unset, .unset] [(.int (((Jvm.Free.XT.ushr p2 (8 : Int32)) &&& (255 : Int32)) % x296))])
    refine own_istore C (pc' := 70) (Ls' := #[.val (.int p0), .val (.int p1), .val (.int p2), .val (.int p3), .val (.int p4), .val (.int x296), .val (.int (0 : Int32)), .val (.int (0 : Int32)), .val (.int x306), .val (.int x313), .val (.int x320), .val (.int (((Jvm.Free.XT.ushr p2 (8 : Int32)) &&& (255 : Int32)) % x296)), .unset, .unset, .unset, .unset, .unset, .unset, .unset, .unset, .unset, .unset, .unset, .unset, .unset, .unset, .unset, .unset]) at_68 rfl rfl ?_
    obtain ⟨A328, b329, hA330⟩ := own_fs (Jvm.Free.XT.ushr p2 (8 : Int32)) _ hN300 b298
    generalize (((Jvm.Free.XT.ushr p2 (8 : Int32)) &&& (255 : Int32)) % x296) = x327 at hA330 ⊢
    show own_Run p_ l e_ _ s_ m_ _ b_ mt_ c_ n0 _ h _ _ (mkF m_ 70 #[.val (.int p0), .val (.int p1), .val (.int p2), .val (.int p3), .val (.int p4), .val (.int x296), .val (.int (0 : Int32)), .val (.int (0 : Int32)), .val (.int x306), .val (.int x313), .val (.int x320), .val (.int x327), .unset, .unset, .unset, .unset, .unset, .unset, .unset, .unset, .unset, .unset, .unset, .unset, .unset, .unset, .unset, .unset] [])
    refine own_iloadN C (pc' := 71) at_70 rfl rfl ?_
    refine own_iload C (pc' := 73) at_71 rfl rfl ?_
    refine own_callS C (pc' := 76) (y := (⟨"com/example/words_to_weights/wordstoweights/model/PairCounterAddOrderedPinLaw", "fst", "(II)I"⟩ : MethodName)) (argsL := [(.int p3), (.int x296)]) (rest := []) 0 (hw _ (List.mem_of_getElem? (i := 0) rfl)) (hw _ (List.mem_of_getElem? (i := 1) rfl)) (hw _ (List.mem_of_getElem? (i := 2) rfl)) (hw _ (List.mem_of_getElem? (i := 3) rfl)) (by decide) (own_m1 hw p3 x296   (own_nz hN300 b298)) (by decide) (by decide) (lenOf own_pd2 rfl) rfl (Nat.le_of_eq rfl) at_73 rfl rfl (by decide) (by decide) (fun v331 h332 hq333 => ?_)
    obtain ⟨rfl, rfl⟩ := hq333
    show own_Run p_ l e_ _ s_ m_ _ b_ mt_ c_ n0 _ h _ _ (mkF m_ 76 #[.val (.int p0), .val (.int p1), .val (.int p2), .val (.int p3), .val (.int p4), .val (.int x296), .val (.int (0 : Int32)), .val (.int (0 : Int32)), .val (.int x306), .val (.int x313), .val (.int x320), .val (.int x327), .unset, .unset, .unset, .unset, .unset, .unset, .unset, .unset, .unset, .unset, .unset, .unset, .unset, .unset, .unset, .unset] [(.int ((p3 &&& (255 : Int32)) % x296))])
    refine own_istore C (pc' := 78) (Ls' := #[.val (.int p0), .val (.int p1), .val (.int p2), .val (.int p3), .val (.int p4), .val (.int x296), .val (.int (0 : Int32)), .val (.int (0 : Int32)), .val (.int x306), .val (.int x313), .val (.int x320), .val (.int x327), .val (.int ((p3 &&& (255 : Int32)) % x296)), .unset, .unset, .unset, .unset, .unset, .unset, .unset, .unset, .unset, .unset, .unset, .unset, .unset, .unset, .unset]) at_76 rfl rfl ?_
    obtain ⟨A335, b336, hA337⟩ := own_fs p3 _ hN300 b298
    generalize ((p3 &&& (255 : Int32)) % x296) = x334 at hA337 ⊢
    show own_Run p_ l e_ _ s_ m_ _ b_ mt_ c_ n0 _ h _ _ (mkF m_ 78 #[.val (.int p0), .val (.int p1), .val (.int p2), .val (.int p3), .val (.int p4), .val (.int x296), .val (.int (0 : Int32)), .val (.int (0 : Int32)), .val (.int x306), .val (.int x313), .val (.int x320), .val (.int x327), .val (.int x334), .unset, .unset, .unset, .unset, .unset, .unset, .unset, .unset, .unset, .unset, .unset, .unset, .unset, .unset, .unset] [])
    refine own_iloadN C (pc' := 79) at_78 rfl rfl ?_
    refine own_iload C (pc' := 81) at_79 rfl rfl ?_
    refine own_callS C (pc' := 84) (y := (⟨"com/example/words_to_weights/wordstoweights/model/PairCounterAddOrderedPinLaw", "snd", "(II)I"⟩ : MethodName)) (argsL := [(.int p3), (.int x296)]) (rest := []) 0 (hw _ (List.mem_of_getElem? (i := 4) rfl)) (hw _ (List.mem_of_getElem? (i := 5) rfl)) (hw _ (List.mem_of_getElem? (i := 2) rfl)) (hw _ (List.mem_of_getElem? (i := 6) rfl)) (by decide) (own_m2 hw p3 x296   (own_nz hN300 b298)) (by decide) (by decide) (lenOf own_pd2 rfl) rfl (Nat.le_of_eq rfl) at_81 rfl rfl (by decide) (by decide) (fun v338 h339 hq340 => ?_)
    obtain ⟨rfl, rfl⟩ := hq340
    show own_Run p_ l e_ _ s_ m_ _ b_ mt_ c_ n0 _ h _ _ (mkF m_ 84 #[.val (.int p0), .val (.int p1), .val (.int p2), .val (.int p3), .val (.int p4), .val (.int x296), .val (.int (0 : Int32)), .val (.int (0 : Int32)), .val (.int x306), .val (.int x313), .val (.int x320), .val (.int x327), .val (.int x334), .unset, .unset, .unset, .unset, .unset, .unset, .unset, .unset, .unset, .unset, .unset, .unset, .unset, .unset, .unset] [(.int (((Jvm.Free.XT.ushr p3 (8 : Int32)) &&& (255 : Int32)) % x296))])
    refine own_istore C (pc' := 86) (Ls' := #[.val (.int p0), .val (.int p1), .val (.int p2), .val (.int p3), .val (.int p4), .val (.int x296), .val (.int (0 : Int32)), .val (.int (0 : Int32)), .val (.int x306), .val (.int x313), .val (.int x320), .val (.int x327), .val (.int x334), .val (.int (((Jvm.Free.XT.ushr p3 (8 : Int32)) &&& (255 : Int32)) % x296)), .unset, .unset, .unset, .unset, .unset, .unset, .unset, .unset, .unset, .unset, .unset, .unset, .unset, .unset]) at_84 rfl rfl ?_
    obtain ⟨A342, b343, hA344⟩ := own_fs (Jvm.Free.XT.ushr p3 (8 : Int32)) _ hN300 b298
    generalize (((Jvm.Free.XT.ushr p3 (8 : Int32)) &&& (255 : Int32)) % x296) = x341 at hA344 ⊢
    show own_Run p_ l e_ _ s_ m_ _ b_ mt_ c_ n0 _ h _ _ (mkF m_ 86 #[.val (.int p0), .val (.int p1), .val (.int p2), .val (.int p3), .val (.int p4), .val (.int x296), .val (.int (0 : Int32)), .val (.int (0 : Int32)), .val (.int x306), .val (.int x313), .val (.int x320), .val (.int x327), .val (.int x334), .val (.int x341), .unset, .unset, .unset, .unset, .unset, .unset, .unset, .unset, .unset, .unset, .unset, .unset, .unset, .unset] [])
    obtain ⟨I1, hbI1, heI1, hiI1⟩ := own_ix hA309 hN300 hA316 b308 b315 b299
    rw [← hMe] at hbI1
    obtain ⟨I2, hbI2, heI2, hiI2⟩ := own_ix hA323 hN300 hA330 b322 b329 b299
    rw [← hMe] at hbI2
    obtain ⟨I3, hbI3, heI3, hiI3⟩ := own_ix hA337 hN300 hA344 b336 b343 b299
    rw [← hMe] at hbI3
    have hq21 := own_ixi heI2 heI1 b329 b315
    rw [← own_inj hA323 hA309, ← own_inj hA330 hA316] at hq21
    have hq31 := own_ixi heI3 heI1 b343 b315
    rw [← own_inj hA337 hA309, ← own_inj hA344 hA316] at hq31
    have hq32 := own_ixi heI3 heI2 b343 b329
    rw [← own_inj hA337 hA323, ← own_inj hA344 hA330] at hq32
    refine own_new C (pc' := 89) (hw _ (List.mem_of_getElem? (i := 7) rfl)) (hw _ (List.mem_of_getElem? (i := 8) rfl)) (hw _ (List.mem_of_getElem? (i := 9) rfl)) Z0 at_86 rfl (by decide) (by decide) (fun h345 a346 ea347 ga348 Z349 E350 A351 D352 => ?_)
    have F353 : Fld Z h345 a346 "com/example/words_to_weights/wordstoweights/model/PairCounter" "terms" "I" (.int (0 : Int32)) := D352 (Or.inr (hw _ (List.mem_of_getElem? (i := 17) rfl))) (ty := .int) (by decide)
    have F354 : Fld Z h345 a346 "com/example/words_to_weights/wordstoweights/model/PairCounter" "window" "I" (.int (0 : Int32)) := D352 (Or.inr (hw _ (List.mem_of_getElem? (i := 19) rfl))) (ty := .int) (by decide)
    have F355 : Fld Z h345 a346 "com/example/words_to_weights/wordstoweights/model/PairCounter" "orderedSlots" "[I" .null := D352 (Or.inr (hw _ (List.mem_of_getElem? (i := 22) rfl))) (ty := (.array .int)) (by decide)
    have F356 : Fld Z h345 a346 "com/example/words_to_weights/wordstoweights/model/PairCounter" "windowSlots" "[I" .null := D352 (Or.inr (hw _ (List.mem_of_getElem? (i := 24) rfl))) (ty := (.array .int)) (by decide)
    have F357 : Fld Z h345 a346 "com/example/words_to_weights/wordstoweights/model/PairCounter" "slots" "I" (.int (0 : Int32)) := D352 (Or.inl (hw _ (List.mem_of_getElem? (i := 39) rfl))) (ty := .int) (by decide)
    refine own_dup C (pc' := 90) at_89 rfl rfl ?_
    refine own_iload C (pc' := 92) at_90 rfl rfl ?_
    refine own_iload C (pc' := 94) at_92 rfl rfl ?_
    refine own_callN C (pc' := 97) (y := (⟨"com/example/words_to_weights/wordstoweights/model/PairCounter", "<init>", "(II)V"⟩ : MethodName)) (a := a346) (argsL := [(.int x296), (.int (0 : Int32))]) (rest := [(.ref a346)]) 1 rfl (hw _ (List.mem_of_getElem? (i := 10) rfl)) (hw _ (List.mem_of_getElem? (i := 11) rfl)) (hw _ (List.mem_of_getElem? (i := 12) rfl)) (hw _ (List.mem_of_getElem? (i := 9) rfl)) (by decide) (own_init0 hw a346 x296 M Z349 A351 ga348 F353 F354 F355 F356 F357 hMi hM16) (by decide) (by decide) (lenOf own_pd3 rfl) rfl (Nat.le_of_eq rfl) at_94 rfl rfl (by decide) (by decide) (fun v358 h359 hq360 => ?_)
    obtain ⟨a361, a362, rfl, K363, ⟨ga364, gk365⟩, ⟨ga366, gk367⟩, F368, F369, F370, F371, F372, F373, F374, F375, F376, F377, F378⟩ := hq360
    have ne379 : a346 ≠ a361 := Nat.ne_of_lt (Nat.lt_of_lt_of_le (Exa.lt A351) gk365)
    have ne380 : a346 ≠ a362 := Nat.ne_of_lt (Nat.lt_of_lt_of_le (Exa.lt A351) gk367)
    have Z382 : n0 ≤ h359.size := Nat.le_trans Z349 K363.1
    have F383 : Exa Z h359 a346 "com/example/words_to_weights/wordstoweights/model/PairCounter" := Exa.keep A351 K363
    show own_Run p_ l e_ _ s_ m_ _ b_ mt_ c_ n0 _ h359 _ _ (mkF m_ 97 #[.val (.int p0), .val (.int p1), .val (.int p2), .val (.int p3), .val (.int p4), .val (.int x296), .val (.int (0 : Int32)), .val (.int (0 : Int32)), .val (.int x306), .val (.int x313), .val (.int x320), .val (.int x327), .val (.int x334), .val (.int x341), .unset, .unset, .unset, .unset, .unset, .unset, .unset, .unset, .unset, .unset, .unset, .unset, .unset, .unset] [(.ref a346)])
    refine own_astore C (pc' := 99) (Ls' := #[.val (.int p0), .val (.int p1), .val (.int p2), .val (.int p3), .val (.int p4), .val (.int x296), .val (.int (0 : Int32)), .val (.int (0 : Int32)), .val (.int x306), .val (.int x313), .val (.int x320), .val (.int x327), .val (.int x334), .val (.int x341), .val (.ref a346), .unset, .unset, .unset, .unset, .unset, .unset, .unset, .unset, .unset, .unset, .unset, .unset, .unset]) at_97 rfl rfl rfl ?_
    refine own_iconst C (pc' := 100) (v := (0 : Int32)) at_99 rfl (by decide) ?_
    refine own_istore C (pc' := 102) (Ls' := #[.val (.int p0), .val (.int p1), .val (.int p2), .val (.int p3), .val (.int p4), .val (.int x296), .val (.int (0 : Int32)), .val (.int (0 : Int32)), .val (.int x306), .val (.int x313), .val (.int x320), .val (.int x327), .val (.int x334), .val (.int x341), .val (.ref a346), .val (.int (0 : Int32)), .unset, .unset, .unset, .unset, .unset, .unset, .unset, .unset, .unset, .unset, .unset, .unset]) at_100 rfl rfl ?_
    refine own_iload C (pc' := 104) at_102 rfl rfl ?_
    refine own_i0_eq C (pc1 := 138) (pc2 := 107) at_104 rfl rfl (fun c384 => ?_) (fun c384 => absurd c384 (by decide))
    refine own_iload C (pc' := 140) at_138 rfl rfl ?_
    refine own_istore C (pc' := 142) (Ls' := #[.val (.int p0), .val (.int p1), .val (.int p2), .val (.int p3), .val (.int p4), .val (.int x296), .val (.int (0 : Int32)), .val (.int (0 : Int32)), .val (.int x306), .val (.int x313), .val (.int x320), .val (.int x327), .val (.int x334), .val (.int x341), .val (.ref a346), .val (.int (0 : Int32)), .val (.int (0 : Int32)), .unset, .unset, .unset, .unset, .unset, .unset, .unset, .unset, .unset, .unset, .unset]) at_140 rfl rfl ?_
    refine own_iload C (pc' := 144) at_142 rfl rfl ?_
    refine own_iconst C (pc' := 145) (v := (1 : Int32)) at_144 rfl (by decide) ?_
    refine own_iaddV C (pc' := 146) (v := (1 : Int32)) at_145 rfl (by decide) ?_
    refine own_istore C (pc' := 148) (Ls' := #[.val (.int p0), .val (.int p1), .val (.int p2), .val (.int p3), .val (.int p4), .val (.int x296), .val (.int (0 : Int32)), .val (.int (0 : Int32)), .val (.int x306), .val (.int x313), .val (.int x320), .val (.int x327), .val (.int x334), .val (.int x341), .val (.ref a346), .val (.int (0 : Int32)), .val (.int (0 : Int32)), .val (.int (1 : Int32)), .unset, .unset, .unset, .unset, .unset, .unset, .unset, .unset, .unset, .unset]) at_146 rfl rfl ?_
    refine own_join (fun (z385 : Int32) => (z385 = (1 : Int32) ∧ I2 = I1) ∨ (z385 = (0 : Int32) ∧ I2 ≠ I1)) (fun (z385 : Int32) => (mkF m_ 169 #[.val (.int p0), .val (.int p1), .val (.int p2), .val (.int p3), .val (.int p4), .val (.int x296), .val (.int (0 : Int32)), .val (.int (0 : Int32)), .val (.int x306), .val (.int x313), .val (.int x320), .val (.int x327), .val (.int x334), .val (.int x341), .val (.ref a346), .val (.int (0 : Int32)), .val (.int (0 : Int32)), .val (.int (1 : Int32)), .val (.int z385), .unset, .unset, .unset, .unset, .unset, .unset, .unset, .unset, .unset] [])) (fun z385 hz386 => ?_) (fun J387 => ?_)
    · show own_Run p_ l e_ _ s_ m_ _ b_ mt_ c_ n0 _ h359 _ _ (mkF m_ 169 #[.val (.int p0), .val (.int p1), .val (.int p2), .val (.int p3), .val (.int p4), .val (.int x296), .val (.int (0 : Int32)), .val (.int (0 : Int32)), .val (.int x306), .val (.int x313), .val (.int x320), .val (.int x327), .val (.int x334), .val (.int x341), .val (.ref a346), .val (.int (0 : Int32)), .val (.int (0 : Int32)), .val (.int (1 : Int32)), .val (.int z385), .unset, .unset, .unset, .unset, .unset, .unset, .unset, .unset, .unset] [])
      rcases hz386 with ⟨rfl, h21⟩ | ⟨rfl, h21⟩
      · show own_Run p_ l e_ _ s_ m_ _ b_ mt_ c_ n0 _ h359 _ _ (mkF m_ 169 #[.val (.int p0), .val (.int p1), .val (.int p2), .val (.int p3), .val (.int p4), .val (.int x296), .val (.int (0 : Int32)), .val (.int (0 : Int32)), .val (.int x306), .val (.int x313), .val (.int x320), .val (.int x327), .val (.int x334), .val (.int x341), .val (.ref a346), .val (.int (0 : Int32)), .val (.int (0 : Int32)), .val (.int (1 : Int32)), .val (.int (1 : Int32)), .unset, .unset, .unset, .unset, .unset, .unset, .unset, .unset, .unset] [])
        refine own_iload C (pc' := 171) at_169 rfl rfl ?_
        refine own_i0_eq C (pc1 := 181) (pc2 := 174) at_171 rfl rfl (fun c388 => absurd c388 (by decide)) (fun c388 => ?_)
        refine own_iload C (pc' := 176) at_174 rfl rfl ?_
        refine own_istore C (pc' := 178) (Ls' := #[.val (.int p0), .val (.int p1), .val (.int p2), .val (.int p3), .val (.int p4), .val (.int x296), .val (.int (0 : Int32)), .val (.int (0 : Int32)), .val (.int x306), .val (.int x313), .val (.int x320), .val (.int x327), .val (.int x334), .val (.int x341), .val (.ref a346), .val (.int (0 : Int32)), .val (.int (0 : Int32)), .val (.int (1 : Int32)), .val (.int (1 : Int32)), .val (.int (0 : Int32)), .unset, .unset, .unset, .unset, .unset, .unset, .unset, .unset]) at_176 rfl rfl ?_
        refine own_goto C (pc' := 191) at_178 rfl ?_
        refine own_join2 (fun (z389 : Int32) (y390 : Int32) => (I3 = I1 ∧ z389 = (0 : Int32) ∧ y390 = (1 : Int32)) ∨ (I3 ≠ I1 ∧ True ∧ z389 = (1 : Int32) ∧ y390 = (2 : Int32))) (fun (z389 : Int32) (y390 : Int32) => (mkF m_ 243 #[.val (.int p0), .val (.int p1), .val (.int p2), .val (.int p3), .val (.int p4), .val (.int x296), .val (.int (0 : Int32)), .val (.int (0 : Int32)), .val (.int x306), .val (.int x313), .val (.int x320), .val (.int x327), .val (.int x334), .val (.int x341), .val (.ref a346), .val (.int (0 : Int32)), .val (.int (0 : Int32)), .val (.int y390), .val (.int (1 : Int32)), .val (.int (0 : Int32)), .val (.int z389), .unset, .unset, .unset, .unset, .unset, .unset, .unset] [])) (fun z389 y390 hz391 => ?_) (fun J392 => ?_)
        · show own_Run p_ l e_ _ s_ m_ _ b_ mt_ c_ n0 _ h359 _ _ (mkF m_ 243 #[.val (.int p0), .val (.int p1), .val (.int p2), .val (.int p3), .val (.int p4), .val (.int x296), .val (.int (0 : Int32)), .val (.int (0 : Int32)), .val (.int x306), .val (.int x313), .val (.int x320), .val (.int x327), .val (.int x334), .val (.int x341), .val (.ref a346), .val (.int (0 : Int32)), .val (.int (0 : Int32)), .val (.int y390), .val (.int (1 : Int32)), .val (.int (0 : Int32)), .val (.int z389), .unset, .unset, .unset, .unset, .unset, .unset, .unset] [])
          rcases hz391 with ⟨h31, rfl, rfl⟩ | ⟨h31, h32, rfl, rfl⟩
          · show own_Run p_ l e_ _ s_ m_ _ b_ mt_ c_ n0 _ h359 _ _ (mkF m_ 243 #[.val (.int p0), .val (.int p1), .val (.int p2), .val (.int p3), .val (.int p4), .val (.int x296), .val (.int (0 : Int32)), .val (.int (0 : Int32)), .val (.int x306), .val (.int x313), .val (.int x320), .val (.int x327), .val (.int x334), .val (.int x341), .val (.ref a346), .val (.int (0 : Int32)), .val (.int (0 : Int32)), .val (.int (1 : Int32)), .val (.int (1 : Int32)), .val (.int (0 : Int32)), .val (.int (0 : Int32)), .unset, .unset, .unset, .unset, .unset, .unset, .unset] [])
            refine own_aload C (pc' := 245) at_243 rfl rfl rfl ?_
            refine own_iload C (pc' := 247) at_245 rfl rfl ?_
            refine own_iload C (pc' := 249) at_247 rfl rfl ?_
            refine own_callV C (pc' := 252) (y := (⟨"com/example/words_to_weights/wordstoweights/model/PairCounter", "addOrdered", "(II)I"⟩ : MethodName)) (a := a346) (argsL := [(.int x306), (.int x313)]) (rest := []) 0 F368 (hw _ (List.mem_of_getElem? (i := 29) rfl)) (hw _ (List.mem_of_getElem? (i := 30) rfl)) (hw _ (List.mem_of_getElem? (i := 32) rfl)) (hw _ (List.mem_of_getElem? (i := 31) rfl)) (hw _ (List.mem_of_getElem? (i := 33) rfl)) (hw _ (List.mem_of_getElem? (i := 9) rfl)) (by decide) (own_addN hw a346 M (fun _ => (-1 : Int32)) (0 : Int32) x306 x313 I1 x296 (0 : Int32) a361 a362 (1 : Int32) Z382 F368 ga348 ga364 ne379 F369 F370 F371 F372 F373 F374 hiI1 hbI1 (by simp [own_upd, h21, h31]) (by decide)) (by decide) (by decide) (lenOf own_pd2 rfl) rfl (Nat.le_of_eq rfl) at_249 rfl rfl (by decide) (by decide) (fun v393 h394 hq395 => ?_)
            obtain ⟨rfl, K396, F397, F398, F399, F400, F401, F402, F403⟩ := hq395
            have Z405 : n0 ≤ h394.size := Nat.le_trans Z382 K396.1
            have F406 : Exa Z h394 a346 "com/example/words_to_weights/wordstoweights/model/PairCounter" := Exa.keep F368 K396
            have F407 : own_AI Z h394 a362 0 (fun _ => (-1 : Int32)) := own_A.keep F375 K396 (ninS (Ne.symm ne380) (ninS (Ne.symm F378) nin0))
            show own_Run p_ l e_ _ s_ m_ _ b_ mt_ c_ n0 _ h394 _ _ (mkF m_ 252 #[.val (.int p0), .val (.int p1), .val (.int p2), .val (.int p3), .val (.int p4), .val (.int x296), .val (.int (0 : Int32)), .val (.int (0 : Int32)), .val (.int x306), .val (.int x313), .val (.int x320), .val (.int x327), .val (.int x334), .val (.int x341), .val (.ref a346), .val (.int (0 : Int32)), .val (.int (0 : Int32)), .val (.int (1 : Int32)), .val (.int (1 : Int32)), .val (.int (0 : Int32)), .val (.int (0 : Int32)), .unset, .unset, .unset, .unset, .unset, .unset, .unset] [(.int (0 : Int32))])
            refine own_istore C (pc' := 254) (Ls' := #[.val (.int p0), .val (.int p1), .val (.int p2), .val (.int p3), .val (.int p4), .val (.int x296), .val (.int (0 : Int32)), .val (.int (0 : Int32)), .val (.int x306), .val (.int x313), .val (.int x320), .val (.int x327), .val (.int x334), .val (.int x341), .val (.ref a346), .val (.int (0 : Int32)), .val (.int (0 : Int32)), .val (.int (1 : Int32)), .val (.int (1 : Int32)), .val (.int (0 : Int32)), .val (.int (0 : Int32)), .val (.int (0 : Int32)), .unset, .unset, .unset, .unset, .unset, .unset]) at_252 rfl rfl ?_
            refine own_aload C (pc' := 256) at_254 rfl rfl rfl ?_
            refine own_callV C (pc' := 259) (y := (⟨"com/example/words_to_weights/wordstoweights/model/PairCounter", "slots", "()I"⟩ : MethodName)) (a := a346) (argsL := []) (rest := []) 0 F397 (hw _ (List.mem_of_getElem? (i := 40) rfl)) (hw _ (List.mem_of_getElem? (i := 41) rfl)) (hw _ (List.mem_of_getElem? (i := 43) rfl)) (hw _ (List.mem_of_getElem? (i := 42) rfl)) (hw _ (List.mem_of_getElem? (i := 44) rfl)) (hw _ (List.mem_of_getElem? (i := 9) rfl)) (by decide) (own_m8 hw a346 (1 : Int32) Z405 F402 ) (by decide) (by decide) (lenOf own_pd4 rfl) rfl (Nat.le_of_eq rfl) at_256 rfl rfl (by decide) (by decide) (fun v408 h409 hq410 => ?_)
            obtain ⟨rfl, rfl⟩ := hq410
            show own_Run p_ l e_ _ s_ m_ _ b_ mt_ c_ n0 _ h394 _ _ (mkF m_ 259 #[.val (.int p0), .val (.int p1), .val (.int p2), .val (.int p3), .val (.int p4), .val (.int x296), .val (.int (0 : Int32)), .val (.int (0 : Int32)), .val (.int x306), .val (.int x313), .val (.int x320), .val (.int x327), .val (.int x334), .val (.int x341), .val (.ref a346), .val (.int (0 : Int32)), .val (.int (0 : Int32)), .val (.int (1 : Int32)), .val (.int (1 : Int32)), .val (.int (0 : Int32)), .val (.int (0 : Int32)), .val (.int (0 : Int32)), .unset, .unset, .unset, .unset, .unset, .unset] [(.int (1 : Int32))])
            refine own_istore C (pc' := 261) (Ls' := #[.val (.int p0), .val (.int p1), .val (.int p2), .val (.int p3), .val (.int p4), .val (.int x296), .val (.int (0 : Int32)), .val (.int (0 : Int32)), .val (.int x306), .val (.int x313), .val (.int x320), .val (.int x327), .val (.int x334), .val (.int x341), .val (.ref a346), .val (.int (0 : Int32)), .val (.int (0 : Int32)), .val (.int (1 : Int32)), .val (.int (1 : Int32)), .val (.int (0 : Int32)), .val (.int (0 : Int32)), .val (.int (0 : Int32)), .val (.int (1 : Int32)), .unset, .unset, .unset, .unset, .unset]) at_259 rfl rfl ?_
            refine own_aload C (pc' := 263) at_261 rfl rfl rfl ?_
            refine own_iload C (pc' := 265) at_263 rfl rfl ?_
            refine own_iload C (pc' := 267) at_265 rfl rfl ?_
            refine own_callV C (pc' := 270) (y := (⟨"com/example/words_to_weights/wordstoweights/model/PairCounter", "addOrdered", "(II)I"⟩ : MethodName)) (a := a346) (argsL := [(.int x320), (.int x327)]) (rest := []) 0 F397 (hw _ (List.mem_of_getElem? (i := 29) rfl)) (hw _ (List.mem_of_getElem? (i := 30) rfl)) (hw _ (List.mem_of_getElem? (i := 32) rfl)) (hw _ (List.mem_of_getElem? (i := 31) rfl)) (hw _ (List.mem_of_getElem? (i := 33) rfl)) (hw _ (List.mem_of_getElem? (i := 9) rfl)) (by decide) (own_addO hw a346 M (own_upd (own_upd (fun _ => (-1 : Int32)) I1 (0 : Int32)) I1 (0 : Int32)) x320 x327 I2 x296 a361 (0 : Int32) Z405 F397 F398 F400 F403 hiI2 hbI2 (by simp [own_upd, h21, h31]) (by decide)) (by decide) (by decide) (lenOf own_pd2 rfl) rfl (Nat.le_of_eq rfl) at_267 rfl rfl (by decide) (by decide) (fun v411 h412 hq413 => ?_)
            obtain ⟨rfl, rfl⟩ := hq413
            show own_Run p_ l e_ _ s_ m_ _ b_ mt_ c_ n0 _ h394 _ _ (mkF m_ 270 #[.val (.int p0), .val (.int p1), .val (.int p2), .val (.int p3), .val (.int p4), .val (.int x296), .val (.int (0 : Int32)), .val (.int (0 : Int32)), .val (.int x306), .val (.int x313), .val (.int x320), .val (.int x327), .val (.int x334), .val (.int x341), .val (.ref a346), .val (.int (0 : Int32)), .val (.int (0 : Int32)), .val (.int (1 : Int32)), .val (.int (1 : Int32)), .val (.int (0 : Int32)), .val (.int (0 : Int32)), .val (.int (0 : Int32)), .val (.int (1 : Int32)), .unset, .unset, .unset, .unset, .unset] [(.int (0 : Int32))])
            refine own_istore C (pc' := 272) (Ls' := #[.val (.int p0), .val (.int p1), .val (.int p2), .val (.int p3), .val (.int p4), .val (.int x296), .val (.int (0 : Int32)), .val (.int (0 : Int32)), .val (.int x306), .val (.int x313), .val (.int x320), .val (.int x327), .val (.int x334), .val (.int x341), .val (.ref a346), .val (.int (0 : Int32)), .val (.int (0 : Int32)), .val (.int (1 : Int32)), .val (.int (1 : Int32)), .val (.int (0 : Int32)), .val (.int (0 : Int32)), .val (.int (0 : Int32)), .val (.int (1 : Int32)), .val (.int (0 : Int32)), .unset, .unset, .unset, .unset]) at_270 rfl rfl ?_
            refine own_aload C (pc' := 274) at_272 rfl rfl rfl ?_
            refine own_iload C (pc' := 276) at_274 rfl rfl ?_
            refine own_iload C (pc' := 278) at_276 rfl rfl ?_
            refine own_callV C (pc' := 281) (y := (⟨"com/example/words_to_weights/wordstoweights/model/PairCounter", "addOrdered", "(II)I"⟩ : MethodName)) (a := a346) (argsL := [(.int x334), (.int x341)]) (rest := []) 0 F397 (hw _ (List.mem_of_getElem? (i := 29) rfl)) (hw _ (List.mem_of_getElem? (i := 30) rfl)) (hw _ (List.mem_of_getElem? (i := 32) rfl)) (hw _ (List.mem_of_getElem? (i := 31) rfl)) (hw _ (List.mem_of_getElem? (i := 33) rfl)) (hw _ (List.mem_of_getElem? (i := 9) rfl)) (by decide) (own_addO hw a346 M (own_upd (own_upd (fun _ => (-1 : Int32)) I1 (0 : Int32)) I1 (0 : Int32)) x334 x341 I3 x296 a361 (0 : Int32) Z405 F397 F398 F400 F403 hiI3 hbI3 (by simp [own_upd, h21, h31]) (by decide)) (by decide) (by decide) (lenOf own_pd2 rfl) rfl (Nat.le_of_eq rfl) at_278 rfl rfl (by decide) (by decide) (fun v414 h415 hq416 => ?_)
            obtain ⟨rfl, rfl⟩ := hq416
            show own_Run p_ l e_ _ s_ m_ _ b_ mt_ c_ n0 _ h394 _ _ (mkF m_ 281 #[.val (.int p0), .val (.int p1), .val (.int p2), .val (.int p3), .val (.int p4), .val (.int x296), .val (.int (0 : Int32)), .val (.int (0 : Int32)), .val (.int x306), .val (.int x313), .val (.int x320), .val (.int x327), .val (.int x334), .val (.int x341), .val (.ref a346), .val (.int (0 : Int32)), .val (.int (0 : Int32)), .val (.int (1 : Int32)), .val (.int (1 : Int32)), .val (.int (0 : Int32)), .val (.int (0 : Int32)), .val (.int (0 : Int32)), .val (.int (1 : Int32)), .val (.int (0 : Int32)), .unset, .unset, .unset, .unset] [(.int (0 : Int32))])
            refine own_istore C (pc' := 283) (Ls' := #[.val (.int p0), .val (.int p1), .val (.int p2), .val (.int p3), .val (.int p4), .val (.int x296), .val (.int (0 : Int32)), .val (.int (0 : Int32)), .val (.int x306), .val (.int x313), .val (.int x320), .val (.int x327), .val (.int x334), .val (.int x341), .val (.ref a346), .val (.int (0 : Int32)), .val (.int (0 : Int32)), .val (.int (1 : Int32)), .val (.int (1 : Int32)), .val (.int (0 : Int32)), .val (.int (0 : Int32)), .val (.int (0 : Int32)), .val (.int (1 : Int32)), .val (.int (0 : Int32)), .val (.int (0 : Int32)), .unset, .unset, .unset]) at_281 rfl rfl ?_
            refine own_aload C (pc' := 285) at_283 rfl rfl rfl ?_
            refine own_callV C (pc' := 288) (y := (⟨"com/example/words_to_weights/wordstoweights/model/PairCounter", "slots", "()I"⟩ : MethodName)) (a := a346) (argsL := []) (rest := []) 0 F397 (hw _ (List.mem_of_getElem? (i := 40) rfl)) (hw _ (List.mem_of_getElem? (i := 41) rfl)) (hw _ (List.mem_of_getElem? (i := 43) rfl)) (hw _ (List.mem_of_getElem? (i := 42) rfl)) (hw _ (List.mem_of_getElem? (i := 44) rfl)) (hw _ (List.mem_of_getElem? (i := 9) rfl)) (by decide) (own_m8 hw a346 (1 : Int32) Z405 F402 ) (by decide) (by decide) (lenOf own_pd4 rfl) rfl (Nat.le_of_eq rfl) at_285 rfl rfl (by decide) (by decide) (fun v417 h418 hq419 => ?_)
            obtain ⟨rfl, rfl⟩ := hq419
            show own_Run p_ l e_ _ s_ m_ _ b_ mt_ c_ n0 _ h394 _ _ (mkF m_ 288 #[.val (.int p0), .val (.int p1), .val (.int p2), .val (.int p3), .val (.int p4), .val (.int x296), .val (.int (0 : Int32)), .val (.int (0 : Int32)), .val (.int x306), .val (.int x313), .val (.int x320), .val (.int x327), .val (.int x334), .val (.int x341), .val (.ref a346), .val (.int (0 : Int32)), .val (.int (0 : Int32)), .val (.int (1 : Int32)), .val (.int (1 : Int32)), .val (.int (0 : Int32)), .val (.int (0 : Int32)), .val (.int (0 : Int32)), .val (.int (1 : Int32)), .val (.int (0 : Int32)), .val (.int (0 : Int32)), .unset, .unset, .unset] [(.int (1 : Int32))])
            refine own_istore C (pc' := 290) (Ls' := #[.val (.int p0), .val (.int p1), .val (.int p2), .val (.int p3), .val (.int p4), .val (.int x296), .val (.int (0 : Int32)), .val (.int (0 : Int32)), .val (.int x306), .val (.int x313), .val (.int x320), .val (.int x327), .val (.int x334), .val (.int x341), .val (.ref a346), .val (.int (0 : Int32)), .val (.int (0 : Int32)), .val (.int (1 : Int32)), .val (.int (1 : Int32)), .val (.int (0 : Int32)), .val (.int (0 : Int32)), .val (.int (0 : Int32)), .val (.int (1 : Int32)), .val (.int (0 : Int32)), .val (.int (0 : Int32)), .val (.int (1 : Int32)), .unset, .unset]) at_288 rfl rfl ?_
            refine own_aload C (pc' := 292) at_290 rfl rfl rfl ?_
            refine own_iload C (pc' := 294) at_292 rfl rfl ?_
            refine own_iload C (pc' := 296) at_294 rfl rfl ?_
            refine own_callV C (pc' := 299) (y := (⟨"com/example/words_to_weights/wordstoweights/model/PairCounter", "addOrdered", "(II)I"⟩ : MethodName)) (a := a346) (argsL := [(.int x306), (.int x313)]) (rest := []) 0 F397 (hw _ (List.mem_of_getElem? (i := 29) rfl)) (hw _ (List.mem_of_getElem? (i := 30) rfl)) (hw _ (List.mem_of_getElem? (i := 32) rfl)) (hw _ (List.mem_of_getElem? (i := 31) rfl)) (hw _ (List.mem_of_getElem? (i := 33) rfl)) (hw _ (List.mem_of_getElem? (i := 9) rfl)) (by decide) (own_addO hw a346 M (own_upd (own_upd (fun _ => (-1 : Int32)) I1 (0 : Int32)) I1 (0 : Int32)) x306 x313 I1 x296 a361 (0 : Int32) Z405 F397 F398 F400 F403 hiI1 hbI1 (by simp [own_upd, h21, h31]) (by decide)) (by decide) (by decide) (lenOf own_pd2 rfl) rfl (Nat.le_of_eq rfl) at_296 rfl rfl (by decide) (by decide) (fun v420 h421 hq422 => ?_)
            obtain ⟨rfl, rfl⟩ := hq422
            show own_Run p_ l e_ _ s_ m_ _ b_ mt_ c_ n0 _ h394 _ _ (mkF m_ 299 #[.val (.int p0), .val (.int p1), .val (.int p2), .val (.int p3), .val (.int p4), .val (.int x296), .val (.int (0 : Int32)), .val (.int (0 : Int32)), .val (.int x306), .val (.int x313), .val (.int x320), .val (.int x327), .val (.int x334), .val (.int x341), .val (.ref a346), .val (.int (0 : Int32)), .val (.int (0 : Int32)), .val (.int (1 : Int32)), .val (.int (1 : Int32)), .val (.int (0 : Int32)), .val (.int (0 : Int32)), .val (.int (0 : Int32)), .val (.int (1 : Int32)), .val (.int (0 : Int32)), .val (.int (0 : Int32)), .val (.int (1 : Int32)), .unset, .unset] [(.int (0 : Int32))])
            refine own_istore C (pc' := 301) (Ls' := #[.val (.int p0), .val (.int p1), .val (.int p2), .val (.int p3), .val (.int p4), .val (.int x296), .val (.int (0 : Int32)), .val (.int (0 : Int32)), .val (.int x306), .val (.int x313), .val (.int x320), .val (.int x327), .val (.int x334), .val (.int x341), .val (.ref a346), .val (.int (0 : Int32)), .val (.int (0 : Int32)), .val (.int (1 : Int32)), .val (.int (1 : Int32)), .val (.int (0 : Int32)), .val (.int (0 : Int32)), .val (.int (0 : Int32)), .val (.int (1 : Int32)), .val (.int (0 : Int32)), .val (.int (0 : Int32)), .val (.int (1 : Int32)), .val (.int (0 : Int32)), .unset]) at_299 rfl rfl ?_
            refine own_aload C (pc' := 303) at_301 rfl rfl rfl ?_
            refine own_callV C (pc' := 306) (y := (⟨"com/example/words_to_weights/wordstoweights/model/PairCounter", "slots", "()I"⟩ : MethodName)) (a := a346) (argsL := []) (rest := []) 0 F397 (hw _ (List.mem_of_getElem? (i := 40) rfl)) (hw _ (List.mem_of_getElem? (i := 41) rfl)) (hw _ (List.mem_of_getElem? (i := 43) rfl)) (hw _ (List.mem_of_getElem? (i := 42) rfl)) (hw _ (List.mem_of_getElem? (i := 44) rfl)) (hw _ (List.mem_of_getElem? (i := 9) rfl)) (by decide) (own_m8 hw a346 (1 : Int32) Z405 F402 ) (by decide) (by decide) (lenOf own_pd4 rfl) rfl (Nat.le_of_eq rfl) at_303 rfl rfl (by decide) (by decide) (fun v423 h424 hq425 => ?_)
            obtain ⟨rfl, rfl⟩ := hq425
            show own_Run p_ l e_ _ s_ m_ _ b_ mt_ c_ n0 _ h394 _ _ (mkF m_ 306 #[.val (.int p0), .val (.int p1), .val (.int p2), .val (.int p3), .val (.int p4), .val (.int x296), .val (.int (0 : Int32)), .val (.int (0 : Int32)), .val (.int x306), .val (.int x313), .val (.int x320), .val (.int x327), .val (.int x334), .val (.int x341), .val (.ref a346), .val (.int (0 : Int32)), .val (.int (0 : Int32)), .val (.int (1 : Int32)), .val (.int (1 : Int32)), .val (.int (0 : Int32)), .val (.int (0 : Int32)), .val (.int (0 : Int32)), .val (.int (1 : Int32)), .val (.int (0 : Int32)), .val (.int (0 : Int32)), .val (.int (1 : Int32)), .val (.int (0 : Int32)), .unset] [(.int (1 : Int32))])
            refine own_istore C (pc' := 308) (Ls' := #[.val (.int p0), .val (.int p1), .val (.int p2), .val (.int p3), .val (.int p4), .val (.int x296), .val (.int (0 : Int32)), .val (.int (0 : Int32)), .val (.int x306), .val (.int x313), .val (.int x320), .val (.int x327), .val (.int x334), .val (.int x341), .val (.ref a346), .val (.int (0 : Int32)), .val (.int (0 : Int32)), .val (.int (1 : Int32)), .val (.int (1 : Int32)), .val (.int (0 : Int32)), .val (.int (0 : Int32)), .val (.int (0 : Int32)), .val (.int (1 : Int32)), .val (.int (0 : Int32)), .val (.int (0 : Int32)), .val (.int (1 : Int32)), .val (.int (0 : Int32)), .val (.int (1 : Int32))]) at_306 rfl rfl ?_
            refine own_iload C (pc' := 310) at_308 rfl rfl ?_
            refine own_iload C (pc' := 312) at_310 rfl rfl ?_
            refine own_ii_ne C (pc1 := 363) (pc2 := 315) at_312 rfl rfl (fun c426 => absurd c426 (by decide)) (fun c426 => ?_)
            refine own_iload C (pc' := 317) at_315 rfl rfl ?_
            refine own_iload C (pc' := 319) at_317 rfl rfl ?_
            refine own_iconst C (pc' := 320) (v := (1 : Int32)) at_319 rfl (by decide) ?_
            refine own_iaddV C (pc' := 321) (v := (1 : Int32)) at_320 rfl (by decide) ?_
            refine own_ii_ne C (pc1 := 363) (pc2 := 324) at_321 rfl rfl (fun c427 => absurd c427 (by decide)) (fun c427 => ?_)
            refine own_iload C (pc' := 326) at_324 rfl rfl ?_
            refine own_iload C (pc' := 328) at_326 rfl rfl ?_
            refine own_ii_ne C (pc1 := 363) (pc2 := 331) at_328 rfl rfl (fun c428 => absurd c428 (by decide)) (fun c428 => ?_)
            refine own_iload C (pc' := 333) at_331 rfl rfl ?_
            refine own_iload C (pc' := 335) at_333 rfl rfl ?_
            refine own_ii_ne C (pc1 := 363) (pc2 := 338) at_335 rfl rfl (fun c429 => absurd c429 (by decide)) (fun c429 => ?_)
            refine own_iload C (pc' := 340) at_338 rfl rfl ?_
            refine own_iload C (pc' := 342) at_340 rfl rfl ?_
            refine own_ii_ne C (pc1 := 363) (pc2 := 345) at_342 rfl rfl (fun c430 => absurd c430 (by decide)) (fun c430 => ?_)
            refine own_iload C (pc' := 347) at_345 rfl rfl ?_
            refine own_iload C (pc' := 349) at_347 rfl rfl ?_
            refine own_ii_ne C (pc1 := 363) (pc2 := 352) at_349 rfl rfl (fun c431 => absurd c431 (by decide)) (fun c431 => ?_)
            refine own_iload C (pc' := 354) at_352 rfl rfl ?_
            refine own_iload C (pc' := 356) at_354 rfl rfl ?_
            refine own_ii_ne C (pc1 := 363) (pc2 := 359) at_356 rfl rfl (fun c432 => absurd c432 (by decide)) (fun c432 => ?_)
            refine own_iconst C (pc' := 360) (v := (1 : Int32)) at_359 rfl (by decide) ?_
            refine own_goto C (pc' := 364) at_360 rfl ?_
            exact own_ret C (t := .boolean) rfl rfl (Or.inl ⟨rfl, by simp, _, rfl⟩) at_364 (by decide) (by decide) (rfl)
          · show own_Run p_ l e_ _ s_ m_ _ b_ mt_ c_ n0 _ h359 _ _ (mkF m_ 243 #[.val (.int p0), .val (.int p1), .val (.int p2), .val (.int p3), .val (.int p4), .val (.int x296), .val (.int (0 : Int32)), .val (.int (0 : Int32)), .val (.int x306), .val (.int x313), .val (.int x320), .val (.int x327), .val (.int x334), .val (.int x341), .val (.ref a346), .val (.int (0 : Int32)), .val (.int (0 : Int32)), .val (.int (2 : Int32)), .val (.int (1 : Int32)), .val (.int (0 : Int32)), .val (.int (1 : Int32)), .unset, .unset, .unset, .unset, .unset, .unset, .unset] [])
            refine own_aload C (pc' := 245) at_243 rfl rfl rfl ?_
            refine own_iload C (pc' := 247) at_245 rfl rfl ?_
            refine own_iload C (pc' := 249) at_247 rfl rfl ?_
            refine own_callV C (pc' := 252) (y := (⟨"com/example/words_to_weights/wordstoweights/model/PairCounter", "addOrdered", "(II)I"⟩ : MethodName)) (a := a346) (argsL := [(.int x306), (.int x313)]) (rest := []) 0 F368 (hw _ (List.mem_of_getElem? (i := 29) rfl)) (hw _ (List.mem_of_getElem? (i := 30) rfl)) (hw _ (List.mem_of_getElem? (i := 32) rfl)) (hw _ (List.mem_of_getElem? (i := 31) rfl)) (hw _ (List.mem_of_getElem? (i := 33) rfl)) (hw _ (List.mem_of_getElem? (i := 9) rfl)) (by decide) (own_addN hw a346 M (fun _ => (-1 : Int32)) (0 : Int32) x306 x313 I1 x296 (0 : Int32) a361 a362 (1 : Int32) Z382 F368 ga348 ga364 ne379 F369 F370 F371 F372 F373 F374 hiI1 hbI1 (by simp [own_upd, h21, h31, Ne.symm h31]) (by decide)) (by decide) (by decide) (lenOf own_pd2 rfl) rfl (Nat.le_of_eq rfl) at_249 rfl rfl (by decide) (by decide) (fun v433 h434 hq435 => ?_)
            obtain ⟨rfl, K436, F437, F438, F439, F440, F441, F442, F443⟩ := hq435
            have Z445 : n0 ≤ h434.size := Nat.le_trans Z382 K436.1
            have F446 : Exa Z h434 a346 "com/example/words_to_weights/wordstoweights/model/PairCounter" := Exa.keep F368 K436
            have F447 : own_AI Z h434 a362 0 (fun _ => (-1 : Int32)) := own_A.keep F375 K436 (ninS (Ne.symm ne380) (ninS (Ne.symm F378) nin0))
            show own_Run p_ l e_ _ s_ m_ _ b_ mt_ c_ n0 _ h434 _ _ (mkF m_ 252 #[.val (.int p0), .val (.int p1), .val (.int p2), .val (.int p3), .val (.int p4), .val (.int x296), .val (.int (0 : Int32)), .val (.int (0 : Int32)), .val (.int x306), .val (.int x313), .val (.int x320), .val (.int x327), .val (.int x334), .val (.int x341), .val (.ref a346), .val (.int (0 : Int32)), .val (.int (0 : Int32)), .val (.int (2 : Int32)), .val (.int (1 : Int32)), .val (.int (0 : Int32)), .val (.int (1 : Int32)), .unset, .unset, .unset, .unset, .unset, .unset, .unset] [(.int (0 : Int32))])
            refine own_istore C (pc' := 254) (Ls' := #[.val (.int p0), .val (.int p1), .val (.int p2), .val (.int p3), .val (.int p4), .val (.int x296), .val (.int (0 : Int32)), .val (.int (0 : Int32)), .val (.int x306), .val (.int x313), .val (.int x320), .val (.int x327), .val (.int x334), .val (.int x341), .val (.ref a346), .val (.int (0 : Int32)), .val (.int (0 : Int32)), .val (.int (2 : Int32)), .val (.int (1 : Int32)), .val (.int (0 : Int32)), .val (.int (1 : Int32)), .val (.int (0 : Int32)), .unset, .unset, .unset, .unset, .unset, .unset]) at_252 rfl rfl ?_
            refine own_aload C (pc' := 256) at_254 rfl rfl rfl ?_
            refine own_callV C (pc' := 259) (y := (⟨"com/example/words_to_weights/wordstoweights/model/PairCounter", "slots", "()I"⟩ : MethodName)) (a := a346) (argsL := []) (rest := []) 0 F437 (hw _ (List.mem_of_getElem? (i := 40) rfl)) (hw _ (List.mem_of_getElem? (i := 41) rfl)) (hw _ (List.mem_of_getElem? (i := 43) rfl)) (hw _ (List.mem_of_getElem? (i := 42) rfl)) (hw _ (List.mem_of_getElem? (i := 44) rfl)) (hw _ (List.mem_of_getElem? (i := 9) rfl)) (by decide) (own_m8 hw a346 (1 : Int32) Z445 F442 ) (by decide) (by decide) (lenOf own_pd4 rfl) rfl (Nat.le_of_eq rfl) at_256 rfl rfl (by decide) (by decide) (fun v448 h449 hq450 => ?_)
            obtain ⟨rfl, rfl⟩ := hq450
            show own_Run p_ l e_ _ s_ m_ _ b_ mt_ c_ n0 _ h434 _ _ (mkF m_ 259 #[.val (.int p0), .val (.int p1), .val (.int p2), .val (.int p3), .val (.int p4), .val (.int x296), .val (.int (0 : Int32)), .val (.int (0 : Int32)), .val (.int x306), .val (.int x313), .val (.int x320), .val (.int x327), .val (.int x334), .val (.int x341), .val (.ref a346), .val (.int (0 : Int32)), .val (.int (0 : Int32)), .val (.int (2 : Int32)), .val (.int (1 : Int32)), .val (.int (0 : Int32)), .val (.int (1 : Int32)), .val (.int (0 : Int32)), .unset, .unset, .unset, .unset, .unset, .unset] [(.int (1 : Int32))])
            refine own_istore C (pc' := 261) (Ls' := #[.val (.int p0), .val (.int p1), .val (.int p2), .val (.int p3), .val (.int p4), .val (.int x296), .val (.int (0 : Int32)), .val (.int (0 : Int32)), .val (.int x306), .val (.int x313), .val (.int x320), .val (.int x327), .val (.int x334), .val (.int x341), .val (.ref a346), .val (.int (0 : Int32)), .val (.int (0 : Int32)), .val (.int (2 : Int32)), .val (.int (1 : Int32)), .val (.int (0 : Int32)), .val (.int (1 : Int32)), .val (.int (0 : Int32)), .val (.int (1 : Int32)), .unset, .unset, .unset, .unset, .unset]) at_259 rfl rfl ?_
            refine own_aload C (pc' := 263) at_261 rfl rfl rfl ?_
            refine own_iload C (pc' := 265) at_263 rfl rfl ?_
            refine own_iload C (pc' := 267) at_265 rfl rfl ?_
            refine own_callV C (pc' := 270) (y := (⟨"com/example/words_to_weights/wordstoweights/model/PairCounter", "addOrdered", "(II)I"⟩ : MethodName)) (a := a346) (argsL := [(.int x320), (.int x327)]) (rest := []) 0 F437 (hw _ (List.mem_of_getElem? (i := 29) rfl)) (hw _ (List.mem_of_getElem? (i := 30) rfl)) (hw _ (List.mem_of_getElem? (i := 32) rfl)) (hw _ (List.mem_of_getElem? (i := 31) rfl)) (hw _ (List.mem_of_getElem? (i := 33) rfl)) (hw _ (List.mem_of_getElem? (i := 9) rfl)) (by decide) (own_addO hw a346 M (own_upd (own_upd (fun _ => (-1 : Int32)) I1 (0 : Int32)) I1 (0 : Int32)) x320 x327 I2 x296 a361 (0 : Int32) Z445 F437 F438 F440 F443 hiI2 hbI2 (by simp [own_upd, h21, h31, Ne.symm h31]) (by decide)) (by decide) (by decide) (lenOf own_pd2 rfl) rfl (Nat.le_of_eq rfl) at_267 rfl rfl (by decide) (by decide) (fun v451 h452 hq453 => ?_)
            obtain ⟨rfl, rfl⟩ := hq453
            show own_Run p_ l e_ _ s_ m_ _ b_ mt_ c_ n0 _ h434 _ _ (mkF m_ 270 #[.val (.int p0), .val (.int p1), .val (.int p2), .val (.int p3), .val (.int p4), .val (.int x296), .val (.int (0 : Int32)), .val (.int (0 : Int32)), .val (.int x306), .val (.int x313), .val (.int x320), .val (.int x327), .val (.int x334), .val (.int x341), .val (.ref a346), .val (.int (0 : Int32)), .val (.int (0 : Int32)), .val (.int (2 : Int32)), .val (.int (1 : Int32)), .val (.int (0 : Int32)), .val (.int (1 : Int32)), .val (.int (0 : Int32)), .val (.int (1 : Int32)), .unset, .unset, .unset, .unset, .unset] [(.int (0 : Int32))])
            refine own_istore C (pc' := 272) (Ls' := #[.val (.int p0), .val (.int p1), .val (.int p2), .val (.int p3), .val (.int p4), .val (.int x296), .val (.int (0 : Int32)), .val (.int (0 : Int32)), .val (.int x306), .val (.int x313), .val (.int x320), .val (.int x327), .val (.int x334), .val (.int x341), .val (.ref a346), .val (.int (0 : Int32)), .val (.int (0 : Int32)), .val (.int (2 : Int32)), .val (.int (1 : Int32)), .val (.int (0 : Int32)), .val (.int (1 : Int32)), .val (.int (0 : Int32)), .val (.int (1 : Int32)), .val (.int (0 : Int32)), .unset, .unset, .unset, .unset]) at_270 rfl rfl ?_
            refine own_aload C (pc' := 274) at_272 rfl rfl rfl ?_
            refine own_iload C (pc' := 276) at_274 rfl rfl ?_
            refine own_iload C (pc' := 278) at_276 rfl rfl ?_
            refine own_callV C (pc' := 281) (y := (⟨"com/example/words_to_weights/wordstoweights/model/PairCounter", "addOrdered", "(II)I"⟩ : MethodName)) (a := a346) (argsL := [(.int x334), (.int x341)]) (rest := []) 0 F437 (hw _ (List.mem_of_getElem? (i := 29) rfl)) (hw _ (List.mem_of_getElem? (i := 30) rfl)) (hw _ (List.mem_of_getElem? (i := 32) rfl)) (hw _ (List.mem_of_getElem? (i := 31) rfl)) (hw _ (List.mem_of_getElem? (i := 33) rfl)) (hw _ (List.mem_of_getElem? (i := 9) rfl)) (by decide) (own_addN hw a346 M (own_upd (own_upd (fun _ => (-1 : Int32)) I1 (0 : Int32)) I1 (0 : Int32)) (1 : Int32) x334 x341 I3 x296 (0 : Int32) a361 a362 (2 : Int32) Z445 F437 ga348 ga364 ne379 F438 F439 F440 F441 F442 F443 hiI3 hbI3 (by simp [own_upd, h21, h31, Ne.symm h31]) (by decide)) (by decide) (by decide) (lenOf own_pd2 rfl) rfl (Nat.le_of_eq rfl) at_278 rfl rfl (by decide) (by decide) (fun v454 h455 hq456 => ?_)
            obtain ⟨rfl, K457, F458, F459, F460, F461, F462, F463, F464⟩ := hq456
            have Z466 : n0 ≤ h455.size := Nat.le_trans Z445 K457.1
            have F467 : own_AI Z h455 a362 0 (fun _ => (-1 : Int32)) := own_A.keep F447 K457 (ninS (Ne.symm ne380) (ninS (Ne.symm F378) nin0))
            have F468 : Exa Z h455 a346 "com/example/words_to_weights/wordstoweights/model/PairCounter" := Exa.keep F437 K457
            show own_Run p_ l e_ _ s_ m_ _ b_ mt_ c_ n0 _ h455 _ _ (mkF m_ 281 #[.val (.int p0), .val (.int p1), .val (.int p2), .val (.int p3), .val (.int p4), .val (.int x296), .val (.int (0 : Int32)), .val (.int (0 : Int32)), .val (.int x306), .val (.int x313), .val (.int x320), .val (.int x327), .val (.int x334), .val (.int x341), .val (.ref a346), .val (.int (0 : Int32)), .val (.int (0 : Int32)), .val (.int (2 : Int32)), .val (.int (1 : Int32)), .val (.int (0 : Int32)), .val (.int (1 : Int32)), .val (.int (0 : Int32)), .val (.int (1 : Int32)), .val (.int (0 : Int32)), .unset, .unset, .unset, .unset] [(.int (1 : Int32))])
            refine own_istore C (pc' := 283) (Ls' := #[.val (.int p0), .val (.int p1), .val (.int p2), .val (.int p3), .val (.int p4), .val (.int x296), .val (.int (0 : Int32)), .val (.int (0 : Int32)), .val (.int x306), .val (.int x313), .val (.int x320), .val (.int x327), .val (.int x334), .val (.int x341), .val (.ref a346), .val (.int (0 : Int32)), .val (.int (0 : Int32)), .val (.int (2 : Int32)), .val (.int (1 : Int32)), .val (.int (0 : Int32)), .val (.int (1 : Int32)), .val (.int (0 : Int32)), .val (.int (1 : Int32)), .val (.int (0 : Int32)), .val (.int (1 : Int32)), .unset, .unset, .unset]) at_281 rfl rfl ?_
            refine own_aload C (pc' := 285) at_283 rfl rfl rfl ?_
            refine own_callV C (pc' := 288) (y := (⟨"com/example/words_to_weights/wordstoweights/model/PairCounter", "slots", "()I"⟩ : MethodName)) (a := a346) (argsL := []) (rest := []) 0 F458 (hw _ (List.mem_of_getElem? (i := 40) rfl)) (hw _ (List.mem_of_getElem? (i := 41) rfl)) (hw _ (List.mem_of_getElem? (i := 43) rfl)) (hw _ (List.mem_of_getElem? (i := 42) rfl)) (hw _ (List.mem_of_getElem? (i := 44) rfl)) (hw _ (List.mem_of_getElem? (i := 9) rfl)) (by decide) (own_m8 hw a346 (2 : Int32) Z466 F463 ) (by decide) (by decide) (lenOf own_pd4 rfl) rfl (Nat.le_of_eq rfl) at_285 rfl rfl (by decide) (by decide) (fun v469 h470 hq471 => ?_)
            obtain ⟨rfl, rfl⟩ := hq471
            show own_Run p_ l e_ _ s_ m_ _ b_ mt_ c_ n0 _ h455 _ _ (mkF m_ 288 #[.val (.int p0), .val (.int p1), .val (.int p2), .val (.int p3), .val (.int p4), .val (.int x296), .val (.int (0 : Int32)), .val (.int (0 : Int32)), .val (.int x306), .val (.int x313), .val (.int x320), .val (.int x327), .val (.int x334), .val (.int x341), .val (.ref a346), .val (.int (0 : Int32)), .val (.int (0 : Int32)), .val (.int (2 : Int32)), .val (.int (1 : Int32)), .val (.int (0 : Int32)), .val (.int (1 : Int32)), .val (.int (0 : Int32)), .val (.int (1 : Int32)), .val (.int (0 : Int32)), .val (.int (1 : Int32)), .unset, .unset, .unset] [(.int (2 : Int32))])
            refine own_istore C (pc' := 290) (Ls' := #[.val (.int p0), .val (.int p1), .val (.int p2), .val (.int p3), .val (.int p4), .val (.int x296), .val (.int (0 : Int32)), .val (.int (0 : Int32)), .val (.int x306), .val (.int x313), .val (.int x320), .val (.int x327), .val (.int x334), .val (.int x341), .val (.ref a346), .val (.int (0 : Int32)), .val (.int (0 : Int32)), .val (.int (2 : Int32)), .val (.int (1 : Int32)), .val (.int (0 : Int32)), .val (.int (1 : Int32)), .val (.int (0 : Int32)), .val (.int (1 : Int32)), .val (.int (0 : Int32)), .val (.int (1 : Int32)), .val (.int (2 : Int32)), .unset, .unset]) at_288 rfl rfl ?_
            refine own_aload C (pc' := 292) at_290 rfl rfl rfl ?_
            refine own_iload C (pc' := 294) at_292 rfl rfl ?_
            refine own_iload C (pc' := 296) at_294 rfl rfl ?_
            refine own_callV C (pc' := 299) (y := (⟨"com/example/words_to_weights/wordstoweights/model/PairCounter", "addOrdered", "(II)I"⟩ : MethodName)) (a := a346) (argsL := [(.int x306), (.int x313)]) (rest := []) 0 F458 (hw _ (List.mem_of_getElem? (i := 29) rfl)) (hw _ (List.mem_of_getElem? (i := 30) rfl)) (hw _ (List.mem_of_getElem? (i := 32) rfl)) (hw _ (List.mem_of_getElem? (i := 31) rfl)) (hw _ (List.mem_of_getElem? (i := 33) rfl)) (hw _ (List.mem_of_getElem? (i := 9) rfl)) (by decide) (own_addO hw a346 M (own_upd (own_upd (own_upd (own_upd (fun _ => (-1 : Int32)) I1 (0 : Int32)) I1 (0 : Int32)) I3 (1 : Int32)) I3 (1 : Int32)) x306 x313 I1 x296 a361 (0 : Int32) Z466 F458 F459 F461 F464 hiI1 hbI1 (by simp [own_upd, h21, h31, Ne.symm h31]) (by decide)) (by decide) (by decide) (lenOf own_pd2 rfl) rfl (Nat.le_of_eq rfl) at_296 rfl rfl (by decide) (by decide) (fun v472 h473 hq474 => ?_)
            obtain ⟨rfl, rfl⟩ := hq474
            show own_Run p_ l e_ _ s_ m_ _ b_ mt_ c_ n0 _ h455 _ _ (mkF m_ 299 #[.val (.int p0), .val (.int p1), .val (.int p2), .val (.int p3), .val (.int p4), .val (.int x296), .val (.int (0 : Int32)), .val (.int (0 : Int32)), .val (.int x306), .val (.int x313), .val (.int x320), .val (.int x327), .val (.int x334), .val (.int x341), .val (.ref a346), .val (.int (0 : Int32)), .val (.int (0 : Int32)), .val (.int (2 : Int32)), .val (.int (1 : Int32)), .val (.int (0 : Int32)), .val (.int (1 : Int32)), .val (.int (0 : Int32)), .val (.int (1 : Int32)), .val (.int (0 : Int32)), .val (.int (1 : Int32)), .val (.int (2 : Int32)), .unset, .unset] [(.int (0 : Int32))])
            refine own_istore C (pc' := 301) (Ls' := #[.val (.int p0), .val (.int p1), .val (.int p2), .val (.int p3), .val (.int p4), .val (.int x296), .val (.int (0 : Int32)), .val (.int (0 : Int32)), .val (.int x306), .val (.int x313), .val (.int x320), .val (.int x327), .val (.int x334), .val (.int x341), .val (.ref a346), .val (.int (0 : Int32)), .val (.int (0 : Int32)), .val (.int (2 : Int32)), .val (.int (1 : Int32)), .val (.int (0 : Int32)), .val (.int (1 : Int32)), .val (.int (0 : Int32)), .val (.int (1 : Int32)), .val (.int (0 : Int32)), .val (.int (1 : Int32)), .val (.int (2 : Int32)), .val (.int (0 : Int32)), .unset]) at_299 rfl rfl ?_
            refine own_aload C (pc' := 303) at_301 rfl rfl rfl ?_
            refine own_callV C (pc' := 306) (y := (⟨"com/example/words_to_weights/wordstoweights/model/PairCounter", "slots", "()I"⟩ : MethodName)) (a := a346) (argsL := []) (rest := []) 0 F458 (hw _ (List.mem_of_getElem? (i := 40) rfl)) (hw _ (List.mem_of_getElem? (i := 41) rfl)) (hw _ (List.mem_of_getElem? (i := 43) rfl)) (hw _ (List.mem_of_getElem? (i := 42) rfl)) (hw _ (List.mem_of_getElem? (i := 44) rfl)) (hw _ (List.mem_of_getElem? (i := 9) rfl)) (by decide) (own_m8 hw a346 (2 : Int32) Z466 F463 ) (by decide) (by decide) (lenOf own_pd4 rfl) rfl (Nat.le_of_eq rfl) at_303 rfl rfl (by decide) (by decide) (fun v475 h476 hq477 => ?_)
            obtain ⟨rfl, rfl⟩ := hq477
            show own_Run p_ l e_ _ s_ m_ _ b_ mt_ c_ n0 _ h455 _ _ (mkF m_ 306 #[.val (.int p0), .val (.int p1), .val (.int p2), .val (.int p3), .val (.int p4), .val (.int x296), .val (.int (0 : Int32)), .val (.int (0 : Int32)), .val (.int x306), .val (.int x313), .val (.int x320), .val (.int x327), .val (.int x334), .val (.int x341), .val (.ref a346), .val (.int (0 : Int32)), .val (.int (0 : Int32)), .val (.int (2 : Int32)), .val (.int (1 : Int32)), .val (.int (0 : Int32)), .val (.int (1 : Int32)), .val (.int (0 : Int32)), .val (.int (1 : Int32)), .val (.int (0 : Int32)), .val (.int (1 : Int32)), .val (.int (2 : Int32)), .val (.int (0 : Int32)), .unset] [(.int (2 : Int32))])
            refine own_istore C (pc' := 308) (Ls' := #[.val (.int p0), .val (.int p1), .val (.int p2), .val (.int p3), .val (.int p4), .val (.int x296), .val (.int (0 : Int32)), .val (.int (0 : Int32)), .val (.int x306), .val (.int x313), .val (.int x320), .val (.int x327), .val (.int x334), .val (.int x341), .val (.ref a346), .val (.int (0 : Int32)), .val (.int (0 : Int32)), .val (.int (2 : Int32)), .val (.int (1 : Int32)), .val (.int (0 : Int32)), .val (.int (1 : Int32)), .val (.int (0 : Int32)), .val (.int (1 : Int32)), .val (.int (0 : Int32)), .val (.int (1 : Int32)), .val (.int (2 : Int32)), .val (.int (0 : Int32)), .val (.int (2 : Int32))]) at_306 rfl rfl ?_
            refine own_iload C (pc' := 310) at_308 rfl rfl ?_
            refine own_iload C (pc' := 312) at_310 rfl rfl ?_
            refine own_ii_ne C (pc1 := 363) (pc2 := 315) at_312 rfl rfl (fun c478 => absurd c478 (by decide)) (fun c478 => ?_)
            refine own_iload C (pc' := 317) at_315 rfl rfl ?_
            refine own_iload C (pc' := 319) at_317 rfl rfl ?_
            refine own_iconst C (pc' := 320) (v := (1 : Int32)) at_319 rfl (by decide) ?_
            refine own_iaddV C (pc' := 321) (v := (1 : Int32)) at_320 rfl (by decide) ?_
            refine own_ii_ne C (pc1 := 363) (pc2 := 324) at_321 rfl rfl (fun c479 => absurd c479 (by decide)) (fun c479 => ?_)
            refine own_iload C (pc' := 326) at_324 rfl rfl ?_
            refine own_iload C (pc' := 328) at_326 rfl rfl ?_
            refine own_ii_ne C (pc1 := 363) (pc2 := 331) at_328 rfl rfl (fun c480 => absurd c480 (by decide)) (fun c480 => ?_)
            refine own_iload C (pc' := 333) at_331 rfl rfl ?_
            refine own_iload C (pc' := 335) at_333 rfl rfl ?_
            refine own_ii_ne C (pc1 := 363) (pc2 := 338) at_335 rfl rfl (fun c481 => absurd c481 (by decide)) (fun c481 => ?_)
            refine own_iload C (pc' := 340) at_338 rfl rfl ?_
            refine own_iload C (pc' := 342) at_340 rfl rfl ?_
            refine own_ii_ne C (pc1 := 363) (pc2 := 345) at_342 rfl rfl (fun c482 => absurd c482 (by decide)) (fun c482 => ?_)
            refine own_iload C (pc' := 347) at_345 rfl rfl ?_
            refine own_iload C (pc' := 349) at_347 rfl rfl ?_
            refine own_ii_ne C (pc1 := 363) (pc2 := 352) at_349 rfl rfl (fun c483 => absurd c483 (by decide)) (fun c483 => ?_)
            refine own_iload C (pc' := 354) at_352 rfl rfl ?_
            refine own_iload C (pc' := 356) at_354 rfl rfl ?_
            refine own_ii_ne C (pc1 := 363) (pc2 := 359) at_356 rfl rfl (fun c484 => absurd c484 (by decide)) (fun c484 => ?_)
            refine own_iconst C (pc' := 360) (v := (1 : Int32)) at_359 rfl (by decide) ?_
            refine own_goto C (pc' := 364) at_360 rfl ?_
            exact own_ret C (t := .boolean) rfl rfl (Or.inl ⟨rfl, by simp, _, rfl⟩) at_364 (by decide) (by decide) (rfl)
        · skip
          refine own_iload C (pc' := 193) at_191 rfl rfl ?_
          refine own_iload C (pc' := 195) at_193 rfl rfl ?_
          refine own_ii_ne C (pc1 := 212) (pc2 := 198) at_195 rfl rfl (fun c485 => ?_) (fun c485 => ?_)
          · skip
            refine own_iload C (pc' := 214) at_212 rfl rfl ?_
            refine own_iload C (pc' := 216) at_214 rfl rfl ?_
            refine own_ii_ne C (pc1 := 233) (pc2 := 219) at_216 rfl rfl (fun c486 => ?_) (fun c486 => ?_)
            · skip
              refine own_iload C (pc' := 235) at_233 rfl rfl ?_
              refine own_istore C (pc' := 237) (Ls' := #[.val (.int p0), .val (.int p1), .val (.int p2), .val (.int p3), .val (.int p4), .val (.int x296), .val (.int (0 : Int32)), .val (.int (0 : Int32)), .val (.int x306), .val (.int x313), .val (.int x320), .val (.int x327), .val (.int x334), .val (.int x341), .val (.ref a346), .val (.int (0 : Int32)), .val (.int (0 : Int32)), .val (.int (1 : Int32)), .val (.int (1 : Int32)), .val (.int (0 : Int32)), .val (.int (1 : Int32)), .unset, .unset, .unset, .unset, .unset, .unset, .unset]) at_235 rfl rfl ?_
              refine own_iload C (pc' := 239) at_237 rfl rfl ?_
              refine own_iconst C (pc' := 240) (v := (1 : Int32)) at_239 rfl (by decide) ?_
              refine own_iaddV C (pc' := 241) (v := (2 : Int32)) at_240 rfl (by decide) ?_
              refine own_istore C (pc' := 243) (Ls' := #[.val (.int p0), .val (.int p1), .val (.int p2), .val (.int p3), .val (.int p4), .val (.int x296), .val (.int (0 : Int32)), .val (.int (0 : Int32)), .val (.int x306), .val (.int x313), .val (.int x320), .val (.int x327), .val (.int x334), .val (.int x341), .val (.ref a346), .val (.int (0 : Int32)), .val (.int (0 : Int32)), .val (.int (2 : Int32)), .val (.int (1 : Int32)), .val (.int (0 : Int32)), .val (.int (1 : Int32)), .unset, .unset, .unset, .unset, .unset, .unset, .unset]) at_241 rfl rfl ?_
              exact J392 (1 : Int32) (2 : Int32) (Or.inr ⟨(fun e => c485 (hq31.mp e).1), trivial, rfl, rfl⟩)
            · skip
              refine own_iload C (pc' := 221) at_219 rfl rfl ?_
              refine own_iload C (pc' := 223) at_221 rfl rfl ?_
              refine own_ii_ne C (pc1 := 233) (pc2 := 226) at_223 rfl rfl (fun c487 => ?_) (fun c487 => ?_)
              · skip
                refine own_iload C (pc' := 235) at_233 rfl rfl ?_
                refine own_istore C (pc' := 237) (Ls' := #[.val (.int p0), .val (.int p1), .val (.int p2), .val (.int p3), .val (.int p4), .val (.int x296), .val (.int (0 : Int32)), .val (.int (0 : Int32)), .val (.int x306), .val (.int x313), .val (.int x320), .val (.int x327), .val (.int x334), .val (.int x341), .val (.ref a346), .val (.int (0 : Int32)), .val (.int (0 : Int32)), .val (.int (1 : Int32)), .val (.int (1 : Int32)), .val (.int (0 : Int32)), .val (.int (1 : Int32)), .unset, .unset, .unset, .unset, .unset, .unset, .unset]) at_235 rfl rfl ?_
                refine own_iload C (pc' := 239) at_237 rfl rfl ?_
                refine own_iconst C (pc' := 240) (v := (1 : Int32)) at_239 rfl (by decide) ?_
                refine own_iaddV C (pc' := 241) (v := (2 : Int32)) at_240 rfl (by decide) ?_
                refine own_istore C (pc' := 243) (Ls' := #[.val (.int p0), .val (.int p1), .val (.int p2), .val (.int p3), .val (.int p4), .val (.int x296), .val (.int (0 : Int32)), .val (.int (0 : Int32)), .val (.int x306), .val (.int x313), .val (.int x320), .val (.int x327), .val (.int x334), .val (.int x341), .val (.ref a346), .val (.int (0 : Int32)), .val (.int (0 : Int32)), .val (.int (2 : Int32)), .val (.int (1 : Int32)), .val (.int (0 : Int32)), .val (.int (1 : Int32)), .unset, .unset, .unset, .unset, .unset, .unset, .unset]) at_241 rfl rfl ?_
                exact J392 (1 : Int32) (2 : Int32) (Or.inr ⟨(fun e => c485 (hq31.mp e).1), trivial, rfl, rfl⟩)
              · skip
                refine own_iload C (pc' := 228) at_226 rfl rfl ?_
                refine own_istore C (pc' := 230) (Ls' := #[.val (.int p0), .val (.int p1), .val (.int p2), .val (.int p3), .val (.int p4), .val (.int x296), .val (.int (0 : Int32)), .val (.int (0 : Int32)), .val (.int x306), .val (.int x313), .val (.int x320), .val (.int x327), .val (.int x334), .val (.int x341), .val (.ref a346), .val (.int (0 : Int32)), .val (.int (0 : Int32)), .val (.int (1 : Int32)), .val (.int (1 : Int32)), .val (.int (0 : Int32)), .val (.int (0 : Int32)), .unset, .unset, .unset, .unset, .unset, .unset, .unset]) at_228 rfl rfl ?_
                refine own_goto C (pc' := 243) at_230 rfl ?_
                exact J392 (0 : Int32) (1 : Int32) (absurd ((hq32.mpr ⟨c486, c487⟩).trans h21) (fun e => c485 (hq31.mp e).1))
          · skip
            refine own_iload C (pc' := 200) at_198 rfl rfl ?_
            refine own_iload C (pc' := 202) at_200 rfl rfl ?_
            refine own_ii_ne C (pc1 := 212) (pc2 := 205) at_202 rfl rfl (fun c488 => ?_) (fun c488 => ?_)
            · skip
              refine own_iload C (pc' := 214) at_212 rfl rfl ?_
              refine own_iload C (pc' := 216) at_214 rfl rfl ?_
              refine own_ii_ne C (pc1 := 233) (pc2 := 219) at_216 rfl rfl (fun c489 => ?_) (fun c489 => ?_)
              · skip
                refine own_iload C (pc' := 235) at_233 rfl rfl ?_
                refine own_istore C (pc' := 237) (Ls' := #[.val (.int p0), .val (.int p1), .val (.int p2), .val (.int p3), .val (.int p4), .val (.int x296), .val (.int (0 : Int32)), .val (.int (0 : Int32)), .val (.int x306), .val (.int x313), .val (.int x320), .val (.int x327), .val (.int x334), .val (.int x341), .val (.ref a346), .val (.int (0 : Int32)), .val (.int (0 : Int32)), .val (.int (1 : Int32)), .val (.int (1 : Int32)), .val (.int (0 : Int32)), .val (.int (1 : Int32)), .unset, .unset, .unset, .unset, .unset, .unset, .unset]) at_235 rfl rfl ?_
                refine own_iload C (pc' := 239) at_237 rfl rfl ?_
                refine own_iconst C (pc' := 240) (v := (1 : Int32)) at_239 rfl (by decide) ?_
                refine own_iaddV C (pc' := 241) (v := (2 : Int32)) at_240 rfl (by decide) ?_
                refine own_istore C (pc' := 243) (Ls' := #[.val (.int p0), .val (.int p1), .val (.int p2), .val (.int p3), .val (.int p4), .val (.int x296), .val (.int (0 : Int32)), .val (.int (0 : Int32)), .val (.int x306), .val (.int x313), .val (.int x320), .val (.int x327), .val (.int x334), .val (.int x341), .val (.ref a346), .val (.int (0 : Int32)), .val (.int (0 : Int32)), .val (.int (2 : Int32)), .val (.int (1 : Int32)), .val (.int (0 : Int32)), .val (.int (1 : Int32)), .unset, .unset, .unset, .unset, .unset, .unset, .unset]) at_241 rfl rfl ?_
                exact J392 (1 : Int32) (2 : Int32) (Or.inr ⟨(fun e => c488 (hq31.mp e).2), trivial, rfl, rfl⟩)
              · skip
                refine own_iload C (pc' := 221) at_219 rfl rfl ?_
                refine own_iload C (pc' := 223) at_221 rfl rfl ?_
                refine own_ii_ne C (pc1 := 233) (pc2 := 226) at_223 rfl rfl (fun c490 => ?_) (fun c490 => ?_)
                · skip
                  refine own_iload C (pc' := 235) at_233 rfl rfl ?_
                  refine own_istore C (pc' := 237) (Ls' := #[.val (.int p0), .val (.int p1), .val (.int p2), .val (.int p3), .val (.int p4), .val (.int x296), .val (.int (0 : Int32)), .val (.int (0 : Int32)), .val (.int x306), .val (.int x313), .val (.int x320), .val (.int x327), .val (.int x334), .val (.int x341), .val (.ref a346), .val (.int (0 : Int32)), .val (.int (0 : Int32)), .val (.int (1 : Int32)), .val (.int (1 : Int32)), .val (.int (0 : Int32)), .val (.int (1 : Int32)), .unset, .unset, .unset, .unset, .unset, .unset, .unset]) at_235 rfl rfl ?_
                  refine own_iload C (pc' := 239) at_237 rfl rfl ?_
                  refine own_iconst C (pc' := 240) (v := (1 : Int32)) at_239 rfl (by decide) ?_
                  refine own_iaddV C (pc' := 241) (v := (2 : Int32)) at_240 rfl (by decide) ?_
                  refine own_istore C (pc' := 243) (Ls' := #[.val (.int p0), .val (.int p1), .val (.int p2), .val (.int p3), .val (.int p4), .val (.int x296), .val (.int (0 : Int32)), .val (.int (0 : Int32)), .val (.int x306), .val (.int x313), .val (.int x320), .val (.int x327), .val (.int x334), .val (.int x341), .val (.ref a346), .val (.int (0 : Int32)), .val (.int (0 : Int32)), .val (.int (2 : Int32)), .val (.int (1 : Int32)), .val (.int (0 : Int32)), .val (.int (1 : Int32)), .unset, .unset, .unset, .unset, .unset, .unset, .unset]) at_241 rfl rfl ?_
                  exact J392 (1 : Int32) (2 : Int32) (Or.inr ⟨(fun e => c488 (hq31.mp e).2), trivial, rfl, rfl⟩)
                · skip
                  refine own_iload C (pc' := 228) at_226 rfl rfl ?_
                  refine own_istore C (pc' := 230) (Ls' := #[.val (.int p0), .val (.int p1), .val (.int p2), .val (.int p3), .val (.int p4), .val (.int x296), .val (.int (0 : Int32)), .val (.int (0 : Int32)), .val (.int x306), .val (.int x313), .val (.int x320), .val (.int x327), .val (.int x334), .val (.int x341), .val (.ref a346), .val (.int (0 : Int32)), .val (.int (0 : Int32)), .val (.int (1 : Int32)), .val (.int (1 : Int32)), .val (.int (0 : Int32)), .val (.int (0 : Int32)), .unset, .unset, .unset, .unset, .unset, .unset, .unset]) at_228 rfl rfl ?_
                  refine own_goto C (pc' := 243) at_230 rfl ?_
                  exact J392 (0 : Int32) (1 : Int32) (absurd ((hq32.mpr ⟨c489, c490⟩).trans h21) (fun e => c488 (hq31.mp e).2))
            · skip
              refine own_iload C (pc' := 207) at_205 rfl rfl ?_
              refine own_istore C (pc' := 209) (Ls' := #[.val (.int p0), .val (.int p1), .val (.int p2), .val (.int p3), .val (.int p4), .val (.int x296), .val (.int (0 : Int32)), .val (.int (0 : Int32)), .val (.int x306), .val (.int x313), .val (.int x320), .val (.int x327), .val (.int x334), .val (.int x341), .val (.ref a346), .val (.int (0 : Int32)), .val (.int (0 : Int32)), .val (.int (1 : Int32)), .val (.int (1 : Int32)), .val (.int (0 : Int32)), .val (.int (0 : Int32)), .unset, .unset, .unset, .unset, .unset, .unset, .unset]) at_207 rfl rfl ?_
              refine own_goto C (pc' := 243) at_209 rfl ?_
              exact J392 (0 : Int32) (1 : Int32) (Or.inl ⟨(hq31.mpr ⟨c485, c488⟩), rfl, rfl⟩)
      · show own_Run p_ l e_ _ s_ m_ _ b_ mt_ c_ n0 _ h359 _ _ (mkF m_ 169 #[.val (.int p0), .val (.int p1), .val (.int p2), .val (.int p3), .val (.int p4), .val (.int x296), .val (.int (0 : Int32)), .val (.int (0 : Int32)), .val (.int x306), .val (.int x313), .val (.int x320), .val (.int x327), .val (.int x334), .val (.int x341), .val (.ref a346), .val (.int (0 : Int32)), .val (.int (0 : Int32)), .val (.int (1 : Int32)), .val (.int (0 : Int32)), .unset, .unset, .unset, .unset, .unset, .unset, .unset, .unset, .unset] [])
        refine own_iload C (pc' := 171) at_169 rfl rfl ?_
        refine own_i0_eq C (pc1 := 181) (pc2 := 174) at_171 rfl rfl (fun c491 => ?_) (fun c491 => absurd c491 (by decide))
        refine own_iload C (pc' := 183) at_181 rfl rfl ?_
        refine own_istore C (pc' := 185) (Ls' := #[.val (.int p0), .val (.int p1), .val (.int p2), .val (.int p3), .val (.int p4), .val (.int x296), .val (.int (0 : Int32)), .val (.int (0 : Int32)), .val (.int x306), .val (.int x313), .val (.int x320), .val (.int x327), .val (.int x334), .val (.int x341), .val (.ref a346), .val (.int (0 : Int32)), .val (.int (0 : Int32)), .val (.int (1 : Int32)), .val (.int (0 : Int32)), .val (.int (1 : Int32)), .unset, .unset, .unset, .unset, .unset, .unset, .unset, .unset]) at_183 rfl rfl ?_
        refine own_iload C (pc' := 187) at_185 rfl rfl ?_
        refine own_iconst C (pc' := 188) (v := (1 : Int32)) at_187 rfl (by decide) ?_
        refine own_iaddV C (pc' := 189) (v := (2 : Int32)) at_188 rfl (by decide) ?_
        refine own_istore C (pc' := 191) (Ls' := #[.val (.int p0), .val (.int p1), .val (.int p2), .val (.int p3), .val (.int p4), .val (.int x296), .val (.int (0 : Int32)), .val (.int (0 : Int32)), .val (.int x306), .val (.int x313), .val (.int x320), .val (.int x327), .val (.int x334), .val (.int x341), .val (.ref a346), .val (.int (0 : Int32)), .val (.int (0 : Int32)), .val (.int (2 : Int32)), .val (.int (0 : Int32)), .val (.int (1 : Int32)), .unset, .unset, .unset, .unset, .unset, .unset, .unset, .unset]) at_189 rfl rfl ?_
        refine own_join2 (fun (z492 : Int32) (y493 : Int32) => (I3 = I1 ∧ z492 = (0 : Int32) ∧ y493 = (2 : Int32)) ∨ (I3 ≠ I1 ∧ I3 = I2 ∧ z492 = (1 : Int32) ∧ y493 = (2 : Int32)) ∨ (I3 ≠ I1 ∧ I3 ≠ I2 ∧ z492 = (2 : Int32) ∧ y493 = (3 : Int32))) (fun (z492 : Int32) (y493 : Int32) => (mkF m_ 243 #[.val (.int p0), .val (.int p1), .val (.int p2), .val (.int p3), .val (.int p4), .val (.int x296), .val (.int (0 : Int32)), .val (.int (0 : Int32)), .val (.int x306), .val (.int x313), .val (.int x320), .val (.int x327), .val (.int x334), .val (.int x341), .val (.ref a346), .val (.int (0 : Int32)), .val (.int (0 : Int32)), .val (.int y493), .val (.int (0 : Int32)), .val (.int (1 : Int32)), .val (.int z492), .unset, .unset, .unset, .unset, .unset, .unset, .unset] [])) (fun z492 y493 hz494 => ?_) (fun J495 => ?_)
        · show own_Run p_ l e_ _ s_ m_ _ b_ mt_ c_ n0 _ h359 _ _ (mkF m_ 243 #[.val (.int p0), .val (.int p1), .val (.int p2), .val (.int p3), .val (.int p4), .val (.int x296), .val (.int (0 : Int32)), .val (.int (0 : Int32)), .val (.int x306), .val (.int x313), .val (.int x320), .val (.int x327), .val (.int x334), .val (.int x341), .val (.ref a346), .val (.int (0 : Int32)), .val (.int (0 : Int32)), .val (.int y493), .val (.int (0 : Int32)), .val (.int (1 : Int32)), .val (.int z492), .unset, .unset, .unset, .unset, .unset, .unset, .unset] [])
          rcases hz494 with ⟨h31, rfl, rfl⟩ | ⟨h31, h32, rfl, rfl⟩ | ⟨h31, h32, rfl, rfl⟩
          · show own_Run p_ l e_ _ s_ m_ _ b_ mt_ c_ n0 _ h359 _ _ (mkF m_ 243 #[.val (.int p0), .val (.int p1), .val (.int p2), .val (.int p3), .val (.int p4), .val (.int x296), .val (.int (0 : Int32)), .val (.int (0 : Int32)), .val (.int x306), .val (.int x313), .val (.int x320), .val (.int x327), .val (.int x334), .val (.int x341), .val (.ref a346), .val (.int (0 : Int32)), .val (.int (0 : Int32)), .val (.int (2 : Int32)), .val (.int (0 : Int32)), .val (.int (1 : Int32)), .val (.int (0 : Int32)), .unset, .unset, .unset, .unset, .unset, .unset, .unset] [])
            refine own_aload C (pc' := 245) at_243 rfl rfl rfl ?_
            refine own_iload C (pc' := 247) at_245 rfl rfl ?_
            refine own_iload C (pc' := 249) at_247 rfl rfl ?_
            refine own_callV C (pc' := 252) (y := (⟨"com/example/words_to_weights/wordstoweights/model/PairCounter", "addOrdered", "(II)I"⟩ : MethodName)) (a := a346) (argsL := [(.int x306), (.int x313)]) (rest := []) 0 F368 (hw _ (List.mem_of_getElem? (i := 29) rfl)) (hw _ (List.mem_of_getElem? (i := 30) rfl)) (hw _ (List.mem_of_getElem? (i := 32) rfl)) (hw _ (List.mem_of_getElem? (i := 31) rfl)) (hw _ (List.mem_of_getElem? (i := 33) rfl)) (hw _ (List.mem_of_getElem? (i := 9) rfl)) (by decide) (own_addN hw a346 M (fun _ => (-1 : Int32)) (0 : Int32) x306 x313 I1 x296 (0 : Int32) a361 a362 (1 : Int32) Z382 F368 ga348 ga364 ne379 F369 F370 F371 F372 F373 F374 hiI1 hbI1 (by simp [own_upd, h21, Ne.symm h21, h31]) (by decide)) (by decide) (by decide) (lenOf own_pd2 rfl) rfl (Nat.le_of_eq rfl) at_249 rfl rfl (by decide) (by decide) (fun v496 h497 hq498 => ?_)
            obtain ⟨rfl, K499, F500, F501, F502, F503, F504, F505, F506⟩ := hq498
            have Z508 : n0 ≤ h497.size := Nat.le_trans Z382 K499.1
            have F509 : Exa Z h497 a346 "com/example/words_to_weights/wordstoweights/model/PairCounter" := Exa.keep F368 K499
            have F510 : own_AI Z h497 a362 0 (fun _ => (-1 : Int32)) := own_A.keep F375 K499 (ninS (Ne.symm ne380) (ninS (Ne.symm F378) nin0))
            show own_Run p_ l e_ _ s_ m_ _ b_ mt_ c_ n0 _ h497 _ _ (mkF m_ 252 #[.val (.int p0), .val (.int p1), .val (.int p2), .val (.int p3), .val (.int p4), .val (.int x296), .val (.int (0 : Int32)), .val (.int (0 : Int32)), .val (.int x306), .val (.int x313), .val (.int x320), .val (.int x327), .val (.int x334), .val (.int x341), .val (.ref a346), .val (.int (0 : Int32)), .val (.int (0 : Int32)), .val (.int (2 : Int32)), .val (.int (0 : Int32)), .val (.int (1 : Int32)), .val (.int (0 : Int32)), .unset, .unset, .unset, .unset, .unset, .unset, .unset] [(.int (0 : Int32))])
            refine own_istore C (pc' := 254) (Ls' := #[.val (.int p0), .val (.int p1), .val (.int p2), .val (.int p3), .val (.int p4), .val (.int x296), .val (.int (0 : Int32)), .val (.int (0 : Int32)), .val (.int x306), .val (.int x313), .val (.int x320), .val (.int x327), .val (.int x334), .val (.int x341), .val (.ref a346), .val (.int (0 : Int32)), .val (.int (0 : Int32)), .val (.int (2 : Int32)), .val (.int (0 : Int32)), .val (.int (1 : Int32)), .val (.int (0 : Int32)), .val (.int (0 : Int32)), .unset, .unset, .unset, .unset, .unset, .unset]) at_252 rfl rfl ?_
            refine own_aload C (pc' := 256) at_254 rfl rfl rfl ?_
            refine own_callV C (pc' := 259) (y := (⟨"com/example/words_to_weights/wordstoweights/model/PairCounter", "slots", "()I"⟩ : MethodName)) (a := a346) (argsL := []) (rest := []) 0 F500 (hw _ (List.mem_of_getElem? (i := 40) rfl)) (hw _ (List.mem_of_getElem? (i := 41) rfl)) (hw _ (List.mem_of_getElem? (i := 43) rfl)) (hw _ (List.mem_of_getElem? (i := 42) rfl)) (hw _ (List.mem_of_getElem? (i := 44) rfl)) (hw _ (List.mem_of_getElem? (i := 9) rfl)) (by decide) (own_m8 hw a346 (1 : Int32) Z508 F505 ) (by decide) (by decide) (lenOf own_pd4 rfl) rfl (Nat.le_of_eq rfl) at_256 rfl rfl (by decide) (by decide) (fun v511 h512 hq513 => ?_)
            obtain ⟨rfl, rfl⟩ := hq513
            show own_Run p_ l e_ _ s_ m_ _ b_ mt_ c_ n0 _ h497 _ _ (mkF m_ 259 #[.val (.int p0), .val (.int p1), .val (.int p2), .val (.int p3), .val (.int p4), .val (.int x296), .val (.int (0 : Int32)), .val (.int (0 : Int32)), .val (.int x306), .val (.int x313), .val (.int x320), .val (.int x327), .val (.int x334), .val (.int x341), .val (.ref a346), .val (.int (0 : Int32)), .val (.int (0 : Int32)), .val (.int (2 : Int32)), .val (.int (0 : Int32)), .val (.int (1 : Int32)), .val (.int (0 : Int32)), .val (.int (0 : Int32)), .unset, .unset, .unset, .unset, .unset, .unset] [(.int (1 : Int32))])
            refine own_istore C (pc' := 261) (Ls' := #[.val (.int p0), .val (.int p1), .val (.int p2), .val (.int p3), .val (.int p4), .val (.int x296), .val (.int (0 : Int32)), .val (.int (0 : Int32)), .val (.int x306), .val (.int x313), .val (.int x320), .val (.int x327), .val (.int x334), .val (.int x341), .val (.ref a346), .val (.int (0 : Int32)), .val (.int (0 : Int32)), .val (.int (2 : Int32)), .val (.int (0 : Int32)), .val (.int (1 : Int32)), .val (.int (0 : Int32)), .val (.int (0 : Int32)), .val (.int (1 : Int32)), .unset, .unset, .unset, .unset, .unset]) at_259 rfl rfl ?_
            refine own_aload C (pc' := 263) at_261 rfl rfl rfl ?_
            refine own_iload C (pc' := 265) at_263 rfl rfl ?_
            refine own_iload C (pc' := 267) at_265 rfl rfl ?_
            refine own_callV C (pc' := 270) (y := (⟨"com/example/words_to_weights/wordstoweights/model/PairCounter", "addOrdered", "(II)I"⟩ : MethodName)) (a := a346) (argsL := [(.int x320), (.int x327)]) (rest := []) 0 F500 (hw _ (List.mem_of_getElem? (i := 29) rfl)) (hw _ (List.mem_of_getElem? (i := 30) rfl)) (hw _ (List.mem_of_getElem? (i := 32) rfl)) (hw _ (List.mem_of_getElem? (i := 31) rfl)) (hw _ (List.mem_of_getElem? (i := 33) rfl)) (hw _ (List.mem_of_getElem? (i := 9) rfl)) (by decide) (own_addN hw a346 M (own_upd (own_upd (fun _ => (-1 : Int32)) I1 (0 : Int32)) I1 (0 : Int32)) (1 : Int32) x320 x327 I2 x296 (0 : Int32) a361 a362 (2 : Int32) Z508 F500 ga348 ga364 ne379 F501 F502 F503 F504 F505 F506 hiI2 hbI2 (by simp [own_upd, h21, Ne.symm h21, h31]) (by decide)) (by decide) (by decide) (lenOf own_pd2 rfl) rfl (Nat.le_of_eq rfl) at_267 rfl rfl (by decide) (by decide) (fun v514 h515 hq516 => ?_)
            obtain ⟨rfl, K517, F518, F519, F520, F521, F522, F523, F524⟩ := hq516
            have Z526 : n0 ≤ h515.size := Nat.le_trans Z508 K517.1
            have F527 : own_AI Z h515 a362 0 (fun _ => (-1 : Int32)) := own_A.keep F510 K517 (ninS (Ne.symm ne380) (ninS (Ne.symm F378) nin0))
            have F528 : Exa Z h515 a346 "com/example/words_to_weights/wordstoweights/model/PairCounter" := Exa.keep F500 K517
            show own_Run p_ l e_ _ s_ m_ _ b_ mt_ c_ n0 _ h515 _ _ (mkF m_ 270 #[.val (.int p0), .val (.int p1), .val (.int p2), .val (.int p3), .val (.int p4), .val (.int x296), .val (.int (0 : Int32)), .val (.int (0 : Int32)), .val (.int x306), .val (.int x313), .val (.int x320), .val (.int x327), .val (.int x334), .val (.int x341), .val (.ref a346), .val (.int (0 : Int32)), .val (.int (0 : Int32)), .val (.int (2 : Int32)), .val (.int (0 : Int32)), .val (.int (1 : Int32)), .val (.int (0 : Int32)), .val (.int (0 : Int32)), .val (.int (1 : Int32)), .unset, .unset, .unset, .unset, .unset] [(.int (1 : Int32))])
            refine own_istore C (pc' := 272) (Ls' := #[.val (.int p0), .val (.int p1), .val (.int p2), .val (.int p3), .val (.int p4), .val (.int x296), .val (.int (0 : Int32)), .val (.int (0 : Int32)), .val (.int x306), .val (.int x313), .val (.int x320), .val (.int x327), .val (.int x334), .val (.int x341), .val (.ref a346), .val (.int (0 : Int32)), .val (.int (0 : Int32)), .val (.int (2 : Int32)), .val (.int (0 : Int32)), .val (.int (1 : Int32)), .val (.int (0 : Int32)), .val (.int (0 : Int32)), .val (.int (1 : Int32)), .val (.int (1 : Int32)), .unset, .unset, .unset, .unset]) at_270 rfl rfl ?_
            refine own_aload C (pc' := 274) at_272 rfl rfl rfl ?_
            refine own_iload C (pc' := 276) at_274 rfl rfl ?_
            refine own_iload C (pc' := 278) at_276 rfl rfl ?_
            refine own_callV C (pc' := 281) (y := (⟨"com/example/words_to_weights/wordstoweights/model/PairCounter", "addOrdered", "(II)I"⟩ : MethodName)) (a := a346) (argsL := [(.int x334), (.int x341)]) (rest := []) 0 F518 (hw _ (List.mem_of_getElem? (i := 29) rfl)) (hw _ (List.mem_of_getElem? (i := 30) rfl)) (hw _ (List.mem_of_getElem? (i := 32) rfl)) (hw _ (List.mem_of_getElem? (i := 31) rfl)) (hw _ (List.mem_of_getElem? (i := 33) rfl)) (hw _ (List.mem_of_getElem? (i := 9) rfl)) (by decide) (own_addO hw a346 M (own_upd (own_upd (own_upd (own_upd (fun _ => (-1 : Int32)) I1 (0 : Int32)) I1 (0 : Int32)) I2 (1 : Int32)) I2 (1 : Int32)) x334 x341 I3 x296 a361 (0 : Int32) Z526 F518 F519 F521 F524 hiI3 hbI3 (by simp [own_upd, h21, Ne.symm h21, h31]) (by decide)) (by decide) (by decide) (lenOf own_pd2 rfl) rfl (Nat.le_of_eq rfl) at_278 rfl rfl (by decide) (by decide) (fun v529 h530 hq531 => ?_)
            obtain ⟨rfl, rfl⟩ := hq531
            show own_Run p_ l e_ _ s_ m_ _ b_ mt_ c_ n0 _ h515 _ _ (mkF m_ 281 #[.val (.int p0), .val (.int p1), .val (.int p2), .val (.int p3), .val (.int p4), .val (.int x296), .val (.int (0 : Int32)), .val (.int (0 : Int32)), .val (.int x306), .val (.int x313), .val (.int x320), .val (.int x327), .val (.int x334), .val (.int x341), .val (.ref a346), .val (.int (0 : Int32)), .val (.int (0 : Int32)), .val (.int (2 : Int32)), .val (.int (0 : Int32)), .val (.int (1 : Int32)), .val (.int (0 : Int32)), .val (.int (0 : Int32)), .val (.int (1 : Int32)), .val (.int (1 : Int32)), .unset, .unset, .unset, .unset] [(.int (0 : Int32))])
            refine own_istore C (pc' := 283) (Ls' := #[.val (.int p0), .val (.int p1), .val (.int p2), .val (.int p3), .val (.int p4), .val (.int x296), .val (.int (0 : Int32)), .val (.int (0 : Int32)), .val (.int x306), .val (.int x313), .val (.int x320), .val (.int x327), .val (.int x334), .val (.int x341), .val (.ref a346), .val (.int (0 : Int32)), .val (.int (0 : Int32)), .val (.int (2 : Int32)), .val (.int (0 : Int32)), .val (.int (1 : Int32)), .val (.int (0 : Int32)), .val (.int (0 : Int32)), .val (.int (1 : Int32)), .val (.int (1 : Int32)), .val (.int (0 : Int32)), .unset, .unset, .unset]) at_281 rfl rfl ?_
            refine own_aload C (pc' := 285) at_283 rfl rfl rfl ?_
            refine own_callV C (pc' := 288) (y := (⟨"com/example/words_to_weights/wordstoweights/model/PairCounter", "slots", "()I"⟩ : MethodName)) (a := a346) (argsL := []) (rest := []) 0 F518 (hw _ (List.mem_of_getElem? (i := 40) rfl)) (hw _ (List.mem_of_getElem? (i := 41) rfl)) (hw _ (List.mem_of_getElem? (i := 43) rfl)) (hw _ (List.mem_of_getElem? (i := 42) rfl)) (hw _ (List.mem_of_getElem? (i := 44) rfl)) (hw _ (List.mem_of_getElem? (i := 9) rfl)) (by decide) (own_m8 hw a346 (2 : Int32) Z526 F523 ) (by decide) (by decide) (lenOf own_pd4 rfl) rfl (Nat.le_of_eq rfl) at_285 rfl rfl (by decide) (by decide) (fun v532 h533 hq534 => ?_)
            obtain ⟨rfl, rfl⟩ := hq534
            show own_Run p_ l e_ _ s_ m_ _ b_ mt_ c_ n0 _ h515 _ _ (mkF m_ 288 #[.val (.int p0), .val (.int p1), .val (.int p2), .val (.int p3), .val (.int p4), .val (.int x296), .val (.int (0 : Int32)), .val (.int (0 : Int32)), .val (.int x306), .val (.int x313), .val (.int x320), .val (.int x327), .val (.int x334), .val (.int x341), .val (.ref a346), .val (.int (0 : Int32)), .val (.int (0 : Int32)), .val (.int (2 : Int32)), .val (.int (0 : Int32)), .val (.int (1 : Int32)), .val (.int (0 : Int32)), .val (.int (0 : Int32)), .val (.int (1 : Int32)), .val (.int (1 : Int32)), .val (.int (0 : Int32)), .unset, .unset, .unset] [(.int (2 : Int32))])
            refine own_istore C (pc' := 290) (Ls' := #[.val (.int p0), .val (.int p1), .val (.int p2), .val (.int p3), .val (.int p4), .val (.int x296), .val (.int (0 : Int32)), .val (.int (0 : Int32)), .val (.int x306), .val (.int x313), .val (.int x320), .val (.int x327), .val (.int x334), .val (.int x341), .val (.ref a346), .val (.int (0 : Int32)), .val (.int (0 : Int32)), .val (.int (2 : Int32)), .val (.int (0 : Int32)), .val (.int (1 : Int32)), .val (.int (0 : Int32)), .val (.int (0 : Int32)), .val (.int (1 : Int32)), .val (.int (1 : Int32)), .val (.int (0 : Int32)), .val (.int (2 : Int32)), .unset, .unset]) at_288 rfl rfl ?_
            refine own_aload C (pc' := 292) at_290 rfl rfl rfl ?_
            refine own_iload C (pc' := 294) at_292 rfl rfl ?_
            refine own_iload C (pc' := 296) at_294 rfl rfl ?_
            refine own_callV C (pc' := 299) (y := (⟨"com/example/words_to_weights/wordstoweights/model/PairCounter", "addOrdered", "(II)I"⟩ : MethodName)) (a := a346) (argsL := [(.int x306), (.int x313)]) (rest := []) 0 F518 (hw _ (List.mem_of_getElem? (i := 29) rfl)) (hw _ (List.mem_of_getElem? (i := 30) rfl)) (hw _ (List.mem_of_getElem? (i := 32) rfl)) (hw _ (List.mem_of_getElem? (i := 31) rfl)) (hw _ (List.mem_of_getElem? (i := 33) rfl)) (hw _ (List.mem_of_getElem? (i := 9) rfl)) (by decide) (own_addO hw a346 M (own_upd (own_upd (own_upd (own_upd (fun _ => (-1 : Int32)) I1 (0 : Int32)) I1 (0 : Int32)) I2 (1 : Int32)) I2 (1 : Int32)) x306 x313 I1 x296 a361 (0 : Int32) Z526 F518 F519 F521 F524 hiI1 hbI1 (by simp [own_upd, h21, Ne.symm h21, h31]) (by decide)) (by decide) (by decide) (lenOf own_pd2 rfl) rfl (Nat.le_of_eq rfl) at_296 rfl rfl (by decide) (by decide) (fun v535 h536 hq537 => ?_)
            obtain ⟨rfl, rfl⟩ := hq537
            show own_Run p_ l e_ _ s_ m_ _ b_ mt_ c_ n0 _ h515 _ _ (mkF m_ 299 #[.val (.int p0), .val (.int p1), .val (.int p2), .val (.int p3), .val (.int p4), .val (.int x296), .val (.int (0 : Int32)), .val (.int (0 : Int32)), .val (.int x306), .val (.int x313), .val (.int x320), .val (.int x327), .val (.int x334), .val (.int x341), .val (.ref a346), .val (.int (0 : Int32)), .val (.int (0 : Int32)), .val (.int (2 : Int32)), .val (.int (0 : Int32)), .val (.int (1 : Int32)), .val (.int (0 : Int32)), .val (.int (0 : Int32)), .val (.int (1 : Int32)), .val (.int (1 : Int32)), .val (.int (0 : Int32)), .val (.int (2 : Int32)), .unset, .unset] [(.int (0 : Int32))])
            refine own_istore C (pc' := 301) (Ls' := #[.val (.int p0), .val (.int p1), .val (.int p2), .val (.int p3), .val (.int p4), .val (.int x296), .val (.int (0 : Int32)), .val (.int (0 : Int32)), .val (.int x306), .val (.int x313), .val (.int x320), .val (.int x327), .val (.int x334), .val (.int x341), .val (.ref a346), .val (.int (0 : Int32)), .val (.int (0 : Int32)), .val (.int (2 : Int32)), .val (.int (0 : Int32)), .val (.int (1 : Int32)), .val (.int (0 : Int32)), .val (.int (0 : Int32)), .val (.int (1 : Int32)), .val (.int (1 : Int32)), .val (.int (0 : Int32)), .val (.int (2 : Int32)), .val (.int (0 : Int32)), .unset]) at_299 rfl rfl ?_
            refine own_aload C (pc' := 303) at_301 rfl rfl rfl ?_
            refine own_callV C (pc' := 306) (y := (⟨"com/example/words_to_weights/wordstoweights/model/PairCounter", "slots", "()I"⟩ : MethodName)) (a := a346) (argsL := []) (rest := []) 0 F518 (hw _ (List.mem_of_getElem? (i := 40) rfl)) (hw _ (List.mem_of_getElem? (i := 41) rfl)) (hw _ (List.mem_of_getElem? (i := 43) rfl)) (hw _ (List.mem_of_getElem? (i := 42) rfl)) (hw _ (List.mem_of_getElem? (i := 44) rfl)) (hw _ (List.mem_of_getElem? (i := 9) rfl)) (by decide) (own_m8 hw a346 (2 : Int32) Z526 F523 ) (by decide) (by decide) (lenOf own_pd4 rfl) rfl (Nat.le_of_eq rfl) at_303 rfl rfl (by decide) (by decide) (fun v538 h539 hq540 => ?_)
            obtain ⟨rfl, rfl⟩ := hq540
            show own_Run p_ l e_ _ s_ m_ _ b_ mt_ c_ n0 _ h515 _ _ (mkF m_ 306 #[.val (.int p0), .val (.int p1), .val (.int p2), .val (.int p3), .val (.int p4), .val (.int x296), .val (.int (0 : Int32)), .val (.int (0 : Int32)), .val (.int x306), .val (.int x313), .val (.int x320), .val (.int x327), .val (.int x334), .val (.int x341), .val (.ref a346), .val (.int (0 : Int32)), .val (.int (0 : Int32)), .val (.int (2 : Int32)), .val (.int (0 : Int32)), .val (.int (1 : Int32)), .val (.int (0 : Int32)), .val (.int (0 : Int32)), .val (.int (1 : Int32)), .val (.int (1 : Int32)), .val (.int (0 : Int32)), .val (.int (2 : Int32)), .val (.int (0 : Int32)), .unset] [(.int (2 : Int32))])
            refine own_istore C (pc' := 308) (Ls' := #[.val (.int p0), .val (.int p1), .val (.int p2), .val (.int p3), .val (.int p4), .val (.int x296), .val (.int (0 : Int32)), .val (.int (0 : Int32)), .val (.int x306), .val (.int x313), .val (.int x320), .val (.int x327), .val (.int x334), .val (.int x341), .val (.ref a346), .val (.int (0 : Int32)), .val (.int (0 : Int32)), .val (.int (2 : Int32)), .val (.int (0 : Int32)), .val (.int (1 : Int32)), .val (.int (0 : Int32)), .val (.int (0 : Int32)), .val (.int (1 : Int32)), .val (.int (1 : Int32)), .val (.int (0 : Int32)), .val (.int (2 : Int32)), .val (.int (0 : Int32)), .val (.int (2 : Int32))]) at_306 rfl rfl ?_
            refine own_iload C (pc' := 310) at_308 rfl rfl ?_
            refine own_iload C (pc' := 312) at_310 rfl rfl ?_
            refine own_ii_ne C (pc1 := 363) (pc2 := 315) at_312 rfl rfl (fun c541 => absurd c541 (by decide)) (fun c541 => ?_)
            refine own_iload C (pc' := 317) at_315 rfl rfl ?_
            refine own_iload C (pc' := 319) at_317 rfl rfl ?_
            refine own_iconst C (pc' := 320) (v := (1 : Int32)) at_319 rfl (by decide) ?_
            refine own_iaddV C (pc' := 321) (v := (1 : Int32)) at_320 rfl (by decide) ?_
            refine own_ii_ne C (pc1 := 363) (pc2 := 324) at_321 rfl rfl (fun c542 => absurd c542 (by decide)) (fun c542 => ?_)
            refine own_iload C (pc' := 326) at_324 rfl rfl ?_
            refine own_iload C (pc' := 328) at_326 rfl rfl ?_
            refine own_ii_ne C (pc1 := 363) (pc2 := 331) at_328 rfl rfl (fun c543 => absurd c543 (by decide)) (fun c543 => ?_)
            refine own_iload C (pc' := 333) at_331 rfl rfl ?_
            refine own_iload C (pc' := 335) at_333 rfl rfl ?_
            refine own_ii_ne C (pc1 := 363) (pc2 := 338) at_335 rfl rfl (fun c544 => absurd c544 (by decide)) (fun c544 => ?_)
            refine own_iload C (pc' := 340) at_338 rfl rfl ?_
            refine own_iload C (pc' := 342) at_340 rfl rfl ?_
            refine own_ii_ne C (pc1 := 363) (pc2 := 345) at_342 rfl rfl (fun c545 => absurd c545 (by decide)) (fun c545 => ?_)
            refine own_iload C (pc' := 347) at_345 rfl rfl ?_
            refine own_iload C (pc' := 349) at_347 rfl rfl ?_
            refine own_ii_ne C (pc1 := 363) (pc2 := 352) at_349 rfl rfl (fun c546 => absurd c546 (by decide)) (fun c546 => ?_)
            refine own_iload C (pc' := 354) at_352 rfl rfl ?_
            refine own_iload C (pc' := 356) at_354 rfl rfl ?_
            refine own_ii_ne C (pc1 := 363) (pc2 := 359) at_356 rfl rfl (fun c547 => absurd c547 (by decide)) (fun c547 => ?_)
            refine own_iconst C (pc' := 360) (v := (1 : Int32)) at_359 rfl (by decide) ?_
            refine own_goto C (pc' := 364) at_360 rfl ?_
            exact own_ret C (t := .boolean) rfl rfl (Or.inl ⟨rfl, by simp, _, rfl⟩) at_364 (by decide) (by decide) (rfl)
          · show own_Run p_ l e_ _ s_ m_ _ b_ mt_ c_ n0 _ h359 _ _ (mkF m_ 243 #[.val (.int p0), .val (.int p1), .val (.int p2), .val (.int p3), .val (.int p4), .val (.int x296), .val (.int (0 : Int32)), .val (.int (0 : Int32)), .val (.int x306), .val (.int x313), .val (.int x320), .val (.int x327), .val (.int x334), .val (.int x341), .val (.ref a346), .val (.int (0 : Int32)), .val (.int (0 : Int32)), .val (.int (2 : Int32)), .val (.int (0 : Int32)), .val (.int (1 : Int32)), .val (.int (1 : Int32)), .unset, .unset, .unset, .unset, .unset, .unset, .unset] [])
            refine own_aload C (pc' := 245) at_243 rfl rfl rfl ?_
            refine own_iload C (pc' := 247) at_245 rfl rfl ?_
            refine own_iload C (pc' := 249) at_247 rfl rfl ?_
            refine own_callV C (pc' := 252) (y := (⟨"com/example/words_to_weights/wordstoweights/model/PairCounter", "addOrdered", "(II)I"⟩ : MethodName)) (a := a346) (argsL := [(.int x306), (.int x313)]) (rest := []) 0 F368 (hw _ (List.mem_of_getElem? (i := 29) rfl)) (hw _ (List.mem_of_getElem? (i := 30) rfl)) (hw _ (List.mem_of_getElem? (i := 32) rfl)) (hw _ (List.mem_of_getElem? (i := 31) rfl)) (hw _ (List.mem_of_getElem? (i := 33) rfl)) (hw _ (List.mem_of_getElem? (i := 9) rfl)) (by decide) (own_addN hw a346 M (fun _ => (-1 : Int32)) (0 : Int32) x306 x313 I1 x296 (0 : Int32) a361 a362 (1 : Int32) Z382 F368 ga348 ga364 ne379 F369 F370 F371 F372 F373 F374 hiI1 hbI1 (by simp [own_upd, h21, Ne.symm h21, h32]) (by decide)) (by decide) (by decide) (lenOf own_pd2 rfl) rfl (Nat.le_of_eq rfl) at_249 rfl rfl (by decide) (by decide) (fun v548 h549 hq550 => ?_)
            obtain ⟨rfl, K551, F552, F553, F554, F555, F556, F557, F558⟩ := hq550
            have Z560 : n0 ≤ h549.size := Nat.le_trans Z382 K551.1
            have F561 : Exa Z h549 a346 "com/example/words_to_weights/wordstoweights/model/PairCounter" := Exa.keep F368 K551
            have F562 : own_AI Z h549 a362 0 (fun _ => (-1 : Int32)) := own_A.keep F375 K551 (ninS (Ne.symm ne380) (ninS (Ne.symm F378) nin0))
            show own_Run p_ l e_ _ s_ m_ _ b_ mt_ c_ n0 _ h549 _ _ (mkF m_ 252 #[.val (.int p0), .val (.int p1), .val (.int p2), .val (.int p3), .val (.int p4), .val (.int x296), .val (.int (0 : Int32)), .val (.int (0 : Int32)), .val (.int x306), .val (.int x313), .val (.int x320), .val (.int x327), .val (.int x334), .val (.int x341), .val (.ref a346), .val (.int (0 : Int32)), .val (.int (0 : Int32)), .val (.int (2 : Int32)), .val (.int (0 : Int32)), .val (.int (1 : Int32)), .val (.int (1 : Int32)), .unset, .unset, .unset, .unset, .unset, .unset, .unset] [(.int (0 : Int32))])
            refine own_istore C (pc' := 254) (Ls' := #[.val (.int p0), .val (.int p1), .val (.int p2), .val (.int p3), .val (.int p4), .val (.int x296), .val (.int (0 : Int32)), .val (.int (0 : Int32)), .val (.int x306), .val (.int x313), .val (.int x320), .val (.int x327), .val (.int x334), .val (.int x341), .val (.ref a346), .val (.int (0 : Int32)), .val (.int (0 : Int32)), .val (.int (2 : Int32)), .val (.int (0 : Int32)), .val (.int (1 : Int32)), .val (.int (1 : Int32)), .val (.int (0 : Int32)), .unset, .unset, .unset, .unset, .unset, .unset]) at_252 rfl rfl ?_
            refine own_aload C (pc' := 256) at_254 rfl rfl rfl ?_
            refine own_callV C (pc' := 259) (y := (⟨"com/example/words_to_weights/wordstoweights/model/PairCounter", "slots", "()I"⟩ : MethodName)) (a := a346) (argsL := []) (rest := []) 0 F552 (hw _ (List.mem_of_getElem? (i := 40) rfl)) (hw _ (List.mem_of_getElem? (i := 41) rfl)) (hw _ (List.mem_of_getElem? (i := 43) rfl)) (hw _ (List.mem_of_getElem? (i := 42) rfl)) (hw _ (List.mem_of_getElem? (i := 44) rfl)) (hw _ (List.mem_of_getElem? (i := 9) rfl)) (by decide) (own_m8 hw a346 (1 : Int32) Z560 F557 ) (by decide) (by decide) (lenOf own_pd4 rfl) rfl (Nat.le_of_eq rfl) at_256 rfl rfl (by decide) (by decide) (fun v563 h564 hq565 => ?_)
            obtain ⟨rfl, rfl⟩ := hq565
            show own_Run p_ l e_ _ s_ m_ _ b_ mt_ c_ n0 _ h549 _ _ (mkF m_ 259 #[.val (.int p0), .val (.int p1), .val (.int p2), .val (.int p3), .val (.int p4), .val (.int x296), .val (.int (0 : Int32)), .val (.int (0 : Int32)), .val (.int x306), .val (.int x313), .val (.int x320), .val (.int x327), .val (.int x334), .val (.int x341), .val (.ref a346), .val (.int (0 : Int32)), .val (.int (0 : Int32)), .val (.int (2 : Int32)), .val (.int (0 : Int32)), .val (.int (1 : Int32)), .val (.int (1 : Int32)), .val (.int (0 : Int32)), .unset, .unset, .unset, .unset, .unset, .unset] [(.int (1 : Int32))])
            refine own_istore C (pc' := 261) (Ls' := #[.val (.int p0), .val (.int p1), .val (.int p2), .val (.int p3), .val (.int p4), .val (.int x296), .val (.int (0 : Int32)), .val (.int (0 : Int32)), .val (.int x306), .val (.int x313), .val (.int x320), .val (.int x327), .val (.int x334), .val (.int x341), .val (.ref a346), .val (.int (0 : Int32)), .val (.int (0 : Int32)), .val (.int (2 : Int32)), .val (.int (0 : Int32)), .val (.int (1 : Int32)), .val (.int (1 : Int32)), .val (.int (0 : Int32)), .val (.int (1 : Int32)), .unset, .unset, .unset, .unset, .unset]) at_259 rfl rfl ?_
            refine own_aload C (pc' := 263) at_261 rfl rfl rfl ?_
            refine own_iload C (pc' := 265) at_263 rfl rfl ?_
            refine own_iload C (pc' := 267) at_265 rfl rfl ?_
            refine own_callV C (pc' := 270) (y := (⟨"com/example/words_to_weights/wordstoweights/model/PairCounter", "addOrdered", "(II)I"⟩ : MethodName)) (a := a346) (argsL := [(.int x320), (.int x327)]) (rest := []) 0 F552 (hw _ (List.mem_of_getElem? (i := 29) rfl)) (hw _ (List.mem_of_getElem? (i := 30) rfl)) (hw _ (List.mem_of_getElem? (i := 32) rfl)) (hw _ (List.mem_of_getElem? (i := 31) rfl)) (hw _ (List.mem_of_getElem? (i := 33) rfl)) (hw _ (List.mem_of_getElem? (i := 9) rfl)) (by decide) (own_addN hw a346 M (own_upd (own_upd (fun _ => (-1 : Int32)) I1 (0 : Int32)) I1 (0 : Int32)) (1 : Int32) x320 x327 I2 x296 (0 : Int32) a361 a362 (2 : Int32) Z560 F552 ga348 ga364 ne379 F553 F554 F555 F556 F557 F558 hiI2 hbI2 (by simp [own_upd, h21, Ne.symm h21, h32]) (by decide)) (by decide) (by decide) (lenOf own_pd2 rfl) rfl (Nat.le_of_eq rfl) at_267 rfl rfl (by decide) (by decide) (fun v566 h567 hq568 => ?_)
            obtain ⟨rfl, K569, F570, F571, F572, F573, F574, F575, F576⟩ := hq568
            have Z578 : n0 ≤ h567.size := Nat.le_trans Z560 K569.1
            have F579 : own_AI Z h567 a362 0 (fun _ => (-1 : Int32)) := own_A.keep F562 K569 (ninS (Ne.symm ne380) (ninS (Ne.symm F378) nin0))
            have F580 : Exa Z h567 a346 "com/example/words_to_weights/wordstoweights/model/PairCounter" := Exa.keep F552 K569
            show own_Run p_ l e_ _ s_ m_ _ b_ mt_ c_ n0 _ h567 _ _ (mkF m_ 270 #[.val (.int p0), .val (.int p1), .val (.int p2), .val (.int p3), .val (.int p4), .val (.int x296), .val (.int (0 : Int32)), .val (.int (0 : Int32)), .val (.int x306), .val (.int x313), .val (.int x320), .val (.int x327), .val (.int x334), .val (.int x341), .val (.ref a346), .val (.int (0 : Int32)), .val (.int (0 : Int32)), .val (.int (2 : Int32)), .val (.int (0 : Int32)), .val (.int (1 : Int32)), .val (.int (1 : Int32)), .val (.int (0 : Int32)), .val (.int (1 : Int32)), .unset, .unset, .unset, .unset, .unset] [(.int (1 : Int32))])
            refine own_istore C (pc' := 272) (Ls' := #[.val (.int p0), .val (.int p1), .val (.int p2), .val (.int p3), .val (.int p4), .val (.int x296), .val (.int (0 : Int32)), .val (.int (0 : Int32)), .val (.int x306), .val (.int x313), .val (.int x320), .val (.int x327), .val (.int x334), .val (.int x341), .val (.ref a346), .val (.int (0 : Int32)), .val (.int (0 : Int32)), .val (.int (2 : Int32)), .val (.int (0 : Int32)), .val (.int (1 : Int32)), .val (.int (1 : Int32)), .val (.int (0 : Int32)), .val (.int (1 : Int32)), .val (.int (1 : Int32)), .unset, .unset, .unset, .unset]) at_270 rfl rfl ?_
            refine own_aload C (pc' := 274) at_272 rfl rfl rfl ?_
            refine own_iload C (pc' := 276) at_274 rfl rfl ?_
            refine own_iload C (pc' := 278) at_276 rfl rfl ?_
            refine own_callV C (pc' := 281) (y := (⟨"com/example/words_to_weights/wordstoweights/model/PairCounter", "addOrdered", "(II)I"⟩ : MethodName)) (a := a346) (argsL := [(.int x334), (.int x341)]) (rest := []) 0 F570 (hw _ (List.mem_of_getElem? (i := 29) rfl)) (hw _ (List.mem_of_getElem? (i := 30) rfl)) (hw _ (List.mem_of_getElem? (i := 32) rfl)) (hw _ (List.mem_of_getElem? (i := 31) rfl)) (hw _ (List.mem_of_getElem? (i := 33) rfl)) (hw _ (List.mem_of_getElem? (i := 9) rfl)) (by decide) (own_addO hw a346 M (own_upd (own_upd (own_upd (own_upd (fun _ => (-1 : Int32)) I1 (0 : Int32)) I1 (0 : Int32)) I2 (1 : Int32)) I2 (1 : Int32)) x334 x341 I3 x296 a361 (1 : Int32) Z578 F570 F571 F573 F576 hiI3 hbI3 (by simp [own_upd, h21, Ne.symm h21, h32]) (by decide)) (by decide) (by decide) (lenOf own_pd2 rfl) rfl (Nat.le_of_eq rfl) at_278 rfl rfl (by decide) (by decide) (fun v581 h582 hq583 => ?_)
            obtain ⟨rfl, rfl⟩ := hq583
            show own_Run p_ l e_ _ s_ m_ _ b_ mt_ c_ n0 _ h567 _ _ (mkF m_ 281 #[.val (.int p0), .val (.int p1), .val (.int p2), .val (.int p3), .val (.int p4), .val (.int x296), .val (.int (0 : Int32)), .val (.int (0 : Int32)), .val (.int x306), .val (.int x313), .val (.int x320), .val (.int x327), .val (.int x334), .val (.int x341), .val (.ref a346), .val (.int (0 : Int32)), .val (.int (0 : Int32)), .val (.int (2 : Int32)), .val (.int (0 : Int32)), .val (.int (1 : Int32)), .val (.int (1 : Int32)), .val (.int (0 : Int32)), .val (.int (1 : Int32)), .val (.int (1 : Int32)), .unset, .unset, .unset, .unset] [(.int (1 : Int32))])
            refine own_istore C (pc' := 283) (Ls' := #[.val (.int p0), .val (.int p1), .val (.int p2), .val (.int p3), .val (.int p4), .val (.int x296), .val (.int (0 : Int32)), .val (.int (0 : Int32)), .val (.int x306), .val (.int x313), .val (.int x320), .val (.int x327), .val (.int x334), .val (.int x341), .val (.ref a346), .val (.int (0 : Int32)), .val (.int (0 : Int32)), .val (.int (2 : Int32)), .val (.int (0 : Int32)), .val (.int (1 : Int32)), .val (.int (1 : Int32)), .val (.int (0 : Int32)), .val (.int (1 : Int32)), .val (.int (1 : Int32)), .val (.int (1 : Int32)), .unset, .unset, .unset]) at_281 rfl rfl ?_
            refine own_aload C (pc' := 285) at_283 rfl rfl rfl ?_
            refine own_callV C (pc' := 288) (y := (⟨"com/example/words_to_weights/wordstoweights/model/PairCounter", "slots", "()I"⟩ : MethodName)) (a := a346) (argsL := []) (rest := []) 0 F570 (hw _ (List.mem_of_getElem? (i := 40) rfl)) (hw _ (List.mem_of_getElem? (i := 41) rfl)) (hw _ (List.mem_of_getElem? (i := 43) rfl)) (hw _ (List.mem_of_getElem? (i := 42) rfl)) (hw _ (List.mem_of_getElem? (i := 44) rfl)) (hw _ (List.mem_of_getElem? (i := 9) rfl)) (by decide) (own_m8 hw a346 (2 : Int32) Z578 F575 ) (by decide) (by decide) (lenOf own_pd4 rfl) rfl (Nat.le_of_eq rfl) at_285 rfl rfl (by decide) (by decide) (fun v584 h585 hq586 => ?_)
            obtain ⟨rfl, rfl⟩ := hq586
            show own_Run p_ l e_ _ s_ m_ _ b_ mt_ c_ n0 _ h567 _ _ (mkF m_ 288 #[.val (.int p0), .val (.int p1), .val (.int p2), .val (.int p3), .val (.int p4), .val (.int x296), .val (.int (0 : Int32)), .val (.int (0 : Int32)), .val (.int x306), .val (.int x313), .val (.int x320), .val (.int x327), .val (.int x334), .val (.int x341), .val (.ref a346), .val (.int (0 : Int32)), .val (.int (0 : Int32)), .val (.int (2 : Int32)), .val (.int (0 : Int32)), .val (.int (1 : Int32)), .val (.int (1 : Int32)), .val (.int (0 : Int32)), .val (.int (1 : Int32)), .val (.int (1 : Int32)), .val (.int (1 : Int32)), .unset, .unset, .unset] [(.int (2 : Int32))])
            refine own_istore C (pc' := 290) (Ls' := #[.val (.int p0), .val (.int p1), .val (.int p2), .val (.int p3), .val (.int p4), .val (.int x296), .val (.int (0 : Int32)), .val (.int (0 : Int32)), .val (.int x306), .val (.int x313), .val (.int x320), .val (.int x327), .val (.int x334), .val (.int x341), .val (.ref a346), .val (.int (0 : Int32)), .val (.int (0 : Int32)), .val (.int (2 : Int32)), .val (.int (0 : Int32)), .val (.int (1 : Int32)), .val (.int (1 : Int32)), .val (.int (0 : Int32)), .val (.int (1 : Int32)), .val (.int (1 : Int32)), .val (.int (1 : Int32)), .val (.int (2 : Int32)), .unset, .unset]) at_288 rfl rfl ?_
            refine own_aload C (pc' := 292) at_290 rfl rfl rfl ?_
            refine own_iload C (pc' := 294) at_292 rfl rfl ?_
            refine own_iload C (pc' := 296) at_294 rfl rfl ?_
            refine own_callV C (pc' := 299) (y := (⟨"com/example/words_to_weights/wordstoweights/model/PairCounter", "addOrdered", "(II)I"⟩ : MethodName)) (a := a346) (argsL := [(.int x306), (.int x313)]) (rest := []) 0 F570 (hw _ (List.mem_of_getElem? (i := 29) rfl)) (hw _ (List.mem_of_getElem? (i := 30) rfl)) (hw _ (List.mem_of_getElem? (i := 32) rfl)) (hw _ (List.mem_of_getElem? (i := 31) rfl)) (hw _ (List.mem_of_getElem? (i := 33) rfl)) (hw _ (List.mem_of_getElem? (i := 9) rfl)) (by decide) (own_addO hw a346 M (own_upd (own_upd (own_upd (own_upd (fun _ => (-1 : Int32)) I1 (0 : Int32)) I1 (0 : Int32)) I2 (1 : Int32)) I2 (1 : Int32)) x306 x313 I1 x296 a361 (0 : Int32) Z578 F570 F571 F573 F576 hiI1 hbI1 (by simp [own_upd, h21, Ne.symm h21, h32]) (by decide)) (by decide) (by decide) (lenOf own_pd2 rfl) rfl (Nat.le_of_eq rfl) at_296 rfl rfl (by decide) (by decide) (fun v587 h588 hq589 => ?_)
            obtain ⟨rfl, rfl⟩ := hq589
            show own_Run p_ l e_ _ s_ m_ _ b_ mt_ c_ n0 _ h567 _ _ (mkF m_ 299 #[.val (.int p0), .val (.int p1), .val (.int p2), .val (.int p3), .val (.int p4), .val (.int x296), .val (.int (0 : Int32)), .val (.int (0 : Int32)), .val (.int x306), .val (.int x313), .val (.int x320), .val (.int x327), .val (.int x334), .val (.int x341), .val (.ref a346), .val (.int (0 : Int32)), .val (.int (0 : Int32)), .val (.int (2 : Int32)), .val (.int (0 : Int32)), .val (.int (1 : Int32)), .val (.int (1 : Int32)), .val (.int (0 : Int32)), .val (.int (1 : Int32)), .val (.int (1 : Int32)), .val (.int (1 : Int32)), .val (.int (2 : Int32)), .unset, .unset] [(.int (0 : Int32))])
            refine own_istore C (pc' := 301) (Ls' := #[.val (.int p0), .val (.int p1), .val (.int p2), .val (.int p3), .val (.int p4), .val (.int x296), .val (.int (0 : Int32)), .val (.int (0 : Int32)), .val (.int x306), .val (.int x313), .val (.int x320), .val (.int x327), .val (.int x334), .val (.int x341), .val (.ref a346), .val (.int (0 : Int32)), .val (.int (0 : Int32)), .val (.int (2 : Int32)), .val (.int (0 : Int32)), .val (.int (1 : Int32)), .val (.int (1 : Int32)), .val (.int (0 : Int32)), .val (.int (1 : Int32)), .val (.int (1 : Int32)), .val (.int (1 : Int32)), .val (.int (2 : Int32)), .val (.int (0 : Int32)), .unset]) at_299 rfl rfl ?_
            refine own_aload C (pc' := 303) at_301 rfl rfl rfl ?_
            refine own_callV C (pc' := 306) (y := (⟨"com/example/words_to_weights/wordstoweights/model/PairCounter", "slots", "()I"⟩ : MethodName)) (a := a346) (argsL := []) (rest := []) 0 F570 (hw _ (List.mem_of_getElem? (i := 40) rfl)) (hw _ (List.mem_of_getElem? (i := 41) rfl)) (hw _ (List.mem_of_getElem? (i := 43) rfl)) (hw _ (List.mem_of_getElem? (i := 42) rfl)) (hw _ (List.mem_of_getElem? (i := 44) rfl)) (hw _ (List.mem_of_getElem? (i := 9) rfl)) (by decide) (own_m8 hw a346 (2 : Int32) Z578 F575 ) (by decide) (by decide) (lenOf own_pd4 rfl) rfl (Nat.le_of_eq rfl) at_303 rfl rfl (by decide) (by decide) (fun v590 h591 hq592 => ?_)
            obtain ⟨rfl, rfl⟩ := hq592
            show own_Run p_ l e_ _ s_ m_ _ b_ mt_ c_ n0 _ h567 _ _ (mkF m_ 306 #[.val (.int p0), .val (.int p1), .val (.int p2), .val (.int p3), .val (.int p4), .val (.int x296), .val (.int (0 : Int32)), .val (.int (0 : Int32)), .val (.int x306), .val (.int x313), .val (.int x320), .val (.int x327), .val (.int x334), .val (.int x341), .val (.ref a346), .val (.int (0 : Int32)), .val (.int (0 : Int32)), .val (.int (2 : Int32)), .val (.int (0 : Int32)), .val (.int (1 : Int32)), .val (.int (1 : Int32)), .val (.int (0 : Int32)), .val (.int (1 : Int32)), .val (.int (1 : Int32)), .val (.int (1 : Int32)), .val (.int (2 : Int32)), .val (.int (0 : Int32)), .unset] [(.int (2 : Int32))])
            refine own_istore C (pc' := 308) (Ls' := #[.val (.int p0), .val (.int p1), .val (.int p2), .val (.int p3), .val (.int p4), .val (.int x296), .val (.int (0 : Int32)), .val (.int (0 : Int32)), .val (.int x306), .val (.int x313), .val (.int x320), .val (.int x327), .val (.int x334), .val (.int x341), .val (.ref a346), .val (.int (0 : Int32)), .val (.int (0 : Int32)), .val (.int (2 : Int32)), .val (.int (0 : Int32)), .val (.int (1 : Int32)), .val (.int (1 : Int32)), .val (.int (0 : Int32)), .val (.int (1 : Int32)), .val (.int (1 : Int32)), .val (.int (1 : Int32)), .val (.int (2 : Int32)), .val (.int (0 : Int32)), .val (.int (2 : Int32))]) at_306 rfl rfl ?_
            refine own_iload C (pc' := 310) at_308 rfl rfl ?_
            refine own_iload C (pc' := 312) at_310 rfl rfl ?_
            refine own_ii_ne C (pc1 := 363) (pc2 := 315) at_312 rfl rfl (fun c593 => absurd c593 (by decide)) (fun c593 => ?_)
            refine own_iload C (pc' := 317) at_315 rfl rfl ?_
            refine own_iload C (pc' := 319) at_317 rfl rfl ?_
            refine own_iconst C (pc' := 320) (v := (1 : Int32)) at_319 rfl (by decide) ?_
            refine own_iaddV C (pc' := 321) (v := (1 : Int32)) at_320 rfl (by decide) ?_
            refine own_ii_ne C (pc1 := 363) (pc2 := 324) at_321 rfl rfl (fun c594 => absurd c594 (by decide)) (fun c594 => ?_)
            refine own_iload C (pc' := 326) at_324 rfl rfl ?_
            refine own_iload C (pc' := 328) at_326 rfl rfl ?_
            refine own_ii_ne C (pc1 := 363) (pc2 := 331) at_328 rfl rfl (fun c595 => absurd c595 (by decide)) (fun c595 => ?_)
            refine own_iload C (pc' := 333) at_331 rfl rfl ?_
            refine own_iload C (pc' := 335) at_333 rfl rfl ?_
            refine own_ii_ne C (pc1 := 363) (pc2 := 338) at_335 rfl rfl (fun c596 => absurd c596 (by decide)) (fun c596 => ?_)
            refine own_iload C (pc' := 340) at_338 rfl rfl ?_
            refine own_iload C (pc' := 342) at_340 rfl rfl ?_
            refine own_ii_ne C (pc1 := 363) (pc2 := 345) at_342 rfl rfl (fun c597 => absurd c597 (by decide)) (fun c597 => ?_)
            refine own_iload C (pc' := 347) at_345 rfl rfl ?_
            refine own_iload C (pc' := 349) at_347 rfl rfl ?_
            refine own_ii_ne C (pc1 := 363) (pc2 := 352) at_349 rfl rfl (fun c598 => absurd c598 (by decide)) (fun c598 => ?_)
            refine own_iload C (pc' := 354) at_352 rfl rfl ?_
            refine own_iload C (pc' := 356) at_354 rfl rfl ?_
            refine own_ii_ne C (pc1 := 363) (pc2 := 359) at_356 rfl rfl (fun c599 => absurd c599 (by decide)) (fun c599 => ?_)
            refine own_iconst C (pc' := 360) (v := (1 : Int32)) at_359 rfl (by decide) ?_
            refine own_goto C (pc' := 364) at_360 rfl ?_
            exact own_ret C (t := .boolean) rfl rfl (Or.inl ⟨rfl, by simp, _, rfl⟩) at_364 (by decide) (by decide) (rfl)
          · show own_Run p_ l e_ _ s_ m_ _ b_ mt_ c_ n0 _ h359 _ _ (mkF m_ 243 #[.val (.int p0), .val (.int p1), .val (.int p2), .val (.int p3), .val (.int p4), .val (.int x296), .val (.int (0 : Int32)), .val (.int (0 : Int32)), .val (.int x306), .val (.int x313), .val (.int x320), .val (.int x327), .val (.int x334), .val (.int x341), .val (.ref a346), .val (.int (0 : Int32)), .val (.int (0 : Int32)), .val (.int (3 : Int32)), .val (.int (0 : Int32)), .val (.int (1 : Int32)), .val (.int (2 : Int32)), .unset, .unset, .unset, .unset, .unset, .unset, .unset] [])
            refine own_aload C (pc' := 245) at_243 rfl rfl rfl ?_
            refine own_iload C (pc' := 247) at_245 rfl rfl ?_
            refine own_iload C (pc' := 249) at_247 rfl rfl ?_
            refine own_callV C (pc' := 252) (y := (⟨"com/example/words_to_weights/wordstoweights/model/PairCounter", "addOrdered", "(II)I"⟩ : MethodName)) (a := a346) (argsL := [(.int x306), (.int x313)]) (rest := []) 0 F368 (hw _ (List.mem_of_getElem? (i := 29) rfl)) (hw _ (List.mem_of_getElem? (i := 30) rfl)) (hw _ (List.mem_of_getElem? (i := 32) rfl)) (hw _ (List.mem_of_getElem? (i := 31) rfl)) (hw _ (List.mem_of_getElem? (i := 33) rfl)) (hw _ (List.mem_of_getElem? (i := 9) rfl)) (by decide) (own_addN hw a346 M (fun _ => (-1 : Int32)) (0 : Int32) x306 x313 I1 x296 (0 : Int32) a361 a362 (1 : Int32) Z382 F368 ga348 ga364 ne379 F369 F370 F371 F372 F373 F374 hiI1 hbI1 (by simp [own_upd, h21, Ne.symm h21, h31, Ne.symm h31, h32, Ne.symm h32]) (by decide)) (by decide) (by decide) (lenOf own_pd2 rfl) rfl (Nat.le_of_eq rfl) at_249 rfl rfl (by decide) (by decide) (fun v600 h601 hq602 => ?_)
            obtain ⟨rfl, K603, F604, F605, F606, F607, F608, F609, F610⟩ := hq602
            have Z612 : n0 ≤ h601.size := Nat.le_trans Z382 K603.1
            have F613 : Exa Z h601 a346 "com/example/words_to_weights/wordstoweights/model/PairCounter" := Exa.keep F368 K603
            have F614 : own_AI Z h601 a362 0 (fun _ => (-1 : Int32)) := own_A.keep F375 K603 (ninS (Ne.symm ne380) (ninS (Ne.symm F378) nin0))
            show own_Run p_ l e_ _ s_ m_ _ b_ mt_ c_ n0 _ h601 _ _ (mkF m_ 252 #[.val (.int p0), .val (.int p1), .val (.int p2), .val (.int p3), .val (.int p4), .val (.int x296), .val (.int (0 : Int32)), .val (.int (0 : Int32)), .val (.int x306), .val (.int x313), .val (.int x320), .val (.int x327), .val (.int x334), .val (.int x341), .val (.ref a346), .val (.int (0 : Int32)), .val (.int (0 : Int32)), .val (.int (3 : Int32)), .val (.int (0 : Int32)), .val (.int (1 : Int32)), .val (.int (2 : Int32)), .unset, .unset, .unset, .unset, .unset, .unset, .unset] [(.int (0 : Int32))])
            refine own_istore C (pc' := 254) (Ls' := #[.val (.int p0), .val (.int p1), .val (.int p2), .val (.int p3), .val (.int p4), .val (.int x296), .val (.int (0 : Int32)), .val (.int (0 : Int32)), .val (.int x306), .val (.int x313), .val (.int x320), .val (.int x327), .val (.int x334), .val (.int x341), .val (.ref a346), .val (.int (0 : Int32)), .val (.int (0 : Int32)), .val (.int (3 : Int32)), .val (.int (0 : Int32)), .val (.int (1 : Int32)), .val (.int (2 : Int32)), .val (.int (0 : Int32)), .unset, .unset, .unset, .unset, .unset, .unset]) at_252 rfl rfl ?_
            refine own_aload C (pc' := 256) at_254 rfl rfl rfl ?_
            refine own_callV C (pc' := 259) (y := (⟨"com/example/words_to_weights/wordstoweights/model/PairCounter", "slots", "()I"⟩ : MethodName)) (a := a346) (argsL := []) (rest := []) 0 F604 (hw _ (List.mem_of_getElem? (i := 40) rfl)) (hw _ (List.mem_of_getElem? (i := 41) rfl)) (hw _ (List.mem_of_getElem? (i := 43) rfl)) (hw _ (List.mem_of_getElem? (i := 42) rfl)) (hw _ (List.mem_of_getElem? (i := 44) rfl)) (hw _ (List.mem_of_getElem? (i := 9) rfl)) (by decide) (own_m8 hw a346 (1 : Int32) Z612 F609 ) (by decide) (by decide) (lenOf own_pd4 rfl) rfl (Nat.le_of_eq rfl) at_256 rfl rfl (by decide) (by decide) (fun v615 h616 hq617 => ?_)
            obtain ⟨rfl, rfl⟩ := hq617
            show own_Run p_ l e_ _ s_ m_ _ b_ mt_ c_ n0 _ h601 _ _ (mkF m_ 259 #[.val (.int p0), .val (.int p1), .val (.int p2), .val (.int p3), .val (.int p4), .val (.int x296), .val (.int (0 : Int32)), .val (.int (0 : Int32)), .val (.int x306), .val (.int x313), .val (.int x320), .val (.int x327), .val (.int x334), .val (.int x341), .val (.ref a346), .val (.int (0 : Int32)), .val (.int (0 : Int32)), .val (.int (3 : Int32)), .val (.int (0 : Int32)), .val (.int (1 : Int32)), .val (.int (2 : Int32)), .val (.int (0 : Int32)), .unset, .unset, .unset, .unset, .unset, .unset] [(.int (1 : Int32))])
            refine own_istore C (pc' := 261) (Ls' := #[.val (.int p0), .val (.int p1), .val (.int p2), .val (.int p3), .val (.int p4), .val (.int x296), .val (.int (0 : Int32)), .val (.int (0 : Int32)), .val (.int x306), .val (.int x313), .val (.int x320), .val (.int x327), .val (.int x334), .val (.int x341), .val (.ref a346), .val (.int (0 : Int32)), .val (.int (0 : Int32)), .val (.int (3 : Int32)), .val (.int (0 : Int32)), .val (.int (1 : Int32)), .val (.int (2 : Int32)), .val (.int (0 : Int32)), .val (.int (1 : Int32)), .unset, .unset, .unset, .unset, .unset]) at_259 rfl rfl ?_
            refine own_aload C (pc' := 263) at_261 rfl rfl rfl ?_
            refine own_iload C (pc' := 265) at_263 rfl rfl ?_
            refine own_iload C (pc' := 267) at_265 rfl rfl ?_
            refine own_callV C (pc' := 270) (y := (⟨"com/example/words_to_weights/wordstoweights/model/PairCounter", "addOrdered", "(II)I"⟩ : MethodName)) (a := a346) (argsL := [(.int x320), (.int x327)]) (rest := []) 0 F604 (hw _ (List.mem_of_getElem? (i := 29) rfl)) (hw _ (List.mem_of_getElem? (i := 30) rfl)) (hw _ (List.mem_of_getElem? (i := 32) rfl)) (hw _ (List.mem_of_getElem? (i := 31) rfl)) (hw _ (List.mem_of_getElem? (i := 33) rfl)) (hw _ (List.mem_of_getElem? (i := 9) rfl)) (by decide) (own_addN hw a346 M (own_upd (own_upd (fun _ => (-1 : Int32)) I1 (0 : Int32)) I1 (0 : Int32)) (1 : Int32) x320 x327 I2 x296 (0 : Int32) a361 a362 (2 : Int32) Z612 F604 ga348 ga364 ne379 F605 F606 F607 F608 F609 F610 hiI2 hbI2 (by simp [own_upd, h21, Ne.symm h21, h31, Ne.symm h31, h32, Ne.symm h32]) (by decide)) (by decide) (by decide) (lenOf own_pd2 rfl) rfl (Nat.le_of_eq rfl) at_267 rfl rfl (by decide) (by decide) (fun v618 h619 hq620 => ?_)
            obtain ⟨rfl, K621, F622, F623, F624, F625, F626, F627, F628⟩ := hq620
            have Z630 : n0 ≤ h619.size := Nat.le_trans Z612 K621.1
            have F631 : own_AI Z h619 a362 0 (fun _ => (-1 : Int32)) := own_A.keep F614 K621 (ninS (Ne.symm ne380) (ninS (Ne.symm F378) nin0))
            have F632 : Exa Z h619 a346 "com/example/words_to_weights/wordstoweights/model/PairCounter" := Exa.keep F604 K621
            show own_Run p_ l e_ _ s_ m_ _ b_ mt_ c_ n0 _ h619 _ _ (mkF m_ 270 #[.val (.int p0), .val (.int p1), .val (.int p2), .val (.int p3), .val (.int p4), .val (.int x296), .val (.int (0 : Int32)), .val (.int (0 : Int32)), .val (.int x306), .val (.int x313), .val (.int x320), .val (.int x327), .val (.int x334), .val (.int x341), .val (.ref a346), .val (.int (0 : Int32)), .val (.int (0 : Int32)), .val (.int (3 : Int32)), .val (.int (0 : Int32)), .val (.int (1 : Int32)), .val (.int (2 : Int32)), .val (.int (0 : Int32)), .val (.int (1 : Int32)), .unset, .unset, .unset, .unset, .unset] [(.int (1 : Int32))])
            refine own_istore C (pc' := 272) (Ls' := #[.val (.int p0), .val (.int p1), .val (.int p2), .val (.int p3), .val (.int p4), .val (.int x296), .val (.int (0 : Int32)), .val (.int (0 : Int32)), .val (.int x306), .val (.int x313), .val (.int x320), .val (.int x327), .val (.int x334), .val (.int x341), .val (.ref a346), .val (.int (0 : Int32)), .val (.int (0 : Int32)), .val (.int (3 : Int32)), .val (.int (0 : Int32)), .val (.int (1 : Int32)), .val (.int (2 : Int32)), .val (.int (0 : Int32)), .val (.int (1 : Int32)), .val (.int (1 : Int32)), .unset, .unset, .unset, .unset]) at_270 rfl rfl ?_
            refine own_aload C (pc' := 274) at_272 rfl rfl rfl ?_
            refine own_iload C (pc' := 276) at_274 rfl rfl ?_
            refine own_iload C (pc' := 278) at_276 rfl rfl ?_
            refine own_callV C (pc' := 281) (y := (⟨"com/example/words_to_weights/wordstoweights/model/PairCounter", "addOrdered", "(II)I"⟩ : MethodName)) (a := a346) (argsL := [(.int x334), (.int x341)]) (rest := []) 0 F622 (hw _ (List.mem_of_getElem? (i := 29) rfl)) (hw _ (List.mem_of_getElem? (i := 30) rfl)) (hw _ (List.mem_of_getElem? (i := 32) rfl)) (hw _ (List.mem_of_getElem? (i := 31) rfl)) (hw _ (List.mem_of_getElem? (i := 33) rfl)) (hw _ (List.mem_of_getElem? (i := 9) rfl)) (by decide) (own_addN hw a346 M (own_upd (own_upd (own_upd (own_upd (fun _ => (-1 : Int32)) I1 (0 : Int32)) I1 (0 : Int32)) I2 (1 : Int32)) I2 (1 : Int32)) (2 : Int32) x334 x341 I3 x296 (0 : Int32) a361 a362 (3 : Int32) Z630 F622 ga348 ga364 ne379 F623 F624 F625 F626 F627 F628 hiI3 hbI3 (by simp [own_upd, h21, Ne.symm h21, h31, Ne.symm h31, h32, Ne.symm h32]) (by decide)) (by decide) (by decide) (lenOf own_pd2 rfl) rfl (Nat.le_of_eq rfl) at_278 rfl rfl (by decide) (by decide) (fun v633 h634 hq635 => ?_)
            obtain ⟨rfl, K636, F637, F638, F639, F640, F641, F642, F643⟩ := hq635
            have Z645 : n0 ≤ h634.size := Nat.le_trans Z630 K636.1
            have F646 : own_AI Z h634 a362 0 (fun _ => (-1 : Int32)) := own_A.keep F631 K636 (ninS (Ne.symm ne380) (ninS (Ne.symm F378) nin0))
            have F647 : Exa Z h634 a346 "com/example/words_to_weights/wordstoweights/model/PairCounter" := Exa.keep F622 K636
            show own_Run p_ l e_ _ s_ m_ _ b_ mt_ c_ n0 _ h634 _ _ (mkF m_ 281 #[.val (.int p0), .val (.int p1), .val (.int p2), .val (.int p3), .val (.int p4), .val (.int x296), .val (.int (0 : Int32)), .val (.int (0 : Int32)), .val (.int x306), .val (.int x313), .val (.int x320), .val (.int x327), .val (.int x334), .val (.int x341), .val (.ref a346), .val (.int (0 : Int32)), .val (.int (0 : Int32)), .val (.int (3 : Int32)), .val (.int (0 : Int32)), .val (.int (1 : Int32)), .val (.int (2 : Int32)), .val (.int (0 : Int32)), .val (.int (1 : Int32)), .val (.int (1 : Int32)), .unset, .unset, .unset, .unset] [(.int (2 : Int32))])
            refine own_istore C (pc' := 283) (Ls' := #[.val (.int p0), .val (.int p1), .val (.int p2), .val (.int p3), .val (.int p4), .val (.int x296), .val (.int (0 : Int32)), .val (.int (0 : Int32)), .val (.int x306), .val (.int x313), .val (.int x320), .val (.int x327), .val (.int x334), .val (.int x341), .val (.ref a346), .val (.int (0 : Int32)), .val (.int (0 : Int32)), .val (.int (3 : Int32)), .val (.int (0 : Int32)), .val (.int (1 : Int32)), .val (.int (2 : Int32)), .val (.int (0 : Int32)), .val (.int (1 : Int32)), .val (.int (1 : Int32)), .val (.int (2 : Int32)), .unset, .unset, .unset]) at_281 rfl rfl ?_
            refine own_aload C (pc' := 285) at_283 rfl rfl rfl ?_
            refine own_callV C (pc' := 288) (y := (⟨"com/example/words_to_weights/wordstoweights/model/PairCounter", "slots", "()I"⟩ : MethodName)) (a := a346) (argsL := []) (rest := []) 0 F637 (hw _ (List.mem_of_getElem? (i := 40) rfl)) (hw _ (List.mem_of_getElem? (i := 41) rfl)) (hw _ (List.mem_of_getElem? (i := 43) rfl)) (hw _ (List.mem_of_getElem? (i := 42) rfl)) (hw _ (List.mem_of_getElem? (i := 44) rfl)) (hw _ (List.mem_of_getElem? (i := 9) rfl)) (by decide) (own_m8 hw a346 (3 : Int32) Z645 F642 ) (by decide) (by decide) (lenOf own_pd4 rfl) rfl (Nat.le_of_eq rfl) at_285 rfl rfl (by decide) (by decide) (fun v648 h649 hq650 => ?_)
            obtain ⟨rfl, rfl⟩ := hq650
            show own_Run p_ l e_ _ s_ m_ _ b_ mt_ c_ n0 _ h634 _ _ (mkF m_ 288 #[.val (.int p0), .val (.int p1), .val (.int p2), .val (.int p3), .val (.int p4), .val (.int x296), .val (.int (0 : Int32)), .val (.int (0 : Int32)), .val (.int x306), .val (.int x313), .val (.int x320), .val (.int x327), .val (.int x334), .val (.int x341), .val (.ref a346), .val (.int (0 : Int32)), .val (.int (0 : Int32)), .val (.int (3 : Int32)), .val (.int (0 : Int32)), .val (.int (1 : Int32)), .val (.int (2 : Int32)), .val (.int (0 : Int32)), .val (.int (1 : Int32)), .val (.int (1 : Int32)), .val (.int (2 : Int32)), .unset, .unset, .unset] [(.int (3 : Int32))])
            refine own_istore C (pc' := 290) (Ls' := #[.val (.int p0), .val (.int p1), .val (.int p2), .val (.int p3), .val (.int p4), .val (.int x296), .val (.int (0 : Int32)), .val (.int (0 : Int32)), .val (.int x306), .val (.int x313), .val (.int x320), .val (.int x327), .val (.int x334), .val (.int x341), .val (.ref a346), .val (.int (0 : Int32)), .val (.int (0 : Int32)), .val (.int (3 : Int32)), .val (.int (0 : Int32)), .val (.int (1 : Int32)), .val (.int (2 : Int32)), .val (.int (0 : Int32)), .val (.int (1 : Int32)), .val (.int (1 : Int32)), .val (.int (2 : Int32)), .val (.int (3 : Int32)), .unset, .unset]) at_288 rfl rfl ?_
            refine own_aload C (pc' := 292) at_290 rfl rfl rfl ?_
            refine own_iload C (pc' := 294) at_292 rfl rfl ?_
            refine own_iload C (pc' := 296) at_294 rfl rfl ?_
            refine own_callV C (pc' := 299) (y := (⟨"com/example/words_to_weights/wordstoweights/model/PairCounter", "addOrdered", "(II)I"⟩ : MethodName)) (a := a346) (argsL := [(.int x306), (.int x313)]) (rest := []) 0 F637 (hw _ (List.mem_of_getElem? (i := 29) rfl)) (hw _ (List.mem_of_getElem? (i := 30) rfl)) (hw _ (List.mem_of_getElem? (i := 32) rfl)) (hw _ (List.mem_of_getElem? (i := 31) rfl)) (hw _ (List.mem_of_getElem? (i := 33) rfl)) (hw _ (List.mem_of_getElem? (i := 9) rfl)) (by decide) (own_addO hw a346 M (own_upd (own_upd (own_upd (own_upd (own_upd (own_upd (fun _ => (-1 : Int32)) I1 (0 : Int32)) I1 (0 : Int32)) I2 (1 : Int32)) I2 (1 : Int32)) I3 (2 : Int32)) I3 (2 : Int32)) x306 x313 I1 x296 a361 (0 : Int32) Z645 F637 F638 F640 F643 hiI1 hbI1 (by simp [own_upd, h21, Ne.symm h21, h31, Ne.symm h31, h32, Ne.symm h32]) (by decide)) (by decide) (by decide) (lenOf own_pd2 rfl) rfl (Nat.le_of_eq rfl) at_296 rfl rfl (by decide) (by decide) (fun v651 h652 hq653 => ?_)
            obtain ⟨rfl, rfl⟩ := hq653
            show own_Run p_ l e_ _ s_ m_ _ b_ mt_ c_ n0 _ h634 _ _ (mkF m_ 299 #[.val (.int p0), .val (.int p1), .val (.int p2), .val (.int p3), .val (.int p4), .val (.int x296), .val (.int (0 : Int32)), .val (.int (0 : Int32)), .val (.int x306), .val (.int x313), .val (.int x320), .val (.int x327), .val (.int x334), .val (.int x341), .val (.ref a346), .val (.int (0 : Int32)), .val (.int (0 : Int32)), .val (.int (3 : Int32)), .val (.int (0 : Int32)), .val (.int (1 : Int32)), .val (.int (2 : Int32)), .val (.int (0 : Int32)), .val (.int (1 : Int32)), .val (.int (1 : Int32)), .val (.int (2 : Int32)), .val (.int (3 : Int32)), .unset, .unset] [(.int (0 : Int32))])
            refine own_istore C (pc' := 301) (Ls' := #[.val (.int p0), .val (.int p1), .val (.int p2), .val (.int p3), .val (.int p4), .val (.int x296), .val (.int (0 : Int32)), .val (.int (0 : Int32)), .val (.int x306), .val (.int x313), .val (.int x320), .val (.int x327), .val (.int x334), .val (.int x341), .val (.ref a346), .val (.int (0 : Int32)), .val (.int (0 : Int32)), .val (.int (3 : Int32)), .val (.int (0 : Int32)), .val (.int (1 : Int32)), .val (.int (2 : Int32)), .val (.int (0 : Int32)), .val (.int (1 : Int32)), .val (.int (1 : Int32)), .val (.int (2 : Int32)), .val (.int (3 : Int32)), .val (.int (0 : Int32)), .unset]) at_299 rfl rfl ?_
            refine own_aload C (pc' := 303) at_301 rfl rfl rfl ?_
            refine own_callV C (pc' := 306) (y := (⟨"com/example/words_to_weights/wordstoweights/model/PairCounter", "slots", "()I"⟩ : MethodName)) (a := a346) (argsL := []) (rest := []) 0 F637 (hw _ (List.mem_of_getElem? (i := 40) rfl)) (hw _ (List.mem_of_getElem? (i := 41) rfl)) (hw _ (List.mem_of_getElem? (i := 43) rfl)) (hw _ (List.mem_of_getElem? (i := 42) rfl)) (hw _ (List.mem_of_getElem? (i := 44) rfl)) (hw _ (List.mem_of_getElem? (i := 9) rfl)) (by decide) (own_m8 hw a346 (3 : Int32) Z645 F642 ) (by decide) (by decide) (lenOf own_pd4 rfl) rfl (Nat.le_of_eq rfl) at_303 rfl rfl (by decide) (by decide) (fun v654 h655 hq656 => ?_)
            obtain ⟨rfl, rfl⟩ := hq656
            show own_Run p_ l e_ _ s_ m_ _ b_ mt_ c_ n0 _ h634 _ _ (mkF m_ 306 #[.val (.int p0), .val (.int p1), .val (.int p2), .val (.int p3), .val (.int p4), .val (.int x296), .val (.int (0 : Int32)), .val (.int (0 : Int32)), .val (.int x306), .val (.int x313), .val (.int x320), .val (.int x327), .val (.int x334), .val (.int x341), .val (.ref a346), .val (.int (0 : Int32)), .val (.int (0 : Int32)), .val (.int (3 : Int32)), .val (.int (0 : Int32)), .val (.int (1 : Int32)), .val (.int (2 : Int32)), .val (.int (0 : Int32)), .val (.int (1 : Int32)), .val (.int (1 : Int32)), .val (.int (2 : Int32)), .val (.int (3 : Int32)), .val (.int (0 : Int32)), .unset] [(.int (3 : Int32))])
            refine own_istore C (pc' := 308) (Ls' := #[.val (.int p0), .val (.int p1), .val (.int p2), .val (.int p3), .val (.int p4), .val (.int x296), .val (.int (0 : Int32)), .val (.int (0 : Int32)), .val (.int x306), .val (.int x313), .val (.int x320), .val (.int x327), .val (.int x334), .val (.int x341), .val (.ref a346), .val (.int (0 : Int32)), .val (.int (0 : Int32)), .val (.int (3 : Int32)), .val (.int (0 : Int32)), .val (.int (1 : Int32)), .val (.int (2 : Int32)), .val (.int (0 : Int32)), .val (.int (1 : Int32)), .val (.int (1 : Int32)), .val (.int (2 : Int32)), .val (.int (3 : Int32)), .val (.int (0 : Int32)), .val (.int (3 : Int32))]) at_306 rfl rfl ?_
            refine own_iload C (pc' := 310) at_308 rfl rfl ?_
            refine own_iload C (pc' := 312) at_310 rfl rfl ?_
            refine own_ii_ne C (pc1 := 363) (pc2 := 315) at_312 rfl rfl (fun c657 => absurd c657 (by decide)) (fun c657 => ?_)
            refine own_iload C (pc' := 317) at_315 rfl rfl ?_
            refine own_iload C (pc' := 319) at_317 rfl rfl ?_
            refine own_iconst C (pc' := 320) (v := (1 : Int32)) at_319 rfl (by decide) ?_
            refine own_iaddV C (pc' := 321) (v := (1 : Int32)) at_320 rfl (by decide) ?_
            refine own_ii_ne C (pc1 := 363) (pc2 := 324) at_321 rfl rfl (fun c658 => absurd c658 (by decide)) (fun c658 => ?_)
            refine own_iload C (pc' := 326) at_324 rfl rfl ?_
            refine own_iload C (pc' := 328) at_326 rfl rfl ?_
            refine own_ii_ne C (pc1 := 363) (pc2 := 331) at_328 rfl rfl (fun c659 => absurd c659 (by decide)) (fun c659 => ?_)
            refine own_iload C (pc' := 333) at_331 rfl rfl ?_
            refine own_iload C (pc' := 335) at_333 rfl rfl ?_
            refine own_ii_ne C (pc1 := 363) (pc2 := 338) at_335 rfl rfl (fun c660 => absurd c660 (by decide)) (fun c660 => ?_)
            refine own_iload C (pc' := 340) at_338 rfl rfl ?_
            refine own_iload C (pc' := 342) at_340 rfl rfl ?_
            refine own_ii_ne C (pc1 := 363) (pc2 := 345) at_342 rfl rfl (fun c661 => absurd c661 (by decide)) (fun c661 => ?_)
            refine own_iload C (pc' := 347) at_345 rfl rfl ?_
            refine own_iload C (pc' := 349) at_347 rfl rfl ?_
            refine own_ii_ne C (pc1 := 363) (pc2 := 352) at_349 rfl rfl (fun c662 => absurd c662 (by decide)) (fun c662 => ?_)
            refine own_iload C (pc' := 354) at_352 rfl rfl ?_
            refine own_iload C (pc' := 356) at_354 rfl rfl ?_
            refine own_ii_ne C (pc1 := 363) (pc2 := 359) at_356 rfl rfl (fun c663 => absurd c663 (by decide)) (fun c663 => ?_)
            refine own_iconst C (pc' := 360) (v := (1 : Int32)) at_359 rfl (by decide) ?_
            refine own_goto C (pc' := 364) at_360 rfl ?_
            exact own_ret C (t := .boolean) rfl rfl (Or.inl ⟨rfl, by simp, _, rfl⟩) at_364 (by decide) (by decide) (rfl)
        · skip
          refine own_iload C (pc' := 193) at_191 rfl rfl ?_
          refine own_iload C (pc' := 195) at_193 rfl rfl ?_
          refine own_ii_ne C (pc1 := 212) (pc2 := 198) at_195 rfl rfl (fun c664 => ?_) (fun c664 => ?_)
          · skip
            refine own_iload C (pc' := 214) at_212 rfl rfl ?_
            refine own_iload C (pc' := 216) at_214 rfl rfl ?_
            refine own_ii_ne C (pc1 := 233) (pc2 := 219) at_216 rfl rfl (fun c665 => ?_) (fun c665 => ?_)
            · skip
              refine own_iload C (pc' := 235) at_233 rfl rfl ?_
              refine own_istore C (pc' := 237) (Ls' := #[.val (.int p0), .val (.int p1), .val (.int p2), .val (.int p3), .val (.int p4), .val (.int x296), .val (.int (0 : Int32)), .val (.int (0 : Int32)), .val (.int x306), .val (.int x313), .val (.int x320), .val (.int x327), .val (.int x334), .val (.int x341), .val (.ref a346), .val (.int (0 : Int32)), .val (.int (0 : Int32)), .val (.int (2 : Int32)), .val (.int (0 : Int32)), .val (.int (1 : Int32)), .val (.int (2 : Int32)), .unset, .unset, .unset, .unset, .unset, .unset, .unset]) at_235 rfl rfl ?_
              refine own_iload C (pc' := 239) at_237 rfl rfl ?_
              refine own_iconst C (pc' := 240) (v := (1 : Int32)) at_239 rfl (by decide) ?_
              refine own_iaddV C (pc' := 241) (v := (3 : Int32)) at_240 rfl (by decide) ?_
              refine own_istore C (pc' := 243) (Ls' := #[.val (.int p0), .val (.int p1), .val (.int p2), .val (.int p3), .val (.int p4), .val (.int x296), .val (.int (0 : Int32)), .val (.int (0 : Int32)), .val (.int x306), .val (.int x313), .val (.int x320), .val (.int x327), .val (.int x334), .val (.int x341), .val (.ref a346), .val (.int (0 : Int32)), .val (.int (0 : Int32)), .val (.int (3 : Int32)), .val (.int (0 : Int32)), .val (.int (1 : Int32)), .val (.int (2 : Int32)), .unset, .unset, .unset, .unset, .unset, .unset, .unset]) at_241 rfl rfl ?_
              exact J495 (2 : Int32) (3 : Int32) (Or.inr (Or.inr ⟨(fun e => c664 (hq31.mp e).1), (fun e => c665 (hq32.mp e).1), rfl, rfl⟩))
            · skip
              refine own_iload C (pc' := 221) at_219 rfl rfl ?_
              refine own_iload C (pc' := 223) at_221 rfl rfl ?_
              refine own_ii_ne C (pc1 := 233) (pc2 := 226) at_223 rfl rfl (fun c666 => ?_) (fun c666 => ?_)
              · skip
                refine own_iload C (pc' := 235) at_233 rfl rfl ?_
                refine own_istore C (pc' := 237) (Ls' := #[.val (.int p0), .val (.int p1), .val (.int p2), .val (.int p3), .val (.int p4), .val (.int x296), .val (.int (0 : Int32)), .val (.int (0 : Int32)), .val (.int x306), .val (.int x313), .val (.int x320), .val (.int x327), .val (.int x334), .val (.int x341), .val (.ref a346), .val (.int (0 : Int32)), .val (.int (0 : Int32)), .val (.int (2 : Int32)), .val (.int (0 : Int32)), .val (.int (1 : Int32)), .val (.int (2 : Int32)), .unset, .unset, .unset, .unset, .unset, .unset, .unset]) at_235 rfl rfl ?_
                refine own_iload C (pc' := 239) at_237 rfl rfl ?_
                refine own_iconst C (pc' := 240) (v := (1 : Int32)) at_239 rfl (by decide) ?_
                refine own_iaddV C (pc' := 241) (v := (3 : Int32)) at_240 rfl (by decide) ?_
                refine own_istore C (pc' := 243) (Ls' := #[.val (.int p0), .val (.int p1), .val (.int p2), .val (.int p3), .val (.int p4), .val (.int x296), .val (.int (0 : Int32)), .val (.int (0 : Int32)), .val (.int x306), .val (.int x313), .val (.int x320), .val (.int x327), .val (.int x334), .val (.int x341), .val (.ref a346), .val (.int (0 : Int32)), .val (.int (0 : Int32)), .val (.int (3 : Int32)), .val (.int (0 : Int32)), .val (.int (1 : Int32)), .val (.int (2 : Int32)), .unset, .unset, .unset, .unset, .unset, .unset, .unset]) at_241 rfl rfl ?_
                exact J495 (2 : Int32) (3 : Int32) (Or.inr (Or.inr ⟨(fun e => c664 (hq31.mp e).1), (fun e => c666 (hq32.mp e).2), rfl, rfl⟩))
              · skip
                refine own_iload C (pc' := 228) at_226 rfl rfl ?_
                refine own_istore C (pc' := 230) (Ls' := #[.val (.int p0), .val (.int p1), .val (.int p2), .val (.int p3), .val (.int p4), .val (.int x296), .val (.int (0 : Int32)), .val (.int (0 : Int32)), .val (.int x306), .val (.int x313), .val (.int x320), .val (.int x327), .val (.int x334), .val (.int x341), .val (.ref a346), .val (.int (0 : Int32)), .val (.int (0 : Int32)), .val (.int (2 : Int32)), .val (.int (0 : Int32)), .val (.int (1 : Int32)), .val (.int (1 : Int32)), .unset, .unset, .unset, .unset, .unset, .unset, .unset]) at_228 rfl rfl ?_
                refine own_goto C (pc' := 243) at_230 rfl ?_
                exact J495 (1 : Int32) (2 : Int32) (Or.inr (Or.inl ⟨(fun e => c664 (hq31.mp e).1), (hq32.mpr ⟨c665, c666⟩), rfl, rfl⟩))
          · skip
            refine own_iload C (pc' := 200) at_198 rfl rfl ?_
            refine own_iload C (pc' := 202) at_200 rfl rfl ?_
            refine own_ii_ne C (pc1 := 212) (pc2 := 205) at_202 rfl rfl (fun c667 => ?_) (fun c667 => ?_)
            · skip
              refine own_iload C (pc' := 214) at_212 rfl rfl ?_
              refine own_iload C (pc' := 216) at_214 rfl rfl ?_
              refine own_ii_ne C (pc1 := 233) (pc2 := 219) at_216 rfl rfl (fun c668 => ?_) (fun c668 => ?_)
              · skip
                refine own_iload C (pc' := 235) at_233 rfl rfl ?_
                refine own_istore C (pc' := 237) (Ls' := #[.val (.int p0), .val (.int p1), .val (.int p2), .val (.int p3), .val (.int p4), .val (.int x296), .val (.int (0 : Int32)), .val (.int (0 : Int32)), .val (.int x306), .val (.int x313), .val (.int x320), .val (.int x327), .val (.int x334), .val (.int x341), .val (.ref a346), .val (.int (0 : Int32)), .val (.int (0 : Int32)), .val (.int (2 : Int32)), .val (.int (0 : Int32)), .val (.int (1 : Int32)), .val (.int (2 : Int32)), .unset, .unset, .unset, .unset, .unset, .unset, .unset]) at_235 rfl rfl ?_
                refine own_iload C (pc' := 239) at_237 rfl rfl ?_
                refine own_iconst C (pc' := 240) (v := (1 : Int32)) at_239 rfl (by decide) ?_
                refine own_iaddV C (pc' := 241) (v := (3 : Int32)) at_240 rfl (by decide) ?_
                refine own_istore C (pc' := 243) (Ls' := #[.val (.int p0), .val (.int p1), .val (.int p2), .val (.int p3), .val (.int p4), .val (.int x296), .val (.int (0 : Int32)), .val (.int (0 : Int32)), .val (.int x306), .val (.int x313), .val (.int x320), .val (.int x327), .val (.int x334), .val (.int x341), .val (.ref a346), .val (.int (0 : Int32)), .val (.int (0 : Int32)), .val (.int (3 : Int32)), .val (.int (0 : Int32)), .val (.int (1 : Int32)), .val (.int (2 : Int32)), .unset, .unset, .unset, .unset, .unset, .unset, .unset]) at_241 rfl rfl ?_
                exact J495 (2 : Int32) (3 : Int32) (Or.inr (Or.inr ⟨(fun e => c667 (hq31.mp e).2), (fun e => c668 (hq32.mp e).1), rfl, rfl⟩))
              · skip
                refine own_iload C (pc' := 221) at_219 rfl rfl ?_
                refine own_iload C (pc' := 223) at_221 rfl rfl ?_
                refine own_ii_ne C (pc1 := 233) (pc2 := 226) at_223 rfl rfl (fun c669 => ?_) (fun c669 => ?_)
                · skip
                  refine own_iload C (pc' := 235) at_233 rfl rfl ?_
                  refine own_istore C (pc' := 237) (Ls' := #[.val (.int p0), .val (.int p1), .val (.int p2), .val (.int p3), .val (.int p4), .val (.int x296), .val (.int (0 : Int32)), .val (.int (0 : Int32)), .val (.int x306), .val (.int x313), .val (.int x320), .val (.int x327), .val (.int x334), .val (.int x341), .val (.ref a346), .val (.int (0 : Int32)), .val (.int (0 : Int32)), .val (.int (2 : Int32)), .val (.int (0 : Int32)), .val (.int (1 : Int32)), .val (.int (2 : Int32)), .unset, .unset, .unset, .unset, .unset, .unset, .unset]) at_235 rfl rfl ?_
                  refine own_iload C (pc' := 239) at_237 rfl rfl ?_
                  refine own_iconst C (pc' := 240) (v := (1 : Int32)) at_239 rfl (by decide) ?_
                  refine own_iaddV C (pc' := 241) (v := (3 : Int32)) at_240 rfl (by decide) ?_
                  refine own_istore C (pc' := 243) (Ls' := #[.val (.int p0), .val (.int p1), .val (.int p2), .val (.int p3), .val (.int p4), .val (.int x296), .val (.int (0 : Int32)), .val (.int (0 : Int32)), .val (.int x306), .val (.int x313), .val (.int x320), .val (.int x327), .val (.int x334), .val (.int x341), .val (.ref a346), .val (.int (0 : Int32)), .val (.int (0 : Int32)), .val (.int (3 : Int32)), .val (.int (0 : Int32)), .val (.int (1 : Int32)), .val (.int (2 : Int32)), .unset, .unset, .unset, .unset, .unset, .unset, .unset]) at_241 rfl rfl ?_
                  exact J495 (2 : Int32) (3 : Int32) (Or.inr (Or.inr ⟨(fun e => c667 (hq31.mp e).2), (fun e => c669 (hq32.mp e).2), rfl, rfl⟩))
                · skip
                  refine own_iload C (pc' := 228) at_226 rfl rfl ?_
                  refine own_istore C (pc' := 230) (Ls' := #[.val (.int p0), .val (.int p1), .val (.int p2), .val (.int p3), .val (.int p4), .val (.int x296), .val (.int (0 : Int32)), .val (.int (0 : Int32)), .val (.int x306), .val (.int x313), .val (.int x320), .val (.int x327), .val (.int x334), .val (.int x341), .val (.ref a346), .val (.int (0 : Int32)), .val (.int (0 : Int32)), .val (.int (2 : Int32)), .val (.int (0 : Int32)), .val (.int (1 : Int32)), .val (.int (1 : Int32)), .unset, .unset, .unset, .unset, .unset, .unset, .unset]) at_228 rfl rfl ?_
                  refine own_goto C (pc' := 243) at_230 rfl ?_
                  exact J495 (1 : Int32) (2 : Int32) (Or.inr (Or.inl ⟨(fun e => c667 (hq31.mp e).2), (hq32.mpr ⟨c668, c669⟩), rfl, rfl⟩))
            · skip
              refine own_iload C (pc' := 207) at_205 rfl rfl ?_
              refine own_istore C (pc' := 209) (Ls' := #[.val (.int p0), .val (.int p1), .val (.int p2), .val (.int p3), .val (.int p4), .val (.int x296), .val (.int (0 : Int32)), .val (.int (0 : Int32)), .val (.int x306), .val (.int x313), .val (.int x320), .val (.int x327), .val (.int x334), .val (.int x341), .val (.ref a346), .val (.int (0 : Int32)), .val (.int (0 : Int32)), .val (.int (2 : Int32)), .val (.int (0 : Int32)), .val (.int (1 : Int32)), .val (.int (0 : Int32)), .unset, .unset, .unset, .unset, .unset, .unset, .unset]) at_207 rfl rfl ?_
              refine own_goto C (pc' := 243) at_209 rfl ?_
              exact J495 (0 : Int32) (2 : Int32) (Or.inl ⟨(hq31.mpr ⟨c664, c667⟩), rfl, rfl⟩)
    · skip
      refine own_iload C (pc' := 150) at_148 rfl rfl ?_
      refine own_iload C (pc' := 152) at_150 rfl rfl ?_
      refine own_ii_ne C (pc1 := 166) (pc2 := 155) at_152 rfl rfl (fun c670 => ?_) (fun c670 => ?_)
      · skip
        refine own_iconst C (pc' := 167) (v := (0 : Int32)) at_166 rfl (by decide) ?_
        refine own_istore C (pc' := 169) (Ls' := #[.val (.int p0), .val (.int p1), .val (.int p2), .val (.int p3), .val (.int p4), .val (.int x296), .val (.int (0 : Int32)), .val (.int (0 : Int32)), .val (.int x306), .val (.int x313), .val (.int x320), .val (.int x327), .val (.int x334), .val (.int x341), .val (.ref a346), .val (.int (0 : Int32)), .val (.int (0 : Int32)), .val (.int (1 : Int32)), .val (.int (0 : Int32)), .unset, .unset, .unset, .unset, .unset, .unset, .unset, .unset, .unset]) at_167 rfl rfl ?_
        exact J387 (0 : Int32) (Or.inr ⟨rfl, fun e => c670 (hq21.mp e).1⟩)
      · skip
        refine own_iload C (pc' := 157) at_155 rfl rfl ?_
        refine own_iload C (pc' := 159) at_157 rfl rfl ?_
        refine own_ii_ne C (pc1 := 166) (pc2 := 162) at_159 rfl rfl (fun c671 => ?_) (fun c671 => ?_)
        · skip
          refine own_iconst C (pc' := 167) (v := (0 : Int32)) at_166 rfl (by decide) ?_
          refine own_istore C (pc' := 169) (Ls' := #[.val (.int p0), .val (.int p1), .val (.int p2), .val (.int p3), .val (.int p4), .val (.int x296), .val (.int (0 : Int32)), .val (.int (0 : Int32)), .val (.int x306), .val (.int x313), .val (.int x320), .val (.int x327), .val (.int x334), .val (.int x341), .val (.ref a346), .val (.int (0 : Int32)), .val (.int (0 : Int32)), .val (.int (1 : Int32)), .val (.int (0 : Int32)), .unset, .unset, .unset, .unset, .unset, .unset, .unset, .unset, .unset]) at_167 rfl rfl ?_
          exact J387 (0 : Int32) (Or.inr ⟨rfl, fun e => c671 (hq21.mp e).2⟩)
        · skip
          refine own_iconst C (pc' := 163) (v := (1 : Int32)) at_162 rfl (by decide) ?_
          refine own_goto C (pc' := 167) at_163 rfl ?_
          refine own_istore C (pc' := 169) (Ls' := #[.val (.int p0), .val (.int p1), .val (.int p2), .val (.int p3), .val (.int p4), .val (.int x296), .val (.int (0 : Int32)), .val (.int (0 : Int32)), .val (.int x306), .val (.int x313), .val (.int x320), .val (.int x327), .val (.int x334), .val (.int x341), .val (.ref a346), .val (.int (0 : Int32)), .val (.int (0 : Int32)), .val (.int (1 : Int32)), .val (.int (1 : Int32)), .unset, .unset, .unset, .unset, .unset, .unset, .unset, .unset, .unset]) at_167 rfl rfl ?_
          exact J387 (1 : Int32) (Or.inl ⟨rfl, hq21.mpr ⟨c670, c671⟩⟩)
  · skip
    refine own_iconst C (pc' := 14) (v := (1 : Int32)) at_13 rfl (by decide) ?_
    refine own_goto C (pc' := 18) at_14 rfl ?_
    refine own_istore C (pc' := 20) (Ls' := #[.val (.int p0), .val (.int p1), .val (.int p2), .val (.int p3), .val (.int p4), .val (.int x296), .val (.int (1 : Int32)), .unset, .unset, .unset, .unset, .unset, .unset, .unset, .unset, .unset, .unset, .unset, .unset, .unset, .unset, .unset, .unset, .unset, .unset, .unset, .unset, .unset]) at_18 rfl rfl ?_
    refine own_iload C (pc' := 22) at_20 rfl rfl ?_
    refine own_i0_eq C (pc1 := 35) (pc2 := 25) at_22 rfl rfl (fun c672 => absurd c672 (by decide)) (fun c672 => ?_)
    refine own_iconst C (pc' := 26) (v := (1 : Int32)) at_25 rfl (by decide) ?_
    refine own_iloadN C (pc' := 27) at_26 rfl rfl ?_
    refine own_iconst C (pc' := 28) (v := (3 : Int32)) at_27 rfl (by decide) ?_
    refine own_iushr C (pc' := 29) at_28 rfl ?_
    refine own_iconst C (pc' := 30) (v := (3 : Int32)) at_29 rfl (by decide) ?_
    refine own_iand C (pc' := 31) at_30 rfl ?_
    refine own_iadd C (pc' := 32) at_31 rfl ?_
    refine own_goto C (pc' := 36) at_32 rfl ?_
    refine own_istore C (pc' := 38) (Ls' := #[.val (.int p0), .val (.int p1), .val (.int p2), .val (.int p3), .val (.int p4), .val (.int x296), .val (.int (1 : Int32)), .val (.int ((1 : Int32) + ((Jvm.Free.XT.ushr p0 (3 : Int32)) &&& (3 : Int32)))), .unset, .unset, .unset, .unset, .unset, .unset, .unset, .unset, .unset, .unset, .unset, .unset, .unset, .unset, .unset, .unset, .unset, .unset, .unset, .unset]) at_36 rfl rfl ?_
    obtain ⟨hw0, hw1⟩ := own_win p0
    generalize ((1 : Int32) + ((Jvm.Free.XT.ushr p0 (3 : Int32)) &&& (3 : Int32))) = x673 at hw0 hw1 ⊢
    show own_Run p_ l e_ _ s_ m_ _ b_ mt_ c_ n0 _ h _ _ (mkF m_ 38 #[.val (.int p0), .val (.int p1), .val (.int p2), .val (.int p3), .val (.int p4), .val (.int x296), .val (.int (1 : Int32)), .val (.int x673), .unset, .unset, .unset, .unset, .unset, .unset, .unset, .unset, .unset, .unset, .unset, .unset, .unset, .unset, .unset, .unset, .unset, .unset, .unset, .unset] [])
    refine own_iloadN C (pc' := 39) at_38 rfl rfl ?_
    refine own_iload C (pc' := 41) at_39 rfl rfl ?_
    refine own_callS C (pc' := 44) (y := (⟨"com/example/words_to_weights/wordstoweights/model/PairCounterAddOrderedPinLaw", "fst", "(II)I"⟩ : MethodName)) (argsL := [(.int p1), (.int x296)]) (rest := []) 0 (hw _ (List.mem_of_getElem? (i := 0) rfl)) (hw _ (List.mem_of_getElem? (i := 1) rfl)) (hw _ (List.mem_of_getElem? (i := 2) rfl)) (hw _ (List.mem_of_getElem? (i := 3) rfl)) (by decide) (own_m1 hw p1 x296   (own_nz hN300 b298)) (by decide) (by decide) (lenOf own_pd2 rfl) rfl (Nat.le_of_eq rfl) at_41 rfl rfl (by decide) (by decide) (fun v674 h675 hq676 => ?_)
    obtain ⟨rfl, rfl⟩ := hq676
    show own_Run p_ l e_ _ s_ m_ _ b_ mt_ c_ n0 _ h _ _ (mkF m_ 44 #[.val (.int p0), .val (.int p1), .val (.int p2), .val (.int p3), .val (.int p4), .val (.int x296), .val (.int (1 : Int32)), .val (.int x673), .unset, .unset, .unset, .unset, .unset, .unset, .unset, .unset, .unset, .unset, .unset, .unset, .unset, .unset, .unset, .unset, .unset, .unset, .unset, .unset] [(.int ((p1 &&& (255 : Int32)) % x296))])
    refine own_istore C (pc' := 46) (Ls' := #[.val (.int p0), .val (.int p1), .val (.int p2), .val (.int p3), .val (.int p4), .val (.int x296), .val (.int (1 : Int32)), .val (.int x673), .val (.int ((p1 &&& (255 : Int32)) % x296)), .unset, .unset, .unset, .unset, .unset, .unset, .unset, .unset, .unset, .unset, .unset, .unset, .unset, .unset, .unset, .unset, .unset, .unset, .unset]) at_44 rfl rfl ?_
    obtain ⟨A678, b679, hA680⟩ := own_fs p1 _ hN300 b298
    generalize ((p1 &&& (255 : Int32)) % x296) = x677 at hA680 ⊢
    show own_Run p_ l e_ _ s_ m_ _ b_ mt_ c_ n0 _ h _ _ (mkF m_ 46 #[.val (.int p0), .val (.int p1), .val (.int p2), .val (.int p3), .val (.int p4), .val (.int x296), .val (.int (1 : Int32)), .val (.int x673), .val (.int x677), .unset, .unset, .unset, .unset, .unset, .unset, .unset, .unset, .unset, .unset, .unset, .unset, .unset, .unset, .unset, .unset, .unset, .unset, .unset] [])
    refine own_iloadN C (pc' := 47) at_46 rfl rfl ?_
    refine own_iload C (pc' := 49) at_47 rfl rfl ?_
    refine own_callS C (pc' := 52) (y := (⟨"com/example/words_to_weights/wordstoweights/model/PairCounterAddOrderedPinLaw", "snd", "(II)I"⟩ : MethodName)) (argsL := [(.int p1), (.int x296)]) (rest := []) 0 (hw _ (List.mem_of_getElem? (i := 4) rfl)) (hw _ (List.mem_of_getElem? (i := 5) rfl)) (hw _ (List.mem_of_getElem? (i := 2) rfl)) (hw _ (List.mem_of_getElem? (i := 6) rfl)) (by decide) (own_m2 hw p1 x296   (own_nz hN300 b298)) (by decide) (by decide) (lenOf own_pd2 rfl) rfl (Nat.le_of_eq rfl) at_49 rfl rfl (by decide) (by decide) (fun v681 h682 hq683 => ?_)
    obtain ⟨rfl, rfl⟩ := hq683
    show own_Run p_ l e_ _ s_ m_ _ b_ mt_ c_ n0 _ h _ _ (mkF m_ 52 #[.val (.int p0), .val (.int p1), .val (.int p2), .val (.int p3), .val (.int p4), .val (.int x296), .val (.int (1 : Int32)), .val (.int x673), .val (.int x677), .unset, .unset, .unset, .unset, .unset, .unset, .unset, .unset, .unset, .unset, .unset, .unset, .unset, .unset, .unset, .unset, .unset, .unset, .unset] [(.int (((Jvm.Free.XT.ushr p1 (8 : Int32)) &&& (255 : Int32)) % x296))])
    refine own_istore C (pc' := 54) (Ls' := #[.val (.int p0), .val (.int p1), .val (.int p2), .val (.int p3), .val (.int p4), .val (.int x296), .val (.int (1 : Int32)), .val (.int x673), .val (.int x677), .val (.int (((Jvm.Free.XT.ushr p1 (8 : Int32)) &&& (255 : Int32)) % x296)), .unset, .unset, .unset, .unset, .unset, .unset, .unset, .unset, .unset, .unset, .unset, .unset, .unset, .unset, .unset, .unset, .unset, .unset]) at_52 rfl rfl ?_
    obtain ⟨A685, b686, hA687⟩ := own_fs (Jvm.Free.XT.ushr p1 (8 : Int32)) _ hN300 b298
    generalize (((Jvm.Free.XT.ushr p1 (8 : Int32)) &&& (255 : Int32)) % x296) = x684 at hA687 ⊢
    show own_Run p_ l e_ _ s_ m_ _ b_ mt_ c_ n0 _ h _ _ (mkF m_ 54 #[.val (.int p0), .val (.int p1), .val (.int p2), .val (.int p3), .val (.int p4), .val (.int x296), .val (.int (1 : Int32)), .val (.int x673), .val (.int x677), .val (.int x684), .unset, .unset, .unset, .unset, .unset, .unset, .unset, .unset, .unset, .unset, .unset, .unset, .unset, .unset, .unset, .unset, .unset, .unset] [])
    refine own_iloadN C (pc' := 55) at_54 rfl rfl ?_
    refine own_iload C (pc' := 57) at_55 rfl rfl ?_
    refine own_callS C (pc' := 60) (y := (⟨"com/example/words_to_weights/wordstoweights/model/PairCounterAddOrderedPinLaw", "fst", "(II)I"⟩ : MethodName)) (argsL := [(.int p2), (.int x296)]) (rest := []) 0 (hw _ (List.mem_of_getElem? (i := 0) rfl)) (hw _ (List.mem_of_getElem? (i := 1) rfl)) (hw _ (List.mem_of_getElem? (i := 2) rfl)) (hw _ (List.mem_of_getElem? (i := 3) rfl)) (by decide) (own_m1 hw p2 x296   (own_nz hN300 b298)) (by decide) (by decide) (lenOf own_pd2 rfl) rfl (Nat.le_of_eq rfl) at_57 rfl rfl (by decide) (by decide) (fun v688 h689 hq690 => ?_)
    obtain ⟨rfl, rfl⟩ := hq690
    show own_Run p_ l e_ _ s_ m_ _ b_ mt_ c_ n0 _ h _ _ (mkF m_ 60 #[.val (.int p0), .val (.int p1), .val (.int p2), .val (.int p3), .val (.int p4), .val (.int x296), .val (.int (1 : Int32)), .val (.int x673), .val (.int x677), .val (.int x684), .unset, .unset, .unset, .unset, .unset, .unset, .unset, .unset, .unset, .unset, .unset, .unset, .unset, .unset, .unset, .unset, .unset, .unset] [(.int ((p2 &&& (255 : Int32)) % x296))])
    refine own_istore C (pc' := 62) (Ls' := #[.val (.int p0), .val (.int p1), .val (.int p2), .val (.int p3), .val (.int p4), .val (.int x296), .val (.int (1 : Int32)), .val (.int x673), .val (.int x677), .val (.int x684), .val (.int ((p2 &&& (255 : Int32)) % x296)), .unset, .unset, .unset, .unset, .unset, .unset, .unset, .unset, .unset, .unset, .unset, .unset, .unset, .unset, .unset, .unset, .unset]) at_60 rfl rfl ?_
    obtain ⟨A692, b693, hA694⟩ := own_fs p2 _ hN300 b298
    generalize ((p2 &&& (255 : Int32)) % x296) = x691 at hA694 ⊢
    show own_Run p_ l e_ _ s_ m_ _ b_ mt_ c_ n0 _ h _ _ (mkF m_ 62 #[.val (.int p0), .val (.int p1), .val (.int p2), .val (.int p3), .val (.int p4), .val (.int x296), .val (.int (1 : Int32)), .val (.int x673), .val (.int x677), .val (.int x684), .val (.int x691), .unset, .unset, .unset, .unset, .unset, .unset, .unset, .unset, .unset, .unset, .unset, .unset, .unset, .unset, .unset, .unset, .unset] [])
    refine own_iloadN C (pc' := 63) at_62 rfl rfl ?_
    refine own_iload C (pc' := 65) at_63 rfl rfl ?_
    refine own_callS C (pc' := 68) (y := (⟨"com/example/words_to_weights/wordstoweights/model/PairCounterAddOrderedPinLaw", "snd", "(II)I"⟩ : MethodName)) (argsL := [(.int p2), (.int x296)]) (rest := []) 0 (hw _ (List.mem_of_getElem? (i := 4) rfl)) (hw _ (List.mem_of_getElem? (i := 5) rfl)) (hw _ (List.mem_of_getElem? (i := 2) rfl)) (hw _ (List.mem_of_getElem? (i := 6) rfl)) (by decide) (own_m2 hw p2 x296   (own_nz hN300 b298)) (by decide) (by decide) (lenOf own_pd2 rfl) rfl (Nat.le_of_eq rfl) at_65 rfl rfl (by decide) (by decide) (fun v695 h696 hq697 => ?_)
    obtain ⟨rfl, rfl⟩ := hq697
    show own_Run p_ l e_ _ s_ m_ _ b_ mt_ c_ n0 _ h _ _ (mkF m_ 68 #[.val (.int p0), .val (.int p1), .val (.int p2), .val (.int p3), .val (.int p4), .val (.int x296), .val (.int (1 : Int32)), .val (.int x673), .val (.int x677), .val (.int x684), .val (.int x691), .unset, .unset, .unset, .unset, .unset, .unset, .unset, .unset, .unset, .unset, .unset, .unset, .unset, .unset, .unset, .unset, .unset] [(.int (((Jvm.Free.XT.ushr p2 (8 : Int32)) &&& (255 : Int32)) % x296))])
    refine own_istore C (pc' := 70) (Ls' := #[.val (.int p0), .val (.int p1), .val (.int p2), .val (.int p3), .val (.int p4), .val (.int x296), .val (.int (1 : Int32)), .val (.int x673), .val (.int x677), .val (.int x684), .val (.int x691), .val (.int (((Jvm.Free.XT.ushr p2 (8 : Int32)) &&& (255 : Int32)) % x296)), .unset, .unset, .unset, .unset, .unset, .unset, .unset, .unset, .unset, .unset, .unset, .unset, .unset, .unset, .unset, .unset]) at_68 rfl rfl ?_
    obtain ⟨A699, b700, hA701⟩ := own_fs (Jvm.Free.XT.ushr p2 (8 : Int32)) _ hN300 b298
    generalize (((Jvm.Free.XT.ushr p2 (8 : Int32)) &&& (255 : Int32)) % x296) = x698 at hA701 ⊢
    show own_Run p_ l e_ _ s_ m_ _ b_ mt_ c_ n0 _ h _ _ (mkF m_ 70 #[.val (.int p0), .val (.int p1), .val (.int p2), .val (.int p3), .val (.int p4), .val (.int x296), .val (.int (1 : Int32)), .val (.int x673), .val (.int x677), .val (.int x684), .val (.int x691), .val (.int x698), .unset, .unset, .unset, .unset, .unset, .unset, .unset, .unset, .unset, .unset, .unset, .unset, .unset, .unset, .unset, .unset] [])
    refine own_iloadN C (pc' := 71) at_70 rfl rfl ?_
    refine own_iload C (pc' := 73) at_71 rfl rfl ?_
    refine own_callS C (pc' := 76) (y := (⟨"com/example/words_to_weights/wordstoweights/model/PairCounterAddOrderedPinLaw", "fst", "(II)I"⟩ : MethodName)) (argsL := [(.int p3), (.int x296)]) (rest := []) 0 (hw _ (List.mem_of_getElem? (i := 0) rfl)) (hw _ (List.mem_of_getElem? (i := 1) rfl)) (hw _ (List.mem_of_getElem? (i := 2) rfl)) (hw _ (List.mem_of_getElem? (i := 3) rfl)) (by decide) (own_m1 hw p3 x296   (own_nz hN300 b298)) (by decide) (by decide) (lenOf own_pd2 rfl) rfl (Nat.le_of_eq rfl) at_73 rfl rfl (by decide) (by decide) (fun v702 h703 hq704 => ?_)
    obtain ⟨rfl, rfl⟩ := hq704
    show own_Run p_ l e_ _ s_ m_ _ b_ mt_ c_ n0 _ h _ _ (mkF m_ 76 #[.val (.int p0), .val (.int p1), .val (.int p2), .val (.int p3), .val (.int p4), .val (.int x296), .val (.int (1 : Int32)), .val (.int x673), .val (.int x677), .val (.int x684), .val (.int x691), .val (.int x698), .unset, .unset, .unset, .unset, .unset, .unset, .unset, .unset, .unset, .unset, .unset, .unset, .unset, .unset, .unset, .unset] [(.int ((p3 &&& (255 : Int32)) % x296))])
    refine own_istore C (pc' := 78) (Ls' := #[.val (.int p0), .val (.int p1), .val (.int p2), .val (.int p3), .val (.int p4), .val (.int x296), .val (.int (1 : Int32)), .val (.int x673), .val (.int x677), .val (.int x684), .val (.int x691), .val (.int x698), .val (.int ((p3 &&& (255 : Int32)) % x296)), .unset, .unset, .unset, .unset, .unset, .unset, .unset, .unset, .unset, .unset, .unset, .unset, .unset, .unset, .unset]) at_76 rfl rfl ?_
    obtain ⟨A706, b707, hA708⟩ := own_fs p3 _ hN300 b298
    generalize ((p3 &&& (255 : Int32)) % x296) = x705 at hA708 ⊢
    show own_Run p_ l e_ _ s_ m_ _ b_ mt_ c_ n0 _ h _ _ (mkF m_ 78 #[.val (.int p0), .val (.int p1), .val (.int p2), .val (.int p3), .val (.int p4), .val (.int x296), .val (.int (1 : Int32)), .val (.int x673), .val (.int x677), .val (.int x684), .val (.int x691), .val (.int x698), .val (.int x705), .unset, .unset, .unset, .unset, .unset, .unset, .unset, .unset, .unset, .unset, .unset, .unset, .unset, .unset, .unset] [])
    refine own_iloadN C (pc' := 79) at_78 rfl rfl ?_
    refine own_iload C (pc' := 81) at_79 rfl rfl ?_
    refine own_callS C (pc' := 84) (y := (⟨"com/example/words_to_weights/wordstoweights/model/PairCounterAddOrderedPinLaw", "snd", "(II)I"⟩ : MethodName)) (argsL := [(.int p3), (.int x296)]) (rest := []) 0 (hw _ (List.mem_of_getElem? (i := 4) rfl)) (hw _ (List.mem_of_getElem? (i := 5) rfl)) (hw _ (List.mem_of_getElem? (i := 2) rfl)) (hw _ (List.mem_of_getElem? (i := 6) rfl)) (by decide) (own_m2 hw p3 x296   (own_nz hN300 b298)) (by decide) (by decide) (lenOf own_pd2 rfl) rfl (Nat.le_of_eq rfl) at_81 rfl rfl (by decide) (by decide) (fun v709 h710 hq711 => ?_)
    obtain ⟨rfl, rfl⟩ := hq711
    show own_Run p_ l e_ _ s_ m_ _ b_ mt_ c_ n0 _ h _ _ (mkF m_ 84 #[.val (.int p0), .val (.int p1), .val (.int p2), .val (.int p3), .val (.int p4), .val (.int x296), .val (.int (1 : Int32)), .val (.int x673), .val (.int x677), .val (.int x684), .val (.int x691), .val (.int x698), .val (.int x705), .unset, .unset, .unset, .unset, .unset, .unset, .unset, .unset, .unset, .unset, .unset, .unset, .unset, .unset, .unset] [(.int (((Jvm.Free.XT.ushr p3 (8 : Int32)) &&& (255 : Int32)) % x296))])
    refine own_istore C (pc' := 86) (Ls' := #[.val (.int p0), .val (.int p1), .val (.int p2), .val (.int p3), .val (.int p4), .val (.int x296), .val (.int (1 : Int32)), .val (.int x673), .val (.int x677), .val (.int x684), .val (.int x691), .val (.int x698), .val (.int x705), .val (.int (((Jvm.Free.XT.ushr p3 (8 : Int32)) &&& (255 : Int32)) % x296)), .unset, .unset, .unset, .unset, .unset, .unset, .unset, .unset, .unset, .unset, .unset, .unset, .unset, .unset]) at_84 rfl rfl ?_
    obtain ⟨A713, b714, hA715⟩ := own_fs (Jvm.Free.XT.ushr p3 (8 : Int32)) _ hN300 b298
    generalize (((Jvm.Free.XT.ushr p3 (8 : Int32)) &&& (255 : Int32)) % x296) = x712 at hA715 ⊢
    show own_Run p_ l e_ _ s_ m_ _ b_ mt_ c_ n0 _ h _ _ (mkF m_ 86 #[.val (.int p0), .val (.int p1), .val (.int p2), .val (.int p3), .val (.int p4), .val (.int x296), .val (.int (1 : Int32)), .val (.int x673), .val (.int x677), .val (.int x684), .val (.int x691), .val (.int x698), .val (.int x705), .val (.int x712), .unset, .unset, .unset, .unset, .unset, .unset, .unset, .unset, .unset, .unset, .unset, .unset, .unset, .unset] [])
    obtain ⟨I1, hbI1, heI1, hiI1⟩ := own_ix hA680 hN300 hA687 b679 b686 b299
    rw [← hMe] at hbI1
    obtain ⟨I2, hbI2, heI2, hiI2⟩ := own_ix hA694 hN300 hA701 b693 b700 b299
    rw [← hMe] at hbI2
    obtain ⟨I3, hbI3, heI3, hiI3⟩ := own_ix hA708 hN300 hA715 b707 b714 b299
    rw [← hMe] at hbI3
    have hq21 := own_ixi heI2 heI1 b700 b686
    rw [← own_inj hA694 hA680, ← own_inj hA701 hA687] at hq21
    have hq31 := own_ixi heI3 heI1 b714 b686
    rw [← own_inj hA708 hA680, ← own_inj hA715 hA687] at hq31
    have hq32 := own_ixi heI3 heI2 b714 b700
    rw [← own_inj hA708 hA694, ← own_inj hA715 hA701] at hq32
    refine own_new C (pc' := 89) (hw _ (List.mem_of_getElem? (i := 7) rfl)) (hw _ (List.mem_of_getElem? (i := 8) rfl)) (hw _ (List.mem_of_getElem? (i := 9) rfl)) Z0 at_86 rfl (by decide) (by decide) (fun h716 a717 ea718 ga719 Z720 E721 A722 D723 => ?_)
    have F724 : Fld Z h716 a717 "com/example/words_to_weights/wordstoweights/model/PairCounter" "terms" "I" (.int (0 : Int32)) := D723 (Or.inr (hw _ (List.mem_of_getElem? (i := 17) rfl))) (ty := .int) (by decide)
    have F725 : Fld Z h716 a717 "com/example/words_to_weights/wordstoweights/model/PairCounter" "window" "I" (.int (0 : Int32)) := D723 (Or.inr (hw _ (List.mem_of_getElem? (i := 19) rfl))) (ty := .int) (by decide)
    have F726 : Fld Z h716 a717 "com/example/words_to_weights/wordstoweights/model/PairCounter" "orderedSlots" "[I" .null := D723 (Or.inr (hw _ (List.mem_of_getElem? (i := 22) rfl))) (ty := (.array .int)) (by decide)
    have F727 : Fld Z h716 a717 "com/example/words_to_weights/wordstoweights/model/PairCounter" "windowSlots" "[I" .null := D723 (Or.inr (hw _ (List.mem_of_getElem? (i := 24) rfl))) (ty := (.array .int)) (by decide)
    have F728 : Fld Z h716 a717 "com/example/words_to_weights/wordstoweights/model/PairCounter" "slots" "I" (.int (0 : Int32)) := D723 (Or.inl (hw _ (List.mem_of_getElem? (i := 39) rfl))) (ty := .int) (by decide)
    refine own_dup C (pc' := 90) at_89 rfl rfl ?_
    refine own_iload C (pc' := 92) at_90 rfl rfl ?_
    refine own_iload C (pc' := 94) at_92 rfl rfl ?_
    refine own_callN C (pc' := 97) (y := (⟨"com/example/words_to_weights/wordstoweights/model/PairCounter", "<init>", "(II)V"⟩ : MethodName)) (a := a717) (argsL := [(.int x296), (.int x673)]) (rest := [(.ref a717)]) 1 rfl (hw _ (List.mem_of_getElem? (i := 10) rfl)) (hw _ (List.mem_of_getElem? (i := 11) rfl)) (hw _ (List.mem_of_getElem? (i := 12) rfl)) (hw _ (List.mem_of_getElem? (i := 9) rfl)) (by decide) (own_initw hw a717 x296 M x673 Z720 A722 ga719 F724 F725 F726 F727 F728 hMi hM16 hw0) (by decide) (by decide) (lenOf own_pd3 rfl) rfl (Nat.le_of_eq rfl) at_94 rfl rfl (by decide) (by decide) (fun v729 h730 hq731 => ?_)
    obtain ⟨a732, a733, rfl, K734, ⟨ga735, gk736⟩, ⟨ga737, gk738⟩, F739, F740, F741, F742, F743, F744, F745, F746, F747, F748, F749⟩ := hq731
    have ne750 : a717 ≠ a732 := Nat.ne_of_lt (Nat.lt_of_lt_of_le (Exa.lt A722) gk736)
    have ne751 : a717 ≠ a733 := Nat.ne_of_lt (Nat.lt_of_lt_of_le (Exa.lt A722) gk738)
    have Z753 : n0 ≤ h730.size := Nat.le_trans Z720 K734.1
    have F754 : Exa Z h730 a717 "com/example/words_to_weights/wordstoweights/model/PairCounter" := Exa.keep A722 K734
    show own_Run p_ l e_ _ s_ m_ _ b_ mt_ c_ n0 _ h730 _ _ (mkF m_ 97 #[.val (.int p0), .val (.int p1), .val (.int p2), .val (.int p3), .val (.int p4), .val (.int x296), .val (.int (1 : Int32)), .val (.int x673), .val (.int x677), .val (.int x684), .val (.int x691), .val (.int x698), .val (.int x705), .val (.int x712), .unset, .unset, .unset, .unset, .unset, .unset, .unset, .unset, .unset, .unset, .unset, .unset, .unset, .unset] [(.ref a717)])
    refine own_astore C (pc' := 99) (Ls' := #[.val (.int p0), .val (.int p1), .val (.int p2), .val (.int p3), .val (.int p4), .val (.int x296), .val (.int (1 : Int32)), .val (.int x673), .val (.int x677), .val (.int x684), .val (.int x691), .val (.int x698), .val (.int x705), .val (.int x712), .val (.ref a717), .unset, .unset, .unset, .unset, .unset, .unset, .unset, .unset, .unset, .unset, .unset, .unset, .unset]) at_97 rfl rfl rfl ?_
    refine own_iconst C (pc' := 100) (v := (0 : Int32)) at_99 rfl (by decide) ?_
    refine own_istore C (pc' := 102) (Ls' := #[.val (.int p0), .val (.int p1), .val (.int p2), .val (.int p3), .val (.int p4), .val (.int x296), .val (.int (1 : Int32)), .val (.int x673), .val (.int x677), .val (.int x684), .val (.int x691), .val (.int x698), .val (.int x705), .val (.int x712), .val (.ref a717), .val (.int (0 : Int32)), .unset, .unset, .unset, .unset, .unset, .unset, .unset, .unset, .unset, .unset, .unset, .unset]) at_100 rfl rfl ?_
    refine own_iload C (pc' := 104) at_102 rfl rfl ?_
    refine own_i0_eq C (pc1 := 138) (pc2 := 107) at_104 rfl rfl (fun c755 => absurd c755 (by decide)) (fun c755 => ?_)
    refine own_aload C (pc' := 109) at_107 rfl rfl rfl ?_
    refine own_iload C (pc' := 111) at_109 rfl rfl ?_
    refine own_iload C (pc' := 113) at_111 rfl rfl ?_
    refine own_callS C (pc' := 116) (y := (⟨"com/example/words_to_weights/wordstoweights/model/PairCounterAddOrderedPinLaw", "fst", "(II)I"⟩ : MethodName)) (argsL := [(.int p4), (.int x296)]) (rest := [(.ref a717)]) 1 (hw _ (List.mem_of_getElem? (i := 0) rfl)) (hw _ (List.mem_of_getElem? (i := 1) rfl)) (hw _ (List.mem_of_getElem? (i := 2) rfl)) (hw _ (List.mem_of_getElem? (i := 3) rfl)) (by decide) (own_m1 hw p4 x296   (own_nz hN300 b298)) (by decide) (by decide) (lenOf own_pd2 rfl) rfl (Nat.le_of_eq rfl) at_113 rfl rfl (by decide) (by decide) (fun v756 h757 hq758 => ?_)
    obtain ⟨rfl, rfl⟩ := hq758
    show own_Run p_ l e_ _ s_ m_ _ b_ mt_ c_ n0 _ h730 _ _ (mkF m_ 116 #[.val (.int p0), .val (.int p1), .val (.int p2), .val (.int p3), .val (.int p4), .val (.int x296), .val (.int (1 : Int32)), .val (.int x673), .val (.int x677), .val (.int x684), .val (.int x691), .val (.int x698), .val (.int x705), .val (.int x712), .val (.ref a717), .val (.int (0 : Int32)), .unset, .unset, .unset, .unset, .unset, .unset, .unset, .unset, .unset, .unset, .unset, .unset] [(.int ((p4 &&& (255 : Int32)) % x296)), (.ref a717)])
    refine own_iload C (pc' := 118) at_116 rfl rfl ?_
    refine own_iload C (pc' := 120) at_118 rfl rfl ?_
    refine own_callS C (pc' := 123) (y := (⟨"com/example/words_to_weights/wordstoweights/model/PairCounterAddOrderedPinLaw", "snd", "(II)I"⟩ : MethodName)) (argsL := [(.int p4), (.int x296)]) (rest := [(.int ((p4 &&& (255 : Int32)) % x296)), (.ref a717)]) 2 (hw _ (List.mem_of_getElem? (i := 4) rfl)) (hw _ (List.mem_of_getElem? (i := 5) rfl)) (hw _ (List.mem_of_getElem? (i := 2) rfl)) (hw _ (List.mem_of_getElem? (i := 6) rfl)) (by decide) (own_m2 hw p4 x296   (own_nz hN300 b298)) (by decide) (by decide) (lenOf own_pd2 rfl) rfl (Nat.le_of_eq rfl) at_120 rfl rfl (by decide) (by decide) (fun v759 h760 hq761 => ?_)
    obtain ⟨rfl, rfl⟩ := hq761
    show own_Run p_ l e_ _ s_ m_ _ b_ mt_ c_ n0 _ h730 _ _ (mkF m_ 123 #[.val (.int p0), .val (.int p1), .val (.int p2), .val (.int p3), .val (.int p4), .val (.int x296), .val (.int (1 : Int32)), .val (.int x673), .val (.int x677), .val (.int x684), .val (.int x691), .val (.int x698), .val (.int x705), .val (.int x712), .val (.ref a717), .val (.int (0 : Int32)), .unset, .unset, .unset, .unset, .unset, .unset, .unset, .unset, .unset, .unset, .unset, .unset] [(.int (((Jvm.Free.XT.ushr p4 (8 : Int32)) &&& (255 : Int32)) % x296)), (.int ((p4 &&& (255 : Int32)) % x296)), (.ref a717)])
    obtain ⟨YA, hYA, hYa⟩ := own_fs p4 _ hN300 b298
    obtain ⟨YB, hYB, hYb⟩ := own_fs (Jvm.Free.XT.ushr p4 (8 : Int32)) _ hN300 b298
    generalize ((p4 &&& (255 : Int32)) % x296) = x762 at hYa ⊢
    generalize (((Jvm.Free.XT.ushr p4 (8 : Int32)) &&& (255 : Int32)) % x296) = x763 at hYb ⊢
    show own_Run p_ l e_ _ s_ m_ _ b_ mt_ c_ n0 _ h730 _ _ (mkF m_ 123 #[.val (.int p0), .val (.int p1), .val (.int p2), .val (.int p3), .val (.int p4), .val (.int x296), .val (.int (1 : Int32)), .val (.int x673), .val (.int x677), .val (.int x684), .val (.int x691), .val (.int x698), .val (.int x705), .val (.int x712), .val (.ref a717), .val (.int (0 : Int32)), .unset, .unset, .unset, .unset, .unset, .unset, .unset, .unset, .unset, .unset, .unset, .unset] [(.int x763), (.int x762), (.ref a717)])
    obtain ⟨J1, hbJ1, -, hiJ1⟩ := own_ix hYa hN300 hYb hYA hYB b299
    obtain ⟨J2, hbJ2, -, hiJ2⟩ := own_ix hYb hN300 hYa hYB hYA b299
    rw [← hMe] at hbJ1 hbJ2
    refine own_callV C (pc' := 126) (y := (⟨"com/example/words_to_weights/wordstoweights/model/PairCounter", "addWindow", "(II)I"⟩ : MethodName)) (a := a717) (argsL := [(.int x762), (.int x763)]) (rest := []) 0 F739 (hw _ (List.mem_of_getElem? (i := 45) rfl)) (hw _ (List.mem_of_getElem? (i := 46) rfl)) (hw _ (List.mem_of_getElem? (i := 48) rfl)) (hw _ (List.mem_of_getElem? (i := 47) rfl)) (hw _ (List.mem_of_getElem? (i := 49) rfl)) (hw _ (List.mem_of_getElem? (i := 9) rfl)) (by decide) (own_addW hw a717 M (fun _ => (-1 : Int32)) (0 : Int32) x762 x763 J1 x296 x673 a732 a733 J2 (1 : Int32) Z753 F739 ga719 ga737 ne751 F740 F741 F742 F743 F744 F746 hiJ1 hbJ1 hiJ2 hbJ2 (by simp [own_upd]) (by decide) hw1) (by decide) (by decide) (lenOf own_pd2 rfl) rfl (Nat.le_of_eq rfl) at_123 rfl rfl (by decide) (by decide) (fun v764 h765 hq766 => ?_)
    obtain ⟨rfl, K767, F768, F769, F770, F771, F772, F773, F774⟩ := hq766
    have Z776 : n0 ≤ h765.size := Nat.le_trans Z753 K767.1
    have F777 : Exa Z h765 a717 "com/example/words_to_weights/wordstoweights/model/PairCounter" := Exa.keep F739 K767
    have F778 : own_AI Z h765 a732 M (fun _ => (-1 : Int32)) := own_A.keep F745 K767 (ninS (Ne.symm ne750) (ninS F749 nin0))
    show own_Run p_ l e_ _ s_ m_ _ b_ mt_ c_ n0 _ h765 _ _ (mkF m_ 126 #[.val (.int p0), .val (.int p1), .val (.int p2), .val (.int p3), .val (.int p4), .val (.int x296), .val (.int (1 : Int32)), .val (.int x673), .val (.int x677), .val (.int x684), .val (.int x691), .val (.int x698), .val (.int x705), .val (.int x712), .val (.ref a717), .val (.int (0 : Int32)), .unset, .unset, .unset, .unset, .unset, .unset, .unset, .unset, .unset, .unset, .unset, .unset] [(.int (0 : Int32))])
    refine own_istore C (pc' := 128) (Ls' := #[.val (.int p0), .val (.int p1), .val (.int p2), .val (.int p3), .val (.int p4), .val (.int x296), .val (.int (1 : Int32)), .val (.int x673), .val (.int x677), .val (.int x684), .val (.int x691), .val (.int x698), .val (.int x705), .val (.int x712), .val (.ref a717), .val (.int (0 : Int32)), .val (.int (0 : Int32)), .unset, .unset, .unset, .unset, .unset, .unset, .unset, .unset, .unset, .unset, .unset]) at_126 rfl rfl ?_
    refine own_iload C (pc' := 130) at_128 rfl rfl ?_
    refine own_i0_eq C (pc1 := 135) (pc2 := 133) at_130 rfl rfl (fun c779 => ?_) (fun c779 => absurd c779 (by decide))
    refine own_iconst C (pc' := 136) (v := (1 : Int32)) at_135 rfl (by decide) ?_
    refine own_istore C (pc' := 138) (Ls' := #[.val (.int p0), .val (.int p1), .val (.int p2), .val (.int p3), .val (.int p4), .val (.int x296), .val (.int (1 : Int32)), .val (.int x673), .val (.int x677), .val (.int x684), .val (.int x691), .val (.int x698), .val (.int x705), .val (.int x712), .val (.ref a717), .val (.int (1 : Int32)), .val (.int (0 : Int32)), .unset, .unset, .unset, .unset, .unset, .unset, .unset, .unset, .unset, .unset, .unset]) at_136 rfl rfl ?_
    refine own_iload C (pc' := 140) at_138 rfl rfl ?_
    refine own_istore C (pc' := 142) (Ls' := #[.val (.int p0), .val (.int p1), .val (.int p2), .val (.int p3), .val (.int p4), .val (.int x296), .val (.int (1 : Int32)), .val (.int x673), .val (.int x677), .val (.int x684), .val (.int x691), .val (.int x698), .val (.int x705), .val (.int x712), .val (.ref a717), .val (.int (1 : Int32)), .val (.int (1 : Int32)), .unset, .unset, .unset, .unset, .unset, .unset, .unset, .unset, .unset, .unset, .unset]) at_140 rfl rfl ?_
    refine own_iload C (pc' := 144) at_142 rfl rfl ?_
    refine own_iconst C (pc' := 145) (v := (1 : Int32)) at_144 rfl (by decide) ?_
    refine own_iaddV C (pc' := 146) (v := (2 : Int32)) at_145 rfl (by decide) ?_
    refine own_istore C (pc' := 148) (Ls' := #[.val (.int p0), .val (.int p1), .val (.int p2), .val (.int p3), .val (.int p4), .val (.int x296), .val (.int (1 : Int32)), .val (.int x673), .val (.int x677), .val (.int x684), .val (.int x691), .val (.int x698), .val (.int x705), .val (.int x712), .val (.ref a717), .val (.int (1 : Int32)), .val (.int (1 : Int32)), .val (.int (2 : Int32)), .unset, .unset, .unset, .unset, .unset, .unset, .unset, .unset, .unset, .unset]) at_146 rfl rfl ?_
    refine own_join (fun (z780 : Int32) => (z780 = (1 : Int32) ∧ I2 = I1) ∨ (z780 = (0 : Int32) ∧ I2 ≠ I1)) (fun (z780 : Int32) => (mkF m_ 169 #[.val (.int p0), .val (.int p1), .val (.int p2), .val (.int p3), .val (.int p4), .val (.int x296), .val (.int (1 : Int32)), .val (.int x673), .val (.int x677), .val (.int x684), .val (.int x691), .val (.int x698), .val (.int x705), .val (.int x712), .val (.ref a717), .val (.int (1 : Int32)), .val (.int (1 : Int32)), .val (.int (2 : Int32)), .val (.int z780), .unset, .unset, .unset, .unset, .unset, .unset, .unset, .unset, .unset] [])) (fun z780 hz781 => ?_) (fun J782 => ?_)
    · show own_Run p_ l e_ _ s_ m_ _ b_ mt_ c_ n0 _ h765 _ _ (mkF m_ 169 #[.val (.int p0), .val (.int p1), .val (.int p2), .val (.int p3), .val (.int p4), .val (.int x296), .val (.int (1 : Int32)), .val (.int x673), .val (.int x677), .val (.int x684), .val (.int x691), .val (.int x698), .val (.int x705), .val (.int x712), .val (.ref a717), .val (.int (1 : Int32)), .val (.int (1 : Int32)), .val (.int (2 : Int32)), .val (.int z780), .unset, .unset, .unset, .unset, .unset, .unset, .unset, .unset, .unset] [])
      rcases hz781 with ⟨rfl, h21⟩ | ⟨rfl, h21⟩
      · show own_Run p_ l e_ _ s_ m_ _ b_ mt_ c_ n0 _ h765 _ _ (mkF m_ 169 #[.val (.int p0), .val (.int p1), .val (.int p2), .val (.int p3), .val (.int p4), .val (.int x296), .val (.int (1 : Int32)), .val (.int x673), .val (.int x677), .val (.int x684), .val (.int x691), .val (.int x698), .val (.int x705), .val (.int x712), .val (.ref a717), .val (.int (1 : Int32)), .val (.int (1 : Int32)), .val (.int (2 : Int32)), .val (.int (1 : Int32)), .unset, .unset, .unset, .unset, .unset, .unset, .unset, .unset, .unset] [])
        refine own_iload C (pc' := 171) at_169 rfl rfl ?_
        refine own_i0_eq C (pc1 := 181) (pc2 := 174) at_171 rfl rfl (fun c783 => absurd c783 (by decide)) (fun c783 => ?_)
        refine own_iload C (pc' := 176) at_174 rfl rfl ?_
        refine own_istore C (pc' := 178) (Ls' := #[.val (.int p0), .val (.int p1), .val (.int p2), .val (.int p3), .val (.int p4), .val (.int x296), .val (.int (1 : Int32)), .val (.int x673), .val (.int x677), .val (.int x684), .val (.int x691), .val (.int x698), .val (.int x705), .val (.int x712), .val (.ref a717), .val (.int (1 : Int32)), .val (.int (1 : Int32)), .val (.int (2 : Int32)), .val (.int (1 : Int32)), .val (.int (1 : Int32)), .unset, .unset, .unset, .unset, .unset, .unset, .unset, .unset]) at_176 rfl rfl ?_
        refine own_goto C (pc' := 191) at_178 rfl ?_
        refine own_join2 (fun (z784 : Int32) (y785 : Int32) => (I3 = I1 ∧ z784 = (1 : Int32) ∧ y785 = (2 : Int32)) ∨ (I3 ≠ I1 ∧ True ∧ z784 = (2 : Int32) ∧ y785 = (3 : Int32))) (fun (z784 : Int32) (y785 : Int32) => (mkF m_ 243 #[.val (.int p0), .val (.int p1), .val (.int p2), .val (.int p3), .val (.int p4), .val (.int x296), .val (.int (1 : Int32)), .val (.int x673), .val (.int x677), .val (.int x684), .val (.int x691), .val (.int x698), .val (.int x705), .val (.int x712), .val (.ref a717), .val (.int (1 : Int32)), .val (.int (1 : Int32)), .val (.int y785), .val (.int (1 : Int32)), .val (.int (1 : Int32)), .val (.int z784), .unset, .unset, .unset, .unset, .unset, .unset, .unset] [])) (fun z784 y785 hz786 => ?_) (fun J787 => ?_)
        · show own_Run p_ l e_ _ s_ m_ _ b_ mt_ c_ n0 _ h765 _ _ (mkF m_ 243 #[.val (.int p0), .val (.int p1), .val (.int p2), .val (.int p3), .val (.int p4), .val (.int x296), .val (.int (1 : Int32)), .val (.int x673), .val (.int x677), .val (.int x684), .val (.int x691), .val (.int x698), .val (.int x705), .val (.int x712), .val (.ref a717), .val (.int (1 : Int32)), .val (.int (1 : Int32)), .val (.int y785), .val (.int (1 : Int32)), .val (.int (1 : Int32)), .val (.int z784), .unset, .unset, .unset, .unset, .unset, .unset, .unset] [])
          rcases hz786 with ⟨h31, rfl, rfl⟩ | ⟨h31, h32, rfl, rfl⟩
          · show own_Run p_ l e_ _ s_ m_ _ b_ mt_ c_ n0 _ h765 _ _ (mkF m_ 243 #[.val (.int p0), .val (.int p1), .val (.int p2), .val (.int p3), .val (.int p4), .val (.int x296), .val (.int (1 : Int32)), .val (.int x673), .val (.int x677), .val (.int x684), .val (.int x691), .val (.int x698), .val (.int x705), .val (.int x712), .val (.ref a717), .val (.int (1 : Int32)), .val (.int (1 : Int32)), .val (.int (2 : Int32)), .val (.int (1 : Int32)), .val (.int (1 : Int32)), .val (.int (1 : Int32)), .unset, .unset, .unset, .unset, .unset, .unset, .unset] [])
            refine own_aload C (pc' := 245) at_243 rfl rfl rfl ?_
            refine own_iload C (pc' := 247) at_245 rfl rfl ?_
            refine own_iload C (pc' := 249) at_247 rfl rfl ?_
            refine own_callV C (pc' := 252) (y := (⟨"com/example/words_to_weights/wordstoweights/model/PairCounter", "addOrdered", "(II)I"⟩ : MethodName)) (a := a717) (argsL := [(.int x677), (.int x684)]) (rest := []) 0 F768 (hw _ (List.mem_of_getElem? (i := 29) rfl)) (hw _ (List.mem_of_getElem? (i := 30) rfl)) (hw _ (List.mem_of_getElem? (i := 32) rfl)) (hw _ (List.mem_of_getElem? (i := 31) rfl)) (hw _ (List.mem_of_getElem? (i := 33) rfl)) (hw _ (List.mem_of_getElem? (i := 9) rfl)) (by decide) (own_addN hw a717 M (fun _ => (-1 : Int32)) (1 : Int32) x677 x684 I1 x296 x673 a732 a733 (2 : Int32) Z776 F768 ga719 ga735 ne750 F769 F770 F771 F772 F773 F778 hiI1 hbI1 (by simp [own_upd, h21, h31]) (by decide)) (by decide) (by decide) (lenOf own_pd2 rfl) rfl (Nat.le_of_eq rfl) at_249 rfl rfl (by decide) (by decide) (fun v788 h789 hq790 => ?_)
            obtain ⟨rfl, K791, F792, F793, F794, F795, F796, F797, F798⟩ := hq790
            have Z800 : n0 ≤ h789.size := Nat.le_trans Z776 K791.1
            have F801 : Exa Z h789 a717 "com/example/words_to_weights/wordstoweights/model/PairCounter" := Exa.keep F768 K791
            have F802 : own_AI Z h789 a733 M (own_upd (own_upd (fun _ => (-1 : Int32)) J1 (0 : Int32)) J2 (0 : Int32)) := own_A.keep F774 K791 (ninS (Ne.symm ne751) (ninS (Ne.symm F749) nin0))
            show own_Run p_ l e_ _ s_ m_ _ b_ mt_ c_ n0 _ h789 _ _ (mkF m_ 252 #[.val (.int p0), .val (.int p1), .val (.int p2), .val (.int p3), .val (.int p4), .val (.int x296), .val (.int (1 : Int32)), .val (.int x673), .val (.int x677), .val (.int x684), .val (.int x691), .val (.int x698), .val (.int x705), .val (.int x712), .val (.ref a717), .val (.int (1 : Int32)), .val (.int (1 : Int32)), .val (.int (2 : Int32)), .val (.int (1 : Int32)), .val (.int (1 : Int32)), .val (.int (1 : Int32)), .unset, .unset, .unset, .unset, .unset, .unset, .unset] [(.int (1 : Int32))])
            refine own_istore C (pc' := 254) (Ls' := #[.val (.int p0), .val (.int p1), .val (.int p2), .val (.int p3), .val (.int p4), .val (.int x296), .val (.int (1 : Int32)), .val (.int x673), .val (.int x677), .val (.int x684), .val (.int x691), .val (.int x698), .val (.int x705), .val (.int x712), .val (.ref a717), .val (.int (1 : Int32)), .val (.int (1 : Int32)), .val (.int (2 : Int32)), .val (.int (1 : Int32)), .val (.int (1 : Int32)), .val (.int (1 : Int32)), .val (.int (1 : Int32)), .unset, .unset, .unset, .unset, .unset, .unset]) at_252 rfl rfl ?_
            refine own_aload C (pc' := 256) at_254 rfl rfl rfl ?_
            refine own_callV C (pc' := 259) (y := (⟨"com/example/words_to_weights/wordstoweights/model/PairCounter", "slots", "()I"⟩ : MethodName)) (a := a717) (argsL := []) (rest := []) 0 F792 (hw _ (List.mem_of_getElem? (i := 40) rfl)) (hw _ (List.mem_of_getElem? (i := 41) rfl)) (hw _ (List.mem_of_getElem? (i := 43) rfl)) (hw _ (List.mem_of_getElem? (i := 42) rfl)) (hw _ (List.mem_of_getElem? (i := 44) rfl)) (hw _ (List.mem_of_getElem? (i := 9) rfl)) (by decide) (own_m8 hw a717 (2 : Int32) Z800 F797 ) (by decide) (by decide) (lenOf own_pd4 rfl) rfl (Nat.le_of_eq rfl) at_256 rfl rfl (by decide) (by decide) (fun v803 h804 hq805 => ?_)
            obtain ⟨rfl, rfl⟩ := hq805
            show own_Run p_ l e_ _ s_ m_ _ b_ mt_ c_ n0 _ h789 _ _ (mkF m_ 259 #[.val (.int p0), .val (.int p1), .val (.int p2), .val (.int p3), .val (.int p4), .val (.int x296), .val (.int (1 : Int32)), .val (.int x673), .val (.int x677), .val (.int x684), .val (.int x691), .val (.int x698), .val (.int x705), .val (.int x712), .val (.ref a717), .val (.int (1 : Int32)), .val (.int (1 : Int32)), .val (.int (2 : Int32)), .val (.int (1 : Int32)), .val (.int (1 : Int32)), .val (.int (1 : Int32)), .val (.int (1 : Int32)), .unset, .unset, .unset, .unset, .unset, .unset] [(.int (2 : Int32))])
            refine own_istore C (pc' := 261) (Ls' := #[.val (.int p0), .val (.int p1), .val (.int p2), .val (.int p3), .val (.int p4), .val (.int x296), .val (.int (1 : Int32)), .val (.int x673), .val (.int x677), .val (.int x684), .val (.int x691), .val (.int x698), .val (.int x705), .val (.int x712), .val (.ref a717), .val (.int (1 : Int32)), .val (.int (1 : Int32)), .val (.int (2 : Int32)), .val (.int (1 : Int32)), .val (.int (1 : Int32)), .val (.int (1 : Int32)), .val (.int (1 : Int32)), .val (.int (2 : Int32)), .unset, .unset, .unset, .unset, .unset]) at_259 rfl rfl ?_
            refine own_aload C (pc' := 263) at_261 rfl rfl rfl ?_
            refine own_iload C (pc' := 265) at_263 rfl rfl ?_
            refine own_iload C (pc' := 267) at_265 rfl rfl ?_
            refine own_callV C (pc' := 270) (y := (⟨"com/example/words_to_weights/wordstoweights/model/PairCounter", "addOrdered", "(II)I"⟩ : MethodName)) (a := a717) (argsL := [(.int x691), (.int x698)]) (rest := []) 0 F792 (hw _ (List.mem_of_getElem? (i := 29) rfl)) (hw _ (List.mem_of_getElem? (i := 30) rfl)) (hw _ (List.mem_of_getElem? (i := 32) rfl)) (hw _ (List.mem_of_getElem? (i := 31) rfl)) (hw _ (List.mem_of_getElem? (i := 33) rfl)) (hw _ (List.mem_of_getElem? (i := 9) rfl)) (by decide) (own_addO hw a717 M (own_upd (own_upd (fun _ => (-1 : Int32)) I1 (1 : Int32)) I1 (1 : Int32)) x691 x698 I2 x296 a732 (1 : Int32) Z800 F792 F793 F795 F798 hiI2 hbI2 (by simp [own_upd, h21, h31]) (by decide)) (by decide) (by decide) (lenOf own_pd2 rfl) rfl (Nat.le_of_eq rfl) at_267 rfl rfl (by decide) (by decide) (fun v806 h807 hq808 => ?_)
            obtain ⟨rfl, rfl⟩ := hq808
            show own_Run p_ l e_ _ s_ m_ _ b_ mt_ c_ n0 _ h789 _ _ (mkF m_ 270 #[.val (.int p0), .val (.int p1), .val (.int p2), .val (.int p3), .val (.int p4), .val (.int x296), .val (.int (1 : Int32)), .val (.int x673), .val (.int x677), .val (.int x684), .val (.int x691), .val (.int x698), .val (.int x705), .val (.int x712), .val (.ref a717), .val (.int (1 : Int32)), .val (.int (1 : Int32)), .val (.int (2 : Int32)), .val (.int (1 : Int32)), .val (.int (1 : Int32)), .val (.int (1 : Int32)), .val (.int (1 : Int32)), .val (.int (2 : Int32)), .unset, .unset, .unset, .unset, .unset] [(.int (1 : Int32))])
            refine own_istore C (pc' := 272) (Ls' := #[.val (.int p0), .val (.int p1), .val (.int p2), .val (.int p3), .val (.int p4), .val (.int x296), .val (.int (1 : Int32)), .val (.int x673), .val (.int x677), .val (.int x684), .val (.int x691), .val (.int x698), .val (.int x705), .val (.int x712), .val (.ref a717), .val (.int (1 : Int32)), .val (.int (1 : Int32)), .val (.int (2 : Int32)), .val (.int (1 : Int32)), .val (.int (1 : Int32)), .val (.int (1 : Int32)), .val (.int (1 : Int32)), .val (.int (2 : Int32)), .val (.int (1 : Int32)), .unset, .unset, .unset, .unset]) at_270 rfl rfl ?_
            refine own_aload C (pc' := 274) at_272 rfl rfl rfl ?_
            refine own_iload C (pc' := 276) at_274 rfl rfl ?_
            refine own_iload C (pc' := 278) at_276 rfl rfl ?_
            refine own_callV C (pc' := 281) (y := (⟨"com/example/words_to_weights/wordstoweights/model/PairCounter", "addOrdered", "(II)I"⟩ : MethodName)) (a := a717) (argsL := [(.int x705), (.int x712)]) (rest := []) 0 F792 (hw _ (List.mem_of_getElem? (i := 29) rfl)) (hw _ (List.mem_of_getElem? (i := 30) rfl)) (hw _ (List.mem_of_getElem? (i := 32) rfl)) (hw _ (List.mem_of_getElem? (i := 31) rfl)) (hw _ (List.mem_of_getElem? (i := 33) rfl)) (hw _ (List.mem_of_getElem? (i := 9) rfl)) (by decide) (own_addO hw a717 M (own_upd (own_upd (fun _ => (-1 : Int32)) I1 (1 : Int32)) I1 (1 : Int32)) x705 x712 I3 x296 a732 (1 : Int32) Z800 F792 F793 F795 F798 hiI3 hbI3 (by simp [own_upd, h21, h31]) (by decide)) (by decide) (by decide) (lenOf own_pd2 rfl) rfl (Nat.le_of_eq rfl) at_278 rfl rfl (by decide) (by decide) (fun v809 h810 hq811 => ?_)
            obtain ⟨rfl, rfl⟩ := hq811
            show own_Run p_ l e_ _ s_ m_ _ b_ mt_ c_ n0 _ h789 _ _ (mkF m_ 281 #[.val (.int p0), .val (.int p1), .val (.int p2), .val (.int p3), .val (.int p4), .val (.int x296), .val (.int (1 : Int32)), .val (.int x673), .val (.int x677), .val (.int x684), .val (.int x691), .val (.int x698), .val (.int x705), .val (.int x712), .val (.ref a717), .val (.int (1 : Int32)), .val (.int (1 : Int32)), .val (.int (2 : Int32)), .val (.int (1 : Int32)), .val (.int (1 : Int32)), .val (.int (1 : Int32)), .val (.int (1 : Int32)), .val (.int (2 : Int32)), .val (.int (1 : Int32)), .unset, .unset, .unset, .unset] [(.int (1 : Int32))])
            refine own_istore C (pc' := 283) (Ls' := #[.val (.int p0), .val (.int p1), .val (.int p2), .val (.int p3), .val (.int p4), .val (.int x296), .val (.int (1 : Int32)), .val (.int x673), .val (.int x677), .val (.int x684), .val (.int x691), .val (.int x698), .val (.int x705), .val (.int x712), .val (.ref a717), .val (.int (1 : Int32)), .val (.int (1 : Int32)), .val (.int (2 : Int32)), .val (.int (1 : Int32)), .val (.int (1 : Int32)), .val (.int (1 : Int32)), .val (.int (1 : Int32)), .val (.int (2 : Int32)), .val (.int (1 : Int32)), .val (.int (1 : Int32)), .unset, .unset, .unset]) at_281 rfl rfl ?_
            refine own_aload C (pc' := 285) at_283 rfl rfl rfl ?_
            refine own_callV C (pc' := 288) (y := (⟨"com/example/words_to_weights/wordstoweights/model/PairCounter", "slots", "()I"⟩ : MethodName)) (a := a717) (argsL := []) (rest := []) 0 F792 (hw _ (List.mem_of_getElem? (i := 40) rfl)) (hw _ (List.mem_of_getElem? (i := 41) rfl)) (hw _ (List.mem_of_getElem? (i := 43) rfl)) (hw _ (List.mem_of_getElem? (i := 42) rfl)) (hw _ (List.mem_of_getElem? (i := 44) rfl)) (hw _ (List.mem_of_getElem? (i := 9) rfl)) (by decide) (own_m8 hw a717 (2 : Int32) Z800 F797 ) (by decide) (by decide) (lenOf own_pd4 rfl) rfl (Nat.le_of_eq rfl) at_285 rfl rfl (by decide) (by decide) (fun v812 h813 hq814 => ?_)
            obtain ⟨rfl, rfl⟩ := hq814
            show own_Run p_ l e_ _ s_ m_ _ b_ mt_ c_ n0 _ h789 _ _ (mkF m_ 288 #[.val (.int p0), .val (.int p1), .val (.int p2), .val (.int p3), .val (.int p4), .val (.int x296), .val (.int (1 : Int32)), .val (.int x673), .val (.int x677), .val (.int x684), .val (.int x691), .val (.int x698), .val (.int x705), .val (.int x712), .val (.ref a717), .val (.int (1 : Int32)), .val (.int (1 : Int32)), .val (.int (2 : Int32)), .val (.int (1 : Int32)), .val (.int (1 : Int32)), .val (.int (1 : Int32)), .val (.int (1 : Int32)), .val (.int (2 : Int32)), .val (.int (1 : Int32)), .val (.int (1 : Int32)), .unset, .unset, .unset] [(.int (2 : Int32))])
            refine own_istore C (pc' := 290) (Ls' := #[.val (.int p0), .val (.int p1), .val (.int p2), .val (.int p3), .val (.int p4), .val (.int x296), .val (.int (1 : Int32)), .val (.int x673), .val (.int x677), .val (.int x684), .val (.int x691), .val (.int x698), .val (.int x705), .val (.int x712), .val (.ref a717), .val (.int (1 : Int32)), .val (.int (1 : Int32)), .val (.int (2 : Int32)), .val (.int (1 : Int32)), .val (.int (1 : Int32)), .val (.int (1 : Int32)), .val (.int (1 : Int32)), .val (.int (2 : Int32)), .val (.int (1 : Int32)), .val (.int (1 : Int32)), .val (.int (2 : Int32)), .unset, .unset]) at_288 rfl rfl ?_
            refine own_aload C (pc' := 292) at_290 rfl rfl rfl ?_
            refine own_iload C (pc' := 294) at_292 rfl rfl ?_
            refine own_iload C (pc' := 296) at_294 rfl rfl ?_
            refine own_callV C (pc' := 299) (y := (⟨"com/example/words_to_weights/wordstoweights/model/PairCounter", "addOrdered", "(II)I"⟩ : MethodName)) (a := a717) (argsL := [(.int x677), (.int x684)]) (rest := []) 0 F792 (hw _ (List.mem_of_getElem? (i := 29) rfl)) (hw _ (List.mem_of_getElem? (i := 30) rfl)) (hw _ (List.mem_of_getElem? (i := 32) rfl)) (hw _ (List.mem_of_getElem? (i := 31) rfl)) (hw _ (List.mem_of_getElem? (i := 33) rfl)) (hw _ (List.mem_of_getElem? (i := 9) rfl)) (by decide) (own_addO hw a717 M (own_upd (own_upd (fun _ => (-1 : Int32)) I1 (1 : Int32)) I1 (1 : Int32)) x677 x684 I1 x296 a732 (1 : Int32) Z800 F792 F793 F795 F798 hiI1 hbI1 (by simp [own_upd, h21, h31]) (by decide)) (by decide) (by decide) (lenOf own_pd2 rfl) rfl (Nat.le_of_eq rfl) at_296 rfl rfl (by decide) (by decide) (fun v815 h816 hq817 => ?_)
            obtain ⟨rfl, rfl⟩ := hq817
            show own_Run p_ l e_ _ s_ m_ _ b_ mt_ c_ n0 _ h789 _ _ (mkF m_ 299 #[.val (.int p0), .val (.int p1), .val (.int p2), .val (.int p3), .val (.int p4), .val (.int x296), .val (.int (1 : Int32)), .val (.int x673), .val (.int x677), .val (.int x684), .val (.int x691), .val (.int x698), .val (.int x705), .val (.int x712), .val (.ref a717), .val (.int (1 : Int32)), .val (.int (1 : Int32)), .val (.int (2 : Int32)), .val (.int (1 : Int32)), .val (.int (1 : Int32)), .val (.int (1 : Int32)), .val (.int (1 : Int32)), .val (.int (2 : Int32)), .val (.int (1 : Int32)), .val (.int (1 : Int32)), .val (.int (2 : Int32)), .unset, .unset] [(.int (1 : Int32))])
            refine own_istore C (pc' := 301) (Ls' := #[.val (.int p0), .val (.int p1), .val (.int p2), .val (.int p3), .val (.int p4), .val (.int x296), .val (.int (1 : Int32)), .val (.int x673), .val (.int x677), .val (.int x684), .val (.int x691), .val (.int x698), .val (.int x705), .val (.int x712), .val (.ref a717), .val (.int (1 : Int32)), .val (.int (1 : Int32)), .val (.int (2 : Int32)), .val (.int (1 : Int32)), .val (.int (1 : Int32)), .val (.int (1 : Int32)), .val (.int (1 : Int32)), .val (.int (2 : Int32)), .val (.int (1 : Int32)), .val (.int (1 : Int32)), .val (.int (2 : Int32)), .val (.int (1 : Int32)), .unset]) at_299 rfl rfl ?_
            refine own_aload C (pc' := 303) at_301 rfl rfl rfl ?_
            refine own_callV C (pc' := 306) (y := (⟨"com/example/words_to_weights/wordstoweights/model/PairCounter", "slots", "()I"⟩ : MethodName)) (a := a717) (argsL := []) (rest := []) 0 F792 (hw _ (List.mem_of_getElem? (i := 40) rfl)) (hw _ (List.mem_of_getElem? (i := 41) rfl)) (hw _ (List.mem_of_getElem? (i := 43) rfl)) (hw _ (List.mem_of_getElem? (i := 42) rfl)) (hw _ (List.mem_of_getElem? (i := 44) rfl)) (hw _ (List.mem_of_getElem? (i := 9) rfl)) (by decide) (own_m8 hw a717 (2 : Int32) Z800 F797 ) (by decide) (by decide) (lenOf own_pd4 rfl) rfl (Nat.le_of_eq rfl) at_303 rfl rfl (by decide) (by decide) (fun v818 h819 hq820 => ?_)
            obtain ⟨rfl, rfl⟩ := hq820
            show own_Run p_ l e_ _ s_ m_ _ b_ mt_ c_ n0 _ h789 _ _ (mkF m_ 306 #[.val (.int p0), .val (.int p1), .val (.int p2), .val (.int p3), .val (.int p4), .val (.int x296), .val (.int (1 : Int32)), .val (.int x673), .val (.int x677), .val (.int x684), .val (.int x691), .val (.int x698), .val (.int x705), .val (.int x712), .val (.ref a717), .val (.int (1 : Int32)), .val (.int (1 : Int32)), .val (.int (2 : Int32)), .val (.int (1 : Int32)), .val (.int (1 : Int32)), .val (.int (1 : Int32)), .val (.int (1 : Int32)), .val (.int (2 : Int32)), .val (.int (1 : Int32)), .val (.int (1 : Int32)), .val (.int (2 : Int32)), .val (.int (1 : Int32)), .unset] [(.int (2 : Int32))])
            refine own_istore C (pc' := 308) (Ls' := #[.val (.int p0), .val (.int p1), .val (.int p2), .val (.int p3), .val (.int p4), .val (.int x296), .val (.int (1 : Int32)), .val (.int x673), .val (.int x677), .val (.int x684), .val (.int x691), .val (.int x698), .val (.int x705), .val (.int x712), .val (.ref a717), .val (.int (1 : Int32)), .val (.int (1 : Int32)), .val (.int (2 : Int32)), .val (.int (1 : Int32)), .val (.int (1 : Int32)), .val (.int (1 : Int32)), .val (.int (1 : Int32)), .val (.int (2 : Int32)), .val (.int (1 : Int32)), .val (.int (1 : Int32)), .val (.int (2 : Int32)), .val (.int (1 : Int32)), .val (.int (2 : Int32))]) at_306 rfl rfl ?_
            refine own_iload C (pc' := 310) at_308 rfl rfl ?_
            refine own_iload C (pc' := 312) at_310 rfl rfl ?_
            refine own_ii_ne C (pc1 := 363) (pc2 := 315) at_312 rfl rfl (fun c821 => absurd c821 (by decide)) (fun c821 => ?_)
            refine own_iload C (pc' := 317) at_315 rfl rfl ?_
            refine own_iload C (pc' := 319) at_317 rfl rfl ?_
            refine own_iconst C (pc' := 320) (v := (1 : Int32)) at_319 rfl (by decide) ?_
            refine own_iaddV C (pc' := 321) (v := (2 : Int32)) at_320 rfl (by decide) ?_
            refine own_ii_ne C (pc1 := 363) (pc2 := 324) at_321 rfl rfl (fun c822 => absurd c822 (by decide)) (fun c822 => ?_)
            refine own_iload C (pc' := 326) at_324 rfl rfl ?_
            refine own_iload C (pc' := 328) at_326 rfl rfl ?_
            refine own_ii_ne C (pc1 := 363) (pc2 := 331) at_328 rfl rfl (fun c823 => absurd c823 (by decide)) (fun c823 => ?_)
            refine own_iload C (pc' := 333) at_331 rfl rfl ?_
            refine own_iload C (pc' := 335) at_333 rfl rfl ?_
            refine own_ii_ne C (pc1 := 363) (pc2 := 338) at_335 rfl rfl (fun c824 => absurd c824 (by decide)) (fun c824 => ?_)
            refine own_iload C (pc' := 340) at_338 rfl rfl ?_
            refine own_iload C (pc' := 342) at_340 rfl rfl ?_
            refine own_ii_ne C (pc1 := 363) (pc2 := 345) at_342 rfl rfl (fun c825 => absurd c825 (by decide)) (fun c825 => ?_)
            refine own_iload C (pc' := 347) at_345 rfl rfl ?_
            refine own_iload C (pc' := 349) at_347 rfl rfl ?_
            refine own_ii_ne C (pc1 := 363) (pc2 := 352) at_349 rfl rfl (fun c826 => absurd c826 (by decide)) (fun c826 => ?_)
            refine own_iload C (pc' := 354) at_352 rfl rfl ?_
            refine own_iload C (pc' := 356) at_354 rfl rfl ?_
            refine own_ii_ne C (pc1 := 363) (pc2 := 359) at_356 rfl rfl (fun c827 => absurd c827 (by decide)) (fun c827 => ?_)
            refine own_iconst C (pc' := 360) (v := (1 : Int32)) at_359 rfl (by decide) ?_
            refine own_goto C (pc' := 364) at_360 rfl ?_
            exact own_ret C (t := .boolean) rfl rfl (Or.inl ⟨rfl, by simp, _, rfl⟩) at_364 (by decide) (by decide) (rfl)
          · show own_Run p_ l e_ _ s_ m_ _ b_ mt_ c_ n0 _ h765 _ _ (mkF m_ 243 #[.val (.int p0), .val (.int p1), .val (.int p2), .val (.int p3), .val (.int p4), .val (.int x296), .val (.int (1 : Int32)), .val (.int x673), .val (.int x677), .val (.int x684), .val (.int x691), .val (.int x698), .val (.int x705), .val (.int x712), .val (.ref a717), .val (.int (1 : Int32)), .val (.int (1 : Int32)), .val (.int (3 : Int32)), .val (.int (1 : Int32)), .val (.int (1 : Int32)), .val (.int (2 : Int32)), .unset, .unset, .unset, .unset, .unset, .unset, .unset] [])
            refine own_aload C (pc' := 245) at_243 rfl rfl rfl ?_
            refine own_iload C (pc' := 247) at_245 rfl rfl ?_
            refine own_iload C (pc' := 249) at_247 rfl rfl ?_
            refine own_callV C (pc' := 252) (y := (⟨"com/example/words_to_weights/wordstoweights/model/PairCounter", "addOrdered", "(II)I"⟩ : MethodName)) (a := a717) (argsL := [(.int x677), (.int x684)]) (rest := []) 0 F768 (hw _ (List.mem_of_getElem? (i := 29) rfl)) (hw _ (List.mem_of_getElem? (i := 30) rfl)) (hw _ (List.mem_of_getElem? (i := 32) rfl)) (hw _ (List.mem_of_getElem? (i := 31) rfl)) (hw _ (List.mem_of_getElem? (i := 33) rfl)) (hw _ (List.mem_of_getElem? (i := 9) rfl)) (by decide) (own_addN hw a717 M (fun _ => (-1 : Int32)) (1 : Int32) x677 x684 I1 x296 x673 a732 a733 (2 : Int32) Z776 F768 ga719 ga735 ne750 F769 F770 F771 F772 F773 F778 hiI1 hbI1 (by simp [own_upd, h21, h31, Ne.symm h31]) (by decide)) (by decide) (by decide) (lenOf own_pd2 rfl) rfl (Nat.le_of_eq rfl) at_249 rfl rfl (by decide) (by decide) (fun v828 h829 hq830 => ?_)
            obtain ⟨rfl, K831, F832, F833, F834, F835, F836, F837, F838⟩ := hq830
            have Z840 : n0 ≤ h829.size := Nat.le_trans Z776 K831.1
            have F841 : Exa Z h829 a717 "com/example/words_to_weights/wordstoweights/model/PairCounter" := Exa.keep F768 K831
            have F842 : own_AI Z h829 a733 M (own_upd (own_upd (fun _ => (-1 : Int32)) J1 (0 : Int32)) J2 (0 : Int32)) := own_A.keep F774 K831 (ninS (Ne.symm ne751) (ninS (Ne.symm F749) nin0))
            show own_Run p_ l e_ _ s_ m_ _ b_ mt_ c_ n0 _ h829 _ _ (mkF m_ 252 #[.val (.int p0), .val (.int p1), .val (.int p2), .val (.int p3), .val (.int p4), .val (.int x296), .val (.int (1 : Int32)), .val (.int x673), .val (.int x677), .val (.int x684), .val (.int x691), .val (.int x698), .val (.int x705), .val (.int x712), .val (.ref a717), .val (.int (1 : Int32)), .val (.int (1 : Int32)), .val (.int (3 : Int32)), .val (.int (1 : Int32)), .val (.int (1 : Int32)), .val (.int (2 : Int32)), .unset, .unset, .unset, .unset, .unset, .unset, .unset] [(.int (1 : Int32))])
            refine own_istore C (pc' := 254) (Ls' := #[.val (.int p0), .val (.int p1), .val (.int p2), .val (.int p3), .val (.int p4), .val (.int x296), .val (.int (1 : Int32)), .val (.int x673), .val (.int x677), .val (.int x684), .val (.int x691), .val (.int x698), .val (.int x705), .val (.int x712), .val (.ref a717), .val (.int (1 : Int32)), .val (.int (1 : Int32)), .val (.int (3 : Int32)), .val (.int (1 : Int32)), .val (.int (1 : Int32)), .val (.int (2 : Int32)), .val (.int (1 : Int32)), .unset, .unset, .unset, .unset, .unset, .unset]) at_252 rfl rfl ?_
            refine own_aload C (pc' := 256) at_254 rfl rfl rfl ?_
            refine own_callV C (pc' := 259) (y := (⟨"com/example/words_to_weights/wordstoweights/model/PairCounter", "slots", "()I"⟩ : MethodName)) (a := a717) (argsL := []) (rest := []) 0 F832 (hw _ (List.mem_of_getElem? (i := 40) rfl)) (hw _ (List.mem_of_getElem? (i := 41) rfl)) (hw _ (List.mem_of_getElem? (i := 43) rfl)) (hw _ (List.mem_of_getElem? (i := 42) rfl)) (hw _ (List.mem_of_getElem? (i := 44) rfl)) (hw _ (List.mem_of_getElem? (i := 9) rfl)) (by decide) (own_m8 hw a717 (2 : Int32) Z840 F837 ) (by decide) (by decide) (lenOf own_pd4 rfl) rfl (Nat.le_of_eq rfl) at_256 rfl rfl (by decide) (by decide) (fun v843 h844 hq845 => ?_)
            obtain ⟨rfl, rfl⟩ := hq845
            show own_Run p_ l e_ _ s_ m_ _ b_ mt_ c_ n0 _ h829 _ _ (mkF m_ 259 #[.val (.int p0), .val (.int p1), .val (.int p2), .val (.int p3), .val (.int p4), .val (.int x296), .val (.int (1 : Int32)), .val (.int x673), .val (.int x677), .val (.int x684), .val (.int x691), .val (.int x698), .val (.int x705), .val (.int x712), .val (.ref a717), .val (.int (1 : Int32)), .val (.int (1 : Int32)), .val (.int (3 : Int32)), .val (.int (1 : Int32)), .val (.int (1 : Int32)), .val (.int (2 : Int32)), .val (.int (1 : Int32)), .unset, .unset, .unset, .unset, .unset, .unset] [(.int (2 : Int32))])
            refine own_istore C (pc' := 261) (Ls' := #[.val (.int p0), .val (.int p1), .val (.int p2), .val (.int p3), .val (.int p4), .val (.int x296), .val (.int (1 : Int32)), .val (.int x673), .val (.int x677), .val (.int x684), .val (.int x691), .val (.int x698), .val (.int x705), .val (.int x712), .val (.ref a717), .val (.int (1 : Int32)), .val (.int (1 : Int32)), .val (.int (3 : Int32)), .val (.int (1 : Int32)), .val (.int (1 : Int32)), .val (.int (2 : Int32)), .val (.int (1 : Int32)), .val (.int (2 : Int32)), .unset, .unset, .unset, .unset, .unset]) at_259 rfl rfl ?_
            refine own_aload C (pc' := 263) at_261 rfl rfl rfl ?_
            refine own_iload C (pc' := 265) at_263 rfl rfl ?_
            refine own_iload C (pc' := 267) at_265 rfl rfl ?_
            refine own_callV C (pc' := 270) (y := (⟨"com/example/words_to_weights/wordstoweights/model/PairCounter", "addOrdered", "(II)I"⟩ : MethodName)) (a := a717) (argsL := [(.int x691), (.int x698)]) (rest := []) 0 F832 (hw _ (List.mem_of_getElem? (i := 29) rfl)) (hw _ (List.mem_of_getElem? (i := 30) rfl)) (hw _ (List.mem_of_getElem? (i := 32) rfl)) (hw _ (List.mem_of_getElem? (i := 31) rfl)) (hw _ (List.mem_of_getElem? (i := 33) rfl)) (hw _ (List.mem_of_getElem? (i := 9) rfl)) (by decide) (own_addO hw a717 M (own_upd (own_upd (fun _ => (-1 : Int32)) I1 (1 : Int32)) I1 (1 : Int32)) x691 x698 I2 x296 a732 (1 : Int32) Z840 F832 F833 F835 F838 hiI2 hbI2 (by simp [own_upd, h21, h31, Ne.symm h31]) (by decide)) (by decide) (by decide) (lenOf own_pd2 rfl) rfl (Nat.le_of_eq rfl) at_267 rfl rfl (by decide) (by decide) (fun v846 h847 hq848 => ?_)
            obtain ⟨rfl, rfl⟩ := hq848
            show own_Run p_ l e_ _ s_ m_ _ b_ mt_ c_ n0 _ h829 _ _ (mkF m_ 270 #[.val (.int p0), .val (.int p1), .val (.int p2), .val (.int p3), .val (.int p4), .val (.int x296), .val (.int (1 : Int32)), .val (.int x673), .val (.int x677), .val (.int x684), .val (.int x691), .val (.int x698), .val (.int x705), .val (.int x712), .val (.ref a717), .val (.int (1 : Int32)), .val (.int (1 : Int32)), .val (.int (3 : Int32)), .val (.int (1 : Int32)), .val (.int (1 : Int32)), .val (.int (2 : Int32)), .val (.int (1 : Int32)), .val (.int (2 : Int32)), .unset, .unset, .unset, .unset, .unset] [(.int (1 : Int32))])
            refine own_istore C (pc' := 272) (Ls' := #[.val (.int p0), .val (.int p1), .val (.int p2), .val (.int p3), .val (.int p4), .val (.int x296), .val (.int (1 : Int32)), .val (.int x673), .val (.int x677), .val (.int x684), .val (.int x691), .val (.int x698), .val (.int x705), .val (.int x712), .val (.ref a717), .val (.int (1 : Int32)), .val (.int (1 : Int32)), .val (.int (3 : Int32)), .val (.int (1 : Int32)), .val (.int (1 : Int32)), .val (.int (2 : Int32)), .val (.int (1 : Int32)), .val (.int (2 : Int32)), .val (.int (1 : Int32)), .unset, .unset, .unset, .unset]) at_270 rfl rfl ?_
            refine own_aload C (pc' := 274) at_272 rfl rfl rfl ?_
            refine own_iload C (pc' := 276) at_274 rfl rfl ?_
            refine own_iload C (pc' := 278) at_276 rfl rfl ?_
            refine own_callV C (pc' := 281) (y := (⟨"com/example/words_to_weights/wordstoweights/model/PairCounter", "addOrdered", "(II)I"⟩ : MethodName)) (a := a717) (argsL := [(.int x705), (.int x712)]) (rest := []) 0 F832 (hw _ (List.mem_of_getElem? (i := 29) rfl)) (hw _ (List.mem_of_getElem? (i := 30) rfl)) (hw _ (List.mem_of_getElem? (i := 32) rfl)) (hw _ (List.mem_of_getElem? (i := 31) rfl)) (hw _ (List.mem_of_getElem? (i := 33) rfl)) (hw _ (List.mem_of_getElem? (i := 9) rfl)) (by decide) (own_addN hw a717 M (own_upd (own_upd (fun _ => (-1 : Int32)) I1 (1 : Int32)) I1 (1 : Int32)) (2 : Int32) x705 x712 I3 x296 x673 a732 a733 (3 : Int32) Z840 F832 ga719 ga735 ne750 F833 F834 F835 F836 F837 F838 hiI3 hbI3 (by simp [own_upd, h21, h31, Ne.symm h31]) (by decide)) (by decide) (by decide) (lenOf own_pd2 rfl) rfl (Nat.le_of_eq rfl) at_278 rfl rfl (by decide) (by decide) (fun v849 h850 hq851 => ?_)
            obtain ⟨rfl, K852, F853, F854, F855, F856, F857, F858, F859⟩ := hq851
            have Z861 : n0 ≤ h850.size := Nat.le_trans Z840 K852.1
            have F862 : own_AI Z h850 a733 M (own_upd (own_upd (fun _ => (-1 : Int32)) J1 (0 : Int32)) J2 (0 : Int32)) := own_A.keep F842 K852 (ninS (Ne.symm ne751) (ninS (Ne.symm F749) nin0))
            have F863 : Exa Z h850 a717 "com/example/words_to_weights/wordstoweights/model/PairCounter" := Exa.keep F832 K852
            show own_Run p_ l e_ _ s_ m_ _ b_ mt_ c_ n0 _ h850 _ _ (mkF m_ 281 #[.val (.int p0), .val (.int p1), .val (.int p2), .val (.int p3), .val (.int p4), .val (.int x296), .val (.int (1 : Int32)), .val (.int x673), .val (.int x677), .val (.int x684), .val (.int x691), .val (.int x698), .val (.int x705), .val (.int x712), .val (.ref a717), .val (.int (1 : Int32)), .val (.int (1 : Int32)), .val (.int (3 : Int32)), .val (.int (1 : Int32)), .val (.int (1 : Int32)), .val (.int (2 : Int32)), .val (.int (1 : Int32)), .val (.int (2 : Int32)), .val (.int (1 : Int32)), .unset, .unset, .unset, .unset] [(.int (2 : Int32))])
            refine own_istore C (pc' := 283) (Ls' := #[.val (.int p0), .val (.int p1), .val (.int p2), .val (.int p3), .val (.int p4), .val (.int x296), .val (.int (1 : Int32)), .val (.int x673), .val (.int x677), .val (.int x684), .val (.int x691), .val (.int x698), .val (.int x705), .val (.int x712), .val (.ref a717), .val (.int (1 : Int32)), .val (.int (1 : Int32)), .val (.int (3 : Int32)), .val (.int (1 : Int32)), .val (.int (1 : Int32)), .val (.int (2 : Int32)), .val (.int (1 : Int32)), .val (.int (2 : Int32)), .val (.int (1 : Int32)), .val (.int (2 : Int32)), .unset, .unset, .unset]) at_281 rfl rfl ?_
            refine own_aload C (pc' := 285) at_283 rfl rfl rfl ?_
            refine own_callV C (pc' := 288) (y := (⟨"com/example/words_to_weights/wordstoweights/model/PairCounter", "slots", "()I"⟩ : MethodName)) (a := a717) (argsL := []) (rest := []) 0 F853 (hw _ (List.mem_of_getElem? (i := 40) rfl)) (hw _ (List.mem_of_getElem? (i := 41) rfl)) (hw _ (List.mem_of_getElem? (i := 43) rfl)) (hw _ (List.mem_of_getElem? (i := 42) rfl)) (hw _ (List.mem_of_getElem? (i := 44) rfl)) (hw _ (List.mem_of_getElem? (i := 9) rfl)) (by decide) (own_m8 hw a717 (3 : Int32) Z861 F858 ) (by decide) (by decide) (lenOf own_pd4 rfl) rfl (Nat.le_of_eq rfl) at_285 rfl rfl (by decide) (by decide) (fun v864 h865 hq866 => ?_)
            obtain ⟨rfl, rfl⟩ := hq866
            show own_Run p_ l e_ _ s_ m_ _ b_ mt_ c_ n0 _ h850 _ _ (mkF m_ 288 #[.val (.int p0), .val (.int p1), .val (.int p2), .val (.int p3), .val (.int p4), .val (.int x296), .val (.int (1 : Int32)), .val (.int x673), .val (.int x677), .val (.int x684), .val (.int x691), .val (.int x698), .val (.int x705), .val (.int x712), .val (.ref a717), .val (.int (1 : Int32)), .val (.int (1 : Int32)), .val (.int (3 : Int32)), .val (.int (1 : Int32)), .val (.int (1 : Int32)), .val (.int (2 : Int32)), .val (.int (1 : Int32)), .val (.int (2 : Int32)), .val (.int (1 : Int32)), .val (.int (2 : Int32)), .unset, .unset, .unset] [(.int (3 : Int32))])
            refine own_istore C (pc' := 290) (Ls' := #[.val (.int p0), .val (.int p1), .val (.int p2), .val (.int p3), .val (.int p4), .val (.int x296), .val (.int (1 : Int32)), .val (.int x673), .val (.int x677), .val (.int x684), .val (.int x691), .val (.int x698), .val (.int x705), .val (.int x712), .val (.ref a717), .val (.int (1 : Int32)), .val (.int (1 : Int32)), .val (.int (3 : Int32)), .val (.int (1 : Int32)), .val (.int (1 : Int32)), .val (.int (2 : Int32)), .val (.int (1 : Int32)), .val (.int (2 : Int32)), .val (.int (1 : Int32)), .val (.int (2 : Int32)), .val (.int (3 : Int32)), .unset, .unset]) at_288 rfl rfl ?_
            refine own_aload C (pc' := 292) at_290 rfl rfl rfl ?_
            refine own_iload C (pc' := 294) at_292 rfl rfl ?_
            refine own_iload C (pc' := 296) at_294 rfl rfl ?_
            refine own_callV C (pc' := 299) (y := (⟨"com/example/words_to_weights/wordstoweights/model/PairCounter", "addOrdered", "(II)I"⟩ : MethodName)) (a := a717) (argsL := [(.int x677), (.int x684)]) (rest := []) 0 F853 (hw _ (List.mem_of_getElem? (i := 29) rfl)) (hw _ (List.mem_of_getElem? (i := 30) rfl)) (hw _ (List.mem_of_getElem? (i := 32) rfl)) (hw _ (List.mem_of_getElem? (i := 31) rfl)) (hw _ (List.mem_of_getElem? (i := 33) rfl)) (hw _ (List.mem_of_getElem? (i := 9) rfl)) (by decide) (own_addO hw a717 M (own_upd (own_upd (own_upd (own_upd (fun _ => (-1 : Int32)) I1 (1 : Int32)) I1 (1 : Int32)) I3 (2 : Int32)) I3 (2 : Int32)) x677 x684 I1 x296 a732 (1 : Int32) Z861 F853 F854 F856 F859 hiI1 hbI1 (by simp [own_upd, h21, h31, Ne.symm h31]) (by decide)) (by decide) (by decide) (lenOf own_pd2 rfl) rfl (Nat.le_of_eq rfl) at_296 rfl rfl (by decide) (by decide) (fun v867 h868 hq869 => ?_)
            obtain ⟨rfl, rfl⟩ := hq869
            show own_Run p_ l e_ _ s_ m_ _ b_ mt_ c_ n0 _ h850 _ _ (mkF m_ 299 #[.val (.int p0), .val (.int p1), .val (.int p2), .val (.int p3), .val (.int p4), .val (.int x296), .val (.int (1 : Int32)), .val (.int x673), .val (.int x677), .val (.int x684), .val (.int x691), .val (.int x698), .val (.int x705), .val (.int x712), .val (.ref a717), .val (.int (1 : Int32)), .val (.int (1 : Int32)), .val (.int (3 : Int32)), .val (.int (1 : Int32)), .val (.int (1 : Int32)), .val (.int (2 : Int32)), .val (.int (1 : Int32)), .val (.int (2 : Int32)), .val (.int (1 : Int32)), .val (.int (2 : Int32)), .val (.int (3 : Int32)), .unset, .unset] [(.int (1 : Int32))])
            refine own_istore C (pc' := 301) (Ls' := #[.val (.int p0), .val (.int p1), .val (.int p2), .val (.int p3), .val (.int p4), .val (.int x296), .val (.int (1 : Int32)), .val (.int x673), .val (.int x677), .val (.int x684), .val (.int x691), .val (.int x698), .val (.int x705), .val (.int x712), .val (.ref a717), .val (.int (1 : Int32)), .val (.int (1 : Int32)), .val (.int (3 : Int32)), .val (.int (1 : Int32)), .val (.int (1 : Int32)), .val (.int (2 : Int32)), .val (.int (1 : Int32)), .val (.int (2 : Int32)), .val (.int (1 : Int32)), .val (.int (2 : Int32)), .val (.int (3 : Int32)), .val (.int (1 : Int32)), .unset]) at_299 rfl rfl ?_
            refine own_aload C (pc' := 303) at_301 rfl rfl rfl ?_
            refine own_callV C (pc' := 306) (y := (⟨"com/example/words_to_weights/wordstoweights/model/PairCounter", "slots", "()I"⟩ : MethodName)) (a := a717) (argsL := []) (rest := []) 0 F853 (hw _ (List.mem_of_getElem? (i := 40) rfl)) (hw _ (List.mem_of_getElem? (i := 41) rfl)) (hw _ (List.mem_of_getElem? (i := 43) rfl)) (hw _ (List.mem_of_getElem? (i := 42) rfl)) (hw _ (List.mem_of_getElem? (i := 44) rfl)) (hw _ (List.mem_of_getElem? (i := 9) rfl)) (by decide) (own_m8 hw a717 (3 : Int32) Z861 F858 ) (by decide) (by decide) (lenOf own_pd4 rfl) rfl (Nat.le_of_eq rfl) at_303 rfl rfl (by decide) (by decide) (fun v870 h871 hq872 => ?_)
            obtain ⟨rfl, rfl⟩ := hq872
            show own_Run p_ l e_ _ s_ m_ _ b_ mt_ c_ n0 _ h850 _ _ (mkF m_ 306 #[.val (.int p0), .val (.int p1), .val (.int p2), .val (.int p3), .val (.int p4), .val (.int x296), .val (.int (1 : Int32)), .val (.int x673), .val (.int x677), .val (.int x684), .val (.int x691), .val (.int x698), .val (.int x705), .val (.int x712), .val (.ref a717), .val (.int (1 : Int32)), .val (.int (1 : Int32)), .val (.int (3 : Int32)), .val (.int (1 : Int32)), .val (.int (1 : Int32)), .val (.int (2 : Int32)), .val (.int (1 : Int32)), .val (.int (2 : Int32)), .val (.int (1 : Int32)), .val (.int (2 : Int32)), .val (.int (3 : Int32)), .val (.int (1 : Int32)), .unset] [(.int (3 : Int32))])
            refine own_istore C (pc' := 308) (Ls' := #[.val (.int p0), .val (.int p1), .val (.int p2), .val (.int p3), .val (.int p4), .val (.int x296), .val (.int (1 : Int32)), .val (.int x673), .val (.int x677), .val (.int x684), .val (.int x691), .val (.int x698), .val (.int x705), .val (.int x712), .val (.ref a717), .val (.int (1 : Int32)), .val (.int (1 : Int32)), .val (.int (3 : Int32)), .val (.int (1 : Int32)), .val (.int (1 : Int32)), .val (.int (2 : Int32)), .val (.int (1 : Int32)), .val (.int (2 : Int32)), .val (.int (1 : Int32)), .val (.int (2 : Int32)), .val (.int (3 : Int32)), .val (.int (1 : Int32)), .val (.int (3 : Int32))]) at_306 rfl rfl ?_
            refine own_iload C (pc' := 310) at_308 rfl rfl ?_
            refine own_iload C (pc' := 312) at_310 rfl rfl ?_
            refine own_ii_ne C (pc1 := 363) (pc2 := 315) at_312 rfl rfl (fun c873 => absurd c873 (by decide)) (fun c873 => ?_)
            refine own_iload C (pc' := 317) at_315 rfl rfl ?_
            refine own_iload C (pc' := 319) at_317 rfl rfl ?_
            refine own_iconst C (pc' := 320) (v := (1 : Int32)) at_319 rfl (by decide) ?_
            refine own_iaddV C (pc' := 321) (v := (2 : Int32)) at_320 rfl (by decide) ?_
            refine own_ii_ne C (pc1 := 363) (pc2 := 324) at_321 rfl rfl (fun c874 => absurd c874 (by decide)) (fun c874 => ?_)
            refine own_iload C (pc' := 326) at_324 rfl rfl ?_
            refine own_iload C (pc' := 328) at_326 rfl rfl ?_
            refine own_ii_ne C (pc1 := 363) (pc2 := 331) at_328 rfl rfl (fun c875 => absurd c875 (by decide)) (fun c875 => ?_)
            refine own_iload C (pc' := 333) at_331 rfl rfl ?_
            refine own_iload C (pc' := 335) at_333 rfl rfl ?_
            refine own_ii_ne C (pc1 := 363) (pc2 := 338) at_335 rfl rfl (fun c876 => absurd c876 (by decide)) (fun c876 => ?_)
            refine own_iload C (pc' := 340) at_338 rfl rfl ?_
            refine own_iload C (pc' := 342) at_340 rfl rfl ?_
            refine own_ii_ne C (pc1 := 363) (pc2 := 345) at_342 rfl rfl (fun c877 => absurd c877 (by decide)) (fun c877 => ?_)
            refine own_iload C (pc' := 347) at_345 rfl rfl ?_
            refine own_iload C (pc' := 349) at_347 rfl rfl ?_
            refine own_ii_ne C (pc1 := 363) (pc2 := 352) at_349 rfl rfl (fun c878 => absurd c878 (by decide)) (fun c878 => ?_)
            refine own_iload C (pc' := 354) at_352 rfl rfl ?_
            refine own_iload C (pc' := 356) at_354 rfl rfl ?_
            refine own_ii_ne C (pc1 := 363) (pc2 := 359) at_356 rfl rfl (fun c879 => absurd c879 (by decide)) (fun c879 => ?_)
            refine own_iconst C (pc' := 360) (v := (1 : Int32)) at_359 rfl (by decide) ?_
            refine own_goto C (pc' := 364) at_360 rfl ?_
            exact own_ret C (t := .boolean) rfl rfl (Or.inl ⟨rfl, by simp, _, rfl⟩) at_364 (by decide) (by decide) (rfl)
        · skip
          refine own_iload C (pc' := 193) at_191 rfl rfl ?_
          refine own_iload C (pc' := 195) at_193 rfl rfl ?_
          refine own_ii_ne C (pc1 := 212) (pc2 := 198) at_195 rfl rfl (fun c880 => ?_) (fun c880 => ?_)
          · skip
            refine own_iload C (pc' := 214) at_212 rfl rfl ?_
            refine own_iload C (pc' := 216) at_214 rfl rfl ?_
            refine own_ii_ne C (pc1 := 233) (pc2 := 219) at_216 rfl rfl (fun c881 => ?_) (fun c881 => ?_)
            · skip
              refine own_iload C (pc' := 235) at_233 rfl rfl ?_
              refine own_istore C (pc' := 237) (Ls' := #[.val (.int p0), .val (.int p1), .val (.int p2), .val (.int p3), .val (.int p4), .val (.int x296), .val (.int (1 : Int32)), .val (.int x673), .val (.int x677), .val (.int x684), .val (.int x691), .val (.int x698), .val (.int x705), .val (.int x712), .val (.ref a717), .val (.int (1 : Int32)), .val (.int (1 : Int32)), .val (.int (2 : Int32)), .val (.int (1 : Int32)), .val (.int (1 : Int32)), .val (.int (2 : Int32)), .unset, .unset, .unset, .unset, .unset, .unset, .unset]) at_235 rfl rfl ?_
              refine own_iload C (pc' := 239) at_237 rfl rfl ?_
              refine own_iconst C (pc' := 240) (v := (1 : Int32)) at_239 rfl (by decide) ?_
              refine own_iaddV C (pc' := 241) (v := (3 : Int32)) at_240 rfl (by decide) ?_
              refine own_istore C (pc' := 243) (Ls' := #[.val (.int p0), .val (.int p1), .val (.int p2), .val (.int p3), .val (.int p4), .val (.int x296), .val (.int (1 : Int32)), .val (.int x673), .val (.int x677), .val (.int x684), .val (.int x691), .val (.int x698), .val (.int x705), .val (.int x712), .val (.ref a717), .val (.int (1 : Int32)), .val (.int (1 : Int32)), .val (.int (3 : Int32)), .val (.int (1 : Int32)), .val (.int (1 : Int32)), .val (.int (2 : Int32)), .unset, .unset, .unset, .unset, .unset, .unset, .unset]) at_241 rfl rfl ?_
              exact J787 (2 : Int32) (3 : Int32) (Or.inr ⟨(fun e => c880 (hq31.mp e).1), trivial, rfl, rfl⟩)
            · skip
              refine own_iload C (pc' := 221) at_219 rfl rfl ?_
              refine own_iload C (pc' := 223) at_221 rfl rfl ?_
              refine own_ii_ne C (pc1 := 233) (pc2 := 226) at_223 rfl rfl (fun c882 => ?_) (fun c882 => ?_)
              · skip
                refine own_iload C (pc' := 235) at_233 rfl rfl ?_
                refine own_istore C (pc' := 237) (Ls' := #[.val (.int p0), .val (.int p1), .val (.int p2), .val (.int p3), .val (.int p4), .val (.int x296), .val (.int (1 : Int32)), .val (.int x673), .val (.int x677), .val (.int x684), .val (.int x691), .val (.int x698), .val (.int x705), .val (.int x712), .val (.ref a717), .val (.int (1 : Int32)), .val (.int (1 : Int32)), .val (.int (2 : Int32)), .val (.int (1 : Int32)), .val (.int (1 : Int32)), .val (.int (2 : Int32)), .unset, .unset, .unset, .unset, .unset, .unset, .unset]) at_235 rfl rfl ?_
                refine own_iload C (pc' := 239) at_237 rfl rfl ?_
                refine own_iconst C (pc' := 240) (v := (1 : Int32)) at_239 rfl (by decide) ?_
                refine own_iaddV C (pc' := 241) (v := (3 : Int32)) at_240 rfl (by decide) ?_
                refine own_istore C (pc' := 243) (Ls' := #[.val (.int p0), .val (.int p1), .val (.int p2), .val (.int p3), .val (.int p4), .val (.int x296), .val (.int (1 : Int32)), .val (.int x673), .val (.int x677), .val (.int x684), .val (.int x691), .val (.int x698), .val (.int x705), .val (.int x712), .val (.ref a717), .val (.int (1 : Int32)), .val (.int (1 : Int32)), .val (.int (3 : Int32)), .val (.int (1 : Int32)), .val (.int (1 : Int32)), .val (.int (2 : Int32)), .unset, .unset, .unset, .unset, .unset, .unset, .unset]) at_241 rfl rfl ?_
                exact J787 (2 : Int32) (3 : Int32) (Or.inr ⟨(fun e => c880 (hq31.mp e).1), trivial, rfl, rfl⟩)
              · skip
                refine own_iload C (pc' := 228) at_226 rfl rfl ?_
                refine own_istore C (pc' := 230) (Ls' := #[.val (.int p0), .val (.int p1), .val (.int p2), .val (.int p3), .val (.int p4), .val (.int x296), .val (.int (1 : Int32)), .val (.int x673), .val (.int x677), .val (.int x684), .val (.int x691), .val (.int x698), .val (.int x705), .val (.int x712), .val (.ref a717), .val (.int (1 : Int32)), .val (.int (1 : Int32)), .val (.int (2 : Int32)), .val (.int (1 : Int32)), .val (.int (1 : Int32)), .val (.int (1 : Int32)), .unset, .unset, .unset, .unset, .unset, .unset, .unset]) at_228 rfl rfl ?_
                refine own_goto C (pc' := 243) at_230 rfl ?_
                exact J787 (1 : Int32) (2 : Int32) (absurd ((hq32.mpr ⟨c881, c882⟩).trans h21) (fun e => c880 (hq31.mp e).1))
          · skip
            refine own_iload C (pc' := 200) at_198 rfl rfl ?_
            refine own_iload C (pc' := 202) at_200 rfl rfl ?_
            refine own_ii_ne C (pc1 := 212) (pc2 := 205) at_202 rfl rfl (fun c883 => ?_) (fun c883 => ?_)
            · skip
              refine own_iload C (pc' := 214) at_212 rfl rfl ?_
              refine own_iload C (pc' := 216) at_214 rfl rfl ?_
              refine own_ii_ne C (pc1 := 233) (pc2 := 219) at_216 rfl rfl (fun c884 => ?_) (fun c884 => ?_)
              · skip
                refine own_iload C (pc' := 235) at_233 rfl rfl ?_
                refine own_istore C (pc' := 237) (Ls' := #[.val (.int p0), .val (.int p1), .val (.int p2), .val (.int p3), .val (.int p4), .val (.int x296), .val (.int (1 : Int32)), .val (.int x673), .val (.int x677), .val (.int x684), .val (.int x691), .val (.int x698), .val (.int x705), .val (.int x712), .val (.ref a717), .val (.int (1 : Int32)), .val (.int (1 : Int32)), .val (.int (2 : Int32)), .val (.int (1 : Int32)), .val (.int (1 : Int32)), .val (.int (2 : Int32)), .unset, .unset, .unset, .unset, .unset, .unset, .unset]) at_235 rfl rfl ?_
                refine own_iload C (pc' := 239) at_237 rfl rfl ?_
                refine own_iconst C (pc' := 240) (v := (1 : Int32)) at_239 rfl (by decide) ?_
                refine own_iaddV C (pc' := 241) (v := (3 : Int32)) at_240 rfl (by decide) ?_
                refine own_istore C (pc' := 243) (Ls' := #[.val (.int p0), .val (.int p1), .val (.int p2), .val (.int p3), .val (.int p4), .val (.int x296), .val (.int (1 : Int32)), .val (.int x673), .val (.int x677), .val (.int x684), .val (.int x691), .val (.int x698), .val (.int x705), .val (.int x712), .val (.ref a717), .val (.int (1 : Int32)), .val (.int (1 : Int32)), .val (.int (3 : Int32)), .val (.int (1 : Int32)), .val (.int (1 : Int32)), .val (.int (2 : Int32)), .unset, .unset, .unset, .unset, .unset, .unset, .unset]) at_241 rfl rfl ?_
                exact J787 (2 : Int32) (3 : Int32) (Or.inr ⟨(fun e => c883 (hq31.mp e).2), trivial, rfl, rfl⟩)
              · skip
                refine own_iload C (pc' := 221) at_219 rfl rfl ?_
                refine own_iload C (pc' := 223) at_221 rfl rfl ?_
                refine own_ii_ne C (pc1 := 233) (pc2 := 226) at_223 rfl rfl (fun c885 => ?_) (fun c885 => ?_)
                · skip
                  refine own_iload C (pc' := 235) at_233 rfl rfl ?_
                  refine own_istore C (pc' := 237) (Ls' := #[.val (.int p0), .val (.int p1), .val (.int p2), .val (.int p3), .val (.int p4), .val (.int x296), .val (.int (1 : Int32)), .val (.int x673), .val (.int x677), .val (.int x684), .val (.int x691), .val (.int x698), .val (.int x705), .val (.int x712), .val (.ref a717), .val (.int (1 : Int32)), .val (.int (1 : Int32)), .val (.int (2 : Int32)), .val (.int (1 : Int32)), .val (.int (1 : Int32)), .val (.int (2 : Int32)), .unset, .unset, .unset, .unset, .unset, .unset, .unset]) at_235 rfl rfl ?_
                  refine own_iload C (pc' := 239) at_237 rfl rfl ?_
                  refine own_iconst C (pc' := 240) (v := (1 : Int32)) at_239 rfl (by decide) ?_
                  refine own_iaddV C (pc' := 241) (v := (3 : Int32)) at_240 rfl (by decide) ?_
                  refine own_istore C (pc' := 243) (Ls' := #[.val (.int p0), .val (.int p1), .val (.int p2), .val (.int p3), .val (.int p4), .val (.int x296), .val (.int (1 : Int32)), .val (.int x673), .val (.int x677), .val (.int x684), .val (.int x691), .val (.int x698), .val (.int x705), .val (.int x712), .val (.ref a717), .val (.int (1 : Int32)), .val (.int (1 : Int32)), .val (.int (3 : Int32)), .val (.int (1 : Int32)), .val (.int (1 : Int32)), .val (.int (2 : Int32)), .unset, .unset, .unset, .unset, .unset, .unset, .unset]) at_241 rfl rfl ?_
                  exact J787 (2 : Int32) (3 : Int32) (Or.inr ⟨(fun e => c883 (hq31.mp e).2), trivial, rfl, rfl⟩)
                · skip
                  refine own_iload C (pc' := 228) at_226 rfl rfl ?_
                  refine own_istore C (pc' := 230) (Ls' := #[.val (.int p0), .val (.int p1), .val (.int p2), .val (.int p3), .val (.int p4), .val (.int x296), .val (.int (1 : Int32)), .val (.int x673), .val (.int x677), .val (.int x684), .val (.int x691), .val (.int x698), .val (.int x705), .val (.int x712), .val (.ref a717), .val (.int (1 : Int32)), .val (.int (1 : Int32)), .val (.int (2 : Int32)), .val (.int (1 : Int32)), .val (.int (1 : Int32)), .val (.int (1 : Int32)), .unset, .unset, .unset, .unset, .unset, .unset, .unset]) at_228 rfl rfl ?_
                  refine own_goto C (pc' := 243) at_230 rfl ?_
                  exact J787 (1 : Int32) (2 : Int32) (absurd ((hq32.mpr ⟨c884, c885⟩).trans h21) (fun e => c883 (hq31.mp e).2))
            · skip
              refine own_iload C (pc' := 207) at_205 rfl rfl ?_
              refine own_istore C (pc' := 209) (Ls' := #[.val (.int p0), .val (.int p1), .val (.int p2), .val (.int p3), .val (.int p4), .val (.int x296), .val (.int (1 : Int32)), .val (.int x673), .val (.int x677), .val (.int x684), .val (.int x691), .val (.int x698), .val (.int x705), .val (.int x712), .val (.ref a717), .val (.int (1 : Int32)), .val (.int (1 : Int32)), .val (.int (2 : Int32)), .val (.int (1 : Int32)), .val (.int (1 : Int32)), .val (.int (1 : Int32)), .unset, .unset, .unset, .unset, .unset, .unset, .unset]) at_207 rfl rfl ?_
              refine own_goto C (pc' := 243) at_209 rfl ?_
              exact J787 (1 : Int32) (2 : Int32) (Or.inl ⟨(hq31.mpr ⟨c880, c883⟩), rfl, rfl⟩)
      · show own_Run p_ l e_ _ s_ m_ _ b_ mt_ c_ n0 _ h765 _ _ (mkF m_ 169 #[.val (.int p0), .val (.int p1), .val (.int p2), .val (.int p3), .val (.int p4), .val (.int x296), .val (.int (1 : Int32)), .val (.int x673), .val (.int x677), .val (.int x684), .val (.int x691), .val (.int x698), .val (.int x705), .val (.int x712), .val (.ref a717), .val (.int (1 : Int32)), .val (.int (1 : Int32)), .val (.int (2 : Int32)), .val (.int (0 : Int32)), .unset, .unset, .unset, .unset, .unset, .unset, .unset, .unset, .unset] [])
        refine own_iload C (pc' := 171) at_169 rfl rfl ?_
        refine own_i0_eq C (pc1 := 181) (pc2 := 174) at_171 rfl rfl (fun c886 => ?_) (fun c886 => absurd c886 (by decide))
        refine own_iload C (pc' := 183) at_181 rfl rfl ?_
        refine own_istore C (pc' := 185) (Ls' := #[.val (.int p0), .val (.int p1), .val (.int p2), .val (.int p3), .val (.int p4), .val (.int x296), .val (.int (1 : Int32)), .val (.int x673), .val (.int x677), .val (.int x684), .val (.int x691), .val (.int x698), .val (.int x705), .val (.int x712), .val (.ref a717), .val (.int (1 : Int32)), .val (.int (1 : Int32)), .val (.int (2 : Int32)), .val (.int (0 : Int32)), .val (.int (2 : Int32)), .unset, .unset, .unset, .unset, .unset, .unset, .unset, .unset]) at_183 rfl rfl ?_
        refine own_iload C (pc' := 187) at_185 rfl rfl ?_
        refine own_iconst C (pc' := 188) (v := (1 : Int32)) at_187 rfl (by decide) ?_
        refine own_iaddV C (pc' := 189) (v := (3 : Int32)) at_188 rfl (by decide) ?_
        refine own_istore C (pc' := 191) (Ls' := #[.val (.int p0), .val (.int p1), .val (.int p2), .val (.int p3), .val (.int p4), .val (.int x296), .val (.int (1 : Int32)), .val (.int x673), .val (.int x677), .val (.int x684), .val (.int x691), .val (.int x698), .val (.int x705), .val (.int x712), .val (.ref a717), .val (.int (1 : Int32)), .val (.int (1 : Int32)), .val (.int (3 : Int32)), .val (.int (0 : Int32)), .val (.int (2 : Int32)), .unset, .unset, .unset, .unset, .unset, .unset, .unset, .unset]) at_189 rfl rfl ?_
        refine own_join2 (fun (z887 : Int32) (y888 : Int32) => (I3 = I1 ∧ z887 = (1 : Int32) ∧ y888 = (3 : Int32)) ∨ (I3 ≠ I1 ∧ I3 = I2 ∧ z887 = (2 : Int32) ∧ y888 = (3 : Int32)) ∨ (I3 ≠ I1 ∧ I3 ≠ I2 ∧ z887 = (3 : Int32) ∧ y888 = (4 : Int32))) (fun (z887 : Int32) (y888 : Int32) => (mkF m_ 243 #[.val (.int p0), .val (.int p1), .val (.int p2), .val (.int p3), .val (.int p4), .val (.int x296), .val (.int (1 : Int32)), .val (.int x673), .val (.int x677), .val (.int x684), .val (.int x691), .val (.int x698), .val (.int x705), .val (.int x712), .val (.ref a717), .val (.int (1 : Int32)), .val (.int (1 : Int32)), .val (.int y888), .val (.int (0 : Int32)), .val (.int (2 : Int32)), .val (.int z887), .unset, .unset, .unset, .unset, .unset, .unset, .unset] [])) (fun z887 y888 hz889 => ?_) (fun J890 => ?_)
        · show own_Run p_ l e_ _ s_ m_ _ b_ mt_ c_ n0 _ h765 _ _ (mkF m_ 243 #[.val (.int p0), .val (.int p1), .val (.int p2), .val (.int p3), .val (.int p4), .val (.int x296), .val (.int (1 : Int32)), .val (.int x673), .val (.int x677), .val (.int x684), .val (.int x691), .val (.int x698), .val (.int x705), .val (.int x712), .val (.ref a717), .val (.int (1 : Int32)), .val (.int (1 : Int32)), .val (.int y888), .val (.int (0 : Int32)), .val (.int (2 : Int32)), .val (.int z887), .unset, .unset, .unset, .unset, .unset, .unset, .unset] [])
          rcases hz889 with ⟨h31, rfl, rfl⟩ | ⟨h31, h32, rfl, rfl⟩ | ⟨h31, h32, rfl, rfl⟩
          · show own_Run p_ l e_ _ s_ m_ _ b_ mt_ c_ n0 _ h765 _ _ (mkF m_ 243 #[.val (.int p0), .val (.int p1), .val (.int p2), .val (.int p3), .val (.int p4), .val (.int x296), .val (.int (1 : Int32)), .val (.int x673), .val (.int x677), .val (.int x684), .val (.int x691), .val (.int x698), .val (.int x705), .val (.int x712), .val (.ref a717), .val (.int (1 : Int32)), .val (.int (1 : Int32)), .val (.int (3 : Int32)), .val (.int (0 : Int32)), .val (.int (2 : Int32)), .val (.int (1 : Int32)), .unset, .unset, .unset, .unset, .unset, .unset, .unset] [])
            refine own_aload C (pc' := 245) at_243 rfl rfl rfl ?_
            refine own_iload C (pc' := 247) at_245 rfl rfl ?_
            refine own_iload C (pc' := 249) at_247 rfl rfl ?_
            refine own_callV C (pc' := 252) (y := (⟨"com/example/words_to_weights/wordstoweights/model/PairCounter", "addOrdered", "(II)I"⟩ : MethodName)) (a := a717) (argsL := [(.int x677), (.int x684)]) (rest := []) 0 F768 (hw _ (List.mem_of_getElem? (i := 29) rfl)) (hw _ (List.mem_of_getElem? (i := 30) rfl)) (hw _ (List.mem_of_getElem? (i := 32) rfl)) (hw _ (List.mem_of_getElem? (i := 31) rfl)) (hw _ (List.mem_of_getElem? (i := 33) rfl)) (hw _ (List.mem_of_getElem? (i := 9) rfl)) (by decide) (own_addN hw a717 M (fun _ => (-1 : Int32)) (1 : Int32) x677 x684 I1 x296 x673 a732 a733 (2 : Int32) Z776 F768 ga719 ga735 ne750 F769 F770 F771 F772 F773 F778 hiI1 hbI1 (by simp [own_upd, h21, Ne.symm h21, h31]) (by decide)) (by decide) (by decide) (lenOf own_pd2 rfl) rfl (Nat.le_of_eq rfl) at_249 rfl rfl (by decide) (by decide) (fun v891 h892 hq893 => ?_)
            obtain ⟨rfl, K894, F895, F896, F897, F898, F899, F900, F901⟩ := hq893
            have Z903 : n0 ≤ h892.size := Nat.le_trans Z776 K894.1
            have F904 : Exa Z h892 a717 "com/example/words_to_weights/wordstoweights/model/PairCounter" := Exa.keep F768 K894
            have F905 : own_AI Z h892 a733 M (own_upd (own_upd (fun _ => (-1 : Int32)) J1 (0 : Int32)) J2 (0 : Int32)) := own_A.keep F774 K894 (ninS (Ne.symm ne751) (ninS (Ne.symm F749) nin0))
            show own_Run p_ l e_ _ s_ m_ _ b_ mt_ c_ n0 _ h892 _ _ (mkF m_ 252 #[.val (.int p0), .val (.int p1), .val (.int p2), .val (.int p3), .val (.int p4), .val (.int x296), .val (.int (1 : Int32)), .val (.int x673), .val (.int x677), .val (.int x684), .val (.int x691), .val (.int x698), .val (.int x705), .val (.int x712), .val (.ref a717), .val (.int (1 : Int32)), .val (.int (1 : Int32)), .val (.int (3 : Int32)), .val (.int (0 : Int32)), .val (.int (2 : Int32)), .val (.int (1 : Int32)), .unset, .unset, .unset, .unset, .unset, .unset, .unset] [(.int (1 : Int32))])
            refine own_istore C (pc' := 254) (Ls' := #[.val (.int p0), .val (.int p1), .val (.int p2), .val (.int p3), .val (.int p4), .val (.int x296), .val (.int (1 : Int32)), .val (.int x673), .val (.int x677), .val (.int x684), .val (.int x691), .val (.int x698), .val (.int x705), .val (.int x712), .val (.ref a717), .val (.int (1 : Int32)), .val (.int (1 : Int32)), .val (.int (3 : Int32)), .val (.int (0 : Int32)), .val (.int (2 : Int32)), .val (.int (1 : Int32)), .val (.int (1 : Int32)), .unset, .unset, .unset, .unset, .unset, .unset]) at_252 rfl rfl ?_
            refine own_aload C (pc' := 256) at_254 rfl rfl rfl ?_
            refine own_callV C (pc' := 259) (y := (⟨"com/example/words_to_weights/wordstoweights/model/PairCounter", "slots", "()I"⟩ : MethodName)) (a := a717) (argsL := []) (rest := []) 0 F895 (hw _ (List.mem_of_getElem? (i := 40) rfl)) (hw _ (List.mem_of_getElem? (i := 41) rfl)) (hw _ (List.mem_of_getElem? (i := 43) rfl)) (hw _ (List.mem_of_getElem? (i := 42) rfl)) (hw _ (List.mem_of_getElem? (i := 44) rfl)) (hw _ (List.mem_of_getElem? (i := 9) rfl)) (by decide) (own_m8 hw a717 (2 : Int32) Z903 F900 ) (by decide) (by decide) (lenOf own_pd4 rfl) rfl (Nat.le_of_eq rfl) at_256 rfl rfl (by decide) (by decide) (fun v906 h907 hq908 => ?_)
            obtain ⟨rfl, rfl⟩ := hq908
            show own_Run p_ l e_ _ s_ m_ _ b_ mt_ c_ n0 _ h892 _ _ (mkF m_ 259 #[.val (.int p0), .val (.int p1), .val (.int p2), .val (.int p3), .val (.int p4), .val (.int x296), .val (.int (1 : Int32)), .val (.int x673), .val (.int x677), .val (.int x684), .val (.int x691), .val (.int x698), .val (.int x705), .val (.int x712), .val (.ref a717), .val (.int (1 : Int32)), .val (.int (1 : Int32)), .val (.int (3 : Int32)), .val (.int (0 : Int32)), .val (.int (2 : Int32)), .val (.int (1 : Int32)), .val (.int (1 : Int32)), .unset, .unset, .unset, .unset, .unset, .unset] [(.int (2 : Int32))])
            refine own_istore C (pc' := 261) (Ls' := #[.val (.int p0), .val (.int p1), .val (.int p2), .val (.int p3), .val (.int p4), .val (.int x296), .val (.int (1 : Int32)), .val (.int x673), .val (.int x677), .val (.int x684), .val (.int x691), .val (.int x698), .val (.int x705), .val (.int x712), .val (.ref a717), .val (.int (1 : Int32)), .val (.int (1 : Int32)), .val (.int (3 : Int32)), .val (.int (0 : Int32)), .val (.int (2 : Int32)), .val (.int (1 : Int32)), .val (.int (1 : Int32)), .val (.int (2 : Int32)), .unset, .unset, .unset, .unset, .unset]) at_259 rfl rfl ?_
            refine own_aload C (pc' := 263) at_261 rfl rfl rfl ?_
            refine own_iload C (pc' := 265) at_263 rfl rfl ?_
            refine own_iload C (pc' := 267) at_265 rfl rfl ?_
            refine own_callV C (pc' := 270) (y := (⟨"com/example/words_to_weights/wordstoweights/model/PairCounter", "addOrdered", "(II)I"⟩ : MethodName)) (a := a717) (argsL := [(.int x691), (.int x698)]) (rest := []) 0 F895 (hw _ (List.mem_of_getElem? (i := 29) rfl)) (hw _ (List.mem_of_getElem? (i := 30) rfl)) (hw _ (List.mem_of_getElem? (i := 32) rfl)) (hw _ (List.mem_of_getElem? (i := 31) rfl)) (hw _ (List.mem_of_getElem? (i := 33) rfl)) (hw _ (List.mem_of_getElem? (i := 9) rfl)) (by decide) (own_addN hw a717 M (own_upd (own_upd (fun _ => (-1 : Int32)) I1 (1 : Int32)) I1 (1 : Int32)) (2 : Int32) x691 x698 I2 x296 x673 a732 a733 (3 : Int32) Z903 F895 ga719 ga735 ne750 F896 F897 F898 F899 F900 F901 hiI2 hbI2 (by simp [own_upd, h21, Ne.symm h21, h31]) (by decide)) (by decide) (by decide) (lenOf own_pd2 rfl) rfl (Nat.le_of_eq rfl) at_267 rfl rfl (by decide) (by decide) (fun v909 h910 hq911 => ?_)
            obtain ⟨rfl, K912, F913, F914, F915, F916, F917, F918, F919⟩ := hq911
            have Z921 : n0 ≤ h910.size := Nat.le_trans Z903 K912.1
            have F922 : own_AI Z h910 a733 M (own_upd (own_upd (fun _ => (-1 : Int32)) J1 (0 : Int32)) J2 (0 : Int32)) := own_A.keep F905 K912 (ninS (Ne.symm ne751) (ninS (Ne.symm F749) nin0))
            have F923 : Exa Z h910 a717 "com/example/words_to_weights/wordstoweights/model/PairCounter" := Exa.keep F895 K912
            show own_Run p_ l e_ _ s_ m_ _ b_ mt_ c_ n0 _ h910 _ _ (mkF m_ 270 #[.val (.int p0), .val (.int p1), .val (.int p2), .val (.int p3), .val (.int p4), .val (.int x296), .val (.int (1 : Int32)), .val (.int x673), .val (.int x677), .val (.int x684), .val (.int x691), .val (.int x698), .val (.int x705), .val (.int x712), .val (.ref a717), .val (.int (1 : Int32)), .val (.int (1 : Int32)), .val (.int (3 : Int32)), .val (.int (0 : Int32)), .val (.int (2 : Int32)), .val (.int (1 : Int32)), .val (.int (1 : Int32)), .val (.int (2 : Int32)), .unset, .unset, .unset, .unset, .unset] [(.int (2 : Int32))])
            refine own_istore C (pc' := 272) (Ls' := #[.val (.int p0), .val (.int p1), .val (.int p2), .val (.int p3), .val (.int p4), .val (.int x296), .val (.int (1 : Int32)), .val (.int x673), .val (.int x677), .val (.int x684), .val (.int x691), .val (.int x698), .val (.int x705), .val (.int x712), .val (.ref a717), .val (.int (1 : Int32)), .val (.int (1 : Int32)), .val (.int (3 : Int32)), .val (.int (0 : Int32)), .val (.int (2 : Int32)), .val (.int (1 : Int32)), .val (.int (1 : Int32)), .val (.int (2 : Int32)), .val (.int (2 : Int32)), .unset, .unset, .unset, .unset]) at_270 rfl rfl ?_
            refine own_aload C (pc' := 274) at_272 rfl rfl rfl ?_
            refine own_iload C (pc' := 276) at_274 rfl rfl ?_
            refine own_iload C (pc' := 278) at_276 rfl rfl ?_
            refine own_callV C (pc' := 281) (y := (⟨"com/example/words_to_weights/wordstoweights/model/PairCounter", "addOrdered", "(II)I"⟩ : MethodName)) (a := a717) (argsL := [(.int x705), (.int x712)]) (rest := []) 0 F913 (hw _ (List.mem_of_getElem? (i := 29) rfl)) (hw _ (List.mem_of_getElem? (i := 30) rfl)) (hw _ (List.mem_of_getElem? (i := 32) rfl)) (hw _ (List.mem_of_getElem? (i := 31) rfl)) (hw _ (List.mem_of_getElem? (i := 33) rfl)) (hw _ (List.mem_of_getElem? (i := 9) rfl)) (by decide) (own_addO hw a717 M (own_upd (own_upd (own_upd (own_upd (fun _ => (-1 : Int32)) I1 (1 : Int32)) I1 (1 : Int32)) I2 (2 : Int32)) I2 (2 : Int32)) x705 x712 I3 x296 a732 (1 : Int32) Z921 F913 F914 F916 F919 hiI3 hbI3 (by simp [own_upd, h21, Ne.symm h21, h31]) (by decide)) (by decide) (by decide) (lenOf own_pd2 rfl) rfl (Nat.le_of_eq rfl) at_278 rfl rfl (by decide) (by decide) (fun v924 h925 hq926 => ?_)
            obtain ⟨rfl, rfl⟩ := hq926
            show own_Run p_ l e_ _ s_ m_ _ b_ mt_ c_ n0 _ h910 _ _ (mkF m_ 281 #[.val (.int p0), .val (.int p1), .val (.int p2), .val (.int p3), .val (.int p4), .val (.int x296), .val (.int (1 : Int32)), .val (.int x673), .val (.int x677), .val (.int x684), .val (.int x691), .val (.int x698), .val (.int x705), .val (.int x712), .val (.ref a717), .val (.int (1 : Int32)), .val (.int (1 : Int32)), .val (.int (3 : Int32)), .val (.int (0 : Int32)), .val (.int (2 : Int32)), .val (.int (1 : Int32)), .val (.int (1 : Int32)), .val (.int (2 : Int32)), .val (.int (2 : Int32)), .unset, .unset, .unset, .unset] [(.int (1 : Int32))])
            refine own_istore C (pc' := 283) (Ls' := #[.val (.int p0), .val (.int p1), .val (.int p2), .val (.int p3), .val (.int p4), .val (.int x296), .val (.int (1 : Int32)), .val (.int x673), .val (.int x677), .val (.int x684), .val (.int x691), .val (.int x698), .val (.int x705), .val (.int x712), .val (.ref a717), .val (.int (1 : Int32)), .val (.int (1 : Int32)), .val (.int (3 : Int32)), .val (.int (0 : Int32)), .val (.int (2 : Int32)), .val (.int (1 : Int32)), .val (.int (1 : Int32)), .val (.int (2 : Int32)), .val (.int (2 : Int32)), .val (.int (1 : Int32)), .unset, .unset, .unset]) at_281 rfl rfl ?_
            refine own_aload C (pc' := 285) at_283 rfl rfl rfl ?_
            refine own_callV C (pc' := 288) (y := (⟨"com/example/words_to_weights/wordstoweights/model/PairCounter", "slots", "()I"⟩ : MethodName)) (a := a717) (argsL := []) (rest := []) 0 F913 (hw _ (List.mem_of_getElem? (i := 40) rfl)) (hw _ (List.mem_of_getElem? (i := 41) rfl)) (hw _ (List.mem_of_getElem? (i := 43) rfl)) (hw _ (List.mem_of_getElem? (i := 42) rfl)) (hw _ (List.mem_of_getElem? (i := 44) rfl)) (hw _ (List.mem_of_getElem? (i := 9) rfl)) (by decide) (own_m8 hw a717 (3 : Int32) Z921 F918 ) (by decide) (by decide) (lenOf own_pd4 rfl) rfl (Nat.le_of_eq rfl) at_285 rfl rfl (by decide) (by decide) (fun v927 h928 hq929 => ?_)
            obtain ⟨rfl, rfl⟩ := hq929
            show own_Run p_ l e_ _ s_ m_ _ b_ mt_ c_ n0 _ h910 _ _ (mkF m_ 288 #[.val (.int p0), .val (.int p1), .val (.int p2), .val (.int p3), .val (.int p4), .val (.int x296), .val (.int (1 : Int32)), .val (.int x673), .val (.int x677), .val (.int x684), .val (.int x691), .val (.int x698), .val (.int x705), .val (.int x712), .val (.ref a717), .val (.int (1 : Int32)), .val (.int (1 : Int32)), .val (.int (3 : Int32)), .val (.int (0 : Int32)), .val (.int (2 : Int32)), .val (.int (1 : Int32)), .val (.int (1 : Int32)), .val (.int (2 : Int32)), .val (.int (2 : Int32)), .val (.int (1 : Int32)), .unset, .unset, .unset] [(.int (3 : Int32))])
            refine own_istore C (pc' := 290) (Ls' := #[.val (.int p0), .val (.int p1), .val (.int p2), .val (.int p3), .val (.int p4), .val (.int x296), .val (.int (1 : Int32)), .val (.int x673), .val (.int x677), .val (.int x684), .val (.int x691), .val (.int x698), .val (.int x705), .val (.int x712), .val (.ref a717), .val (.int (1 : Int32)), .val (.int (1 : Int32)), .val (.int (3 : Int32)), .val (.int (0 : Int32)), .val (.int (2 : Int32)), .val (.int (1 : Int32)), .val (.int (1 : Int32)), .val (.int (2 : Int32)), .val (.int (2 : Int32)), .val (.int (1 : Int32)), .val (.int (3 : Int32)), .unset, .unset]) at_288 rfl rfl ?_
            refine own_aload C (pc' := 292) at_290 rfl rfl rfl ?_
            refine own_iload C (pc' := 294) at_292 rfl rfl ?_
            refine own_iload C (pc' := 296) at_294 rfl rfl ?_
            refine own_callV C (pc' := 299) (y := (⟨"com/example/words_to_weights/wordstoweights/model/PairCounter", "addOrdered", "(II)I"⟩ : MethodName)) (a := a717) (argsL := [(.int x677), (.int x684)]) (rest := []) 0 F913 (hw _ (List.mem_of_getElem? (i := 29) rfl)) (hw _ (List.mem_of_getElem? (i := 30) rfl)) (hw _ (List.mem_of_getElem? (i := 32) rfl)) (hw _ (List.mem_of_getElem? (i := 31) rfl)) (hw _ (List.mem_of_getElem? (i := 33) rfl)) (hw _ (List.mem_of_getElem? (i := 9) rfl)) (by decide) (own_addO hw a717 M (own_upd (own_upd (own_upd (own_upd (fun _ => (-1 : Int32)) I1 (1 : Int32)) I1 (1 : Int32)) I2 (2 : Int32)) I2 (2 : Int32)) x677 x684 I1 x296 a732 (1 : Int32) Z921 F913 F914 F916 F919 hiI1 hbI1 (by simp [own_upd, h21, Ne.symm h21, h31]) (by decide)) (by decide) (by decide) (lenOf own_pd2 rfl) rfl (Nat.le_of_eq rfl) at_296 rfl rfl (by decide) (by decide) (fun v930 h931 hq932 => ?_)
            obtain ⟨rfl, rfl⟩ := hq932
            show own_Run p_ l e_ _ s_ m_ _ b_ mt_ c_ n0 _ h910 _ _ (mkF m_ 299 #[.val (.int p0), .val (.int p1), .val (.int p2), .val (.int p3), .val (.int p4), .val (.int x296), .val (.int (1 : Int32)), .val (.int x673), .val (.int x677), .val (.int x684), .val (.int x691), .val (.int x698), .val (.int x705), .val (.int x712), .val (.ref a717), .val (.int (1 : Int32)), .val (.int (1 : Int32)), .val (.int (3 : Int32)), .val (.int (0 : Int32)), .val (.int (2 : Int32)), .val (.int (1 : Int32)), .val (.int (1 : Int32)), .val (.int (2 : Int32)), .val (.int (2 : Int32)), .val (.int (1 : Int32)), .val (.int (3 : Int32)), .unset, .unset] [(.int (1 : Int32))])
            refine own_istore C (pc' := 301) (Ls' := #[.val (.int p0), .val (.int p1), .val (.int p2), .val (.int p3), .val (.int p4), .val (.int x296), .val (.int (1 : Int32)), .val (.int x673), .val (.int x677), .val (.int x684), .val (.int x691), .val (.int x698), .val (.int x705), .val (.int x712), .val (.ref a717), .val (.int (1 : Int32)), .val (.int (1 : Int32)), .val (.int (3 : Int32)), .val (.int (0 : Int32)), .val (.int (2 : Int32)), .val (.int (1 : Int32)), .val (.int (1 : Int32)), .val (.int (2 : Int32)), .val (.int (2 : Int32)), .val (.int (1 : Int32)), .val (.int (3 : Int32)), .val (.int (1 : Int32)), .unset]) at_299 rfl rfl ?_
            refine own_aload C (pc' := 303) at_301 rfl rfl rfl ?_
            refine own_callV C (pc' := 306) (y := (⟨"com/example/words_to_weights/wordstoweights/model/PairCounter", "slots", "()I"⟩ : MethodName)) (a := a717) (argsL := []) (rest := []) 0 F913 (hw _ (List.mem_of_getElem? (i := 40) rfl)) (hw _ (List.mem_of_getElem? (i := 41) rfl)) (hw _ (List.mem_of_getElem? (i := 43) rfl)) (hw _ (List.mem_of_getElem? (i := 42) rfl)) (hw _ (List.mem_of_getElem? (i := 44) rfl)) (hw _ (List.mem_of_getElem? (i := 9) rfl)) (by decide) (own_m8 hw a717 (3 : Int32) Z921 F918 ) (by decide) (by decide) (lenOf own_pd4 rfl) rfl (Nat.le_of_eq rfl) at_303 rfl rfl (by decide) (by decide) (fun v933 h934 hq935 => ?_)
            obtain ⟨rfl, rfl⟩ := hq935
            show own_Run p_ l e_ _ s_ m_ _ b_ mt_ c_ n0 _ h910 _ _ (mkF m_ 306 #[.val (.int p0), .val (.int p1), .val (.int p2), .val (.int p3), .val (.int p4), .val (.int x296), .val (.int (1 : Int32)), .val (.int x673), .val (.int x677), .val (.int x684), .val (.int x691), .val (.int x698), .val (.int x705), .val (.int x712), .val (.ref a717), .val (.int (1 : Int32)), .val (.int (1 : Int32)), .val (.int (3 : Int32)), .val (.int (0 : Int32)), .val (.int (2 : Int32)), .val (.int (1 : Int32)), .val (.int (1 : Int32)), .val (.int (2 : Int32)), .val (.int (2 : Int32)), .val (.int (1 : Int32)), .val (.int (3 : Int32)), .val (.int (1 : Int32)), .unset] [(.int (3 : Int32))])
            refine own_istore C (pc' := 308) (Ls' := #[.val (.int p0), .val (.int p1), .val (.int p2), .val (.int p3), .val (.int p4), .val (.int x296), .val (.int (1 : Int32)), .val (.int x673), .val (.int x677), .val (.int x684), .val (.int x691), .val (.int x698), .val (.int x705), .val (.int x712), .val (.ref a717), .val (.int (1 : Int32)), .val (.int (1 : Int32)), .val (.int (3 : Int32)), .val (.int (0 : Int32)), .val (.int (2 : Int32)), .val (.int (1 : Int32)), .val (.int (1 : Int32)), .val (.int (2 : Int32)), .val (.int (2 : Int32)), .val (.int (1 : Int32)), .val (.int (3 : Int32)), .val (.int (1 : Int32)), .val (.int (3 : Int32))]) at_306 rfl rfl ?_
            refine own_iload C (pc' := 310) at_308 rfl rfl ?_
            refine own_iload C (pc' := 312) at_310 rfl rfl ?_
            refine own_ii_ne C (pc1 := 363) (pc2 := 315) at_312 rfl rfl (fun c936 => absurd c936 (by decide)) (fun c936 => ?_)
            refine own_iload C (pc' := 317) at_315 rfl rfl ?_
            refine own_iload C (pc' := 319) at_317 rfl rfl ?_
            refine own_iconst C (pc' := 320) (v := (1 : Int32)) at_319 rfl (by decide) ?_
            refine own_iaddV C (pc' := 321) (v := (2 : Int32)) at_320 rfl (by decide) ?_
            refine own_ii_ne C (pc1 := 363) (pc2 := 324) at_321 rfl rfl (fun c937 => absurd c937 (by decide)) (fun c937 => ?_)
            refine own_iload C (pc' := 326) at_324 rfl rfl ?_
            refine own_iload C (pc' := 328) at_326 rfl rfl ?_
            refine own_ii_ne C (pc1 := 363) (pc2 := 331) at_328 rfl rfl (fun c938 => absurd c938 (by decide)) (fun c938 => ?_)
            refine own_iload C (pc' := 333) at_331 rfl rfl ?_
            refine own_iload C (pc' := 335) at_333 rfl rfl ?_
            refine own_ii_ne C (pc1 := 363) (pc2 := 338) at_335 rfl rfl (fun c939 => absurd c939 (by decide)) (fun c939 => ?_)
            refine own_iload C (pc' := 340) at_338 rfl rfl ?_
            refine own_iload C (pc' := 342) at_340 rfl rfl ?_
            refine own_ii_ne C (pc1 := 363) (pc2 := 345) at_342 rfl rfl (fun c940 => absurd c940 (by decide)) (fun c940 => ?_)
            refine own_iload C (pc' := 347) at_345 rfl rfl ?_
            refine own_iload C (pc' := 349) at_347 rfl rfl ?_
            refine own_ii_ne C (pc1 := 363) (pc2 := 352) at_349 rfl rfl (fun c941 => absurd c941 (by decide)) (fun c941 => ?_)
            refine own_iload C (pc' := 354) at_352 rfl rfl ?_
            refine own_iload C (pc' := 356) at_354 rfl rfl ?_
            refine own_ii_ne C (pc1 := 363) (pc2 := 359) at_356 rfl rfl (fun c942 => absurd c942 (by decide)) (fun c942 => ?_)
            refine own_iconst C (pc' := 360) (v := (1 : Int32)) at_359 rfl (by decide) ?_
            refine own_goto C (pc' := 364) at_360 rfl ?_
            exact own_ret C (t := .boolean) rfl rfl (Or.inl ⟨rfl, by simp, _, rfl⟩) at_364 (by decide) (by decide) (rfl)
          · show own_Run p_ l e_ _ s_ m_ _ b_ mt_ c_ n0 _ h765 _ _ (mkF m_ 243 #[.val (.int p0), .val (.int p1), .val (.int p2), .val (.int p3), .val (.int p4), .val (.int x296), .val (.int (1 : Int32)), .val (.int x673), .val (.int x677), .val (.int x684), .val (.int x691), .val (.int x698), .val (.int x705), .val (.int x712), .val (.ref a717), .val (.int (1 : Int32)), .val (.int (1 : Int32)), .val (.int (3 : Int32)), .val (.int (0 : Int32)), .val (.int (2 : Int32)), .val (.int (2 : Int32)), .unset, .unset, .unset, .unset, .unset, .unset, .unset] [])
            refine own_aload C (pc' := 245) at_243 rfl rfl rfl ?_
            refine own_iload C (pc' := 247) at_245 rfl rfl ?_
            refine own_iload C (pc' := 249) at_247 rfl rfl ?_
            refine own_callV C (pc' := 252) (y := (⟨"com/example/words_to_weights/wordstoweights/model/PairCounter", "addOrdered", "(II)I"⟩ : MethodName)) (a := a717) (argsL := [(.int x677), (.int x684)]) (rest := []) 0 F768 (hw _ (List.mem_of_getElem? (i := 29) rfl)) (hw _ (List.mem_of_getElem? (i := 30) rfl)) (hw _ (List.mem_of_getElem? (i := 32) rfl)) (hw _ (List.mem_of_getElem? (i := 31) rfl)) (hw _ (List.mem_of_getElem? (i := 33) rfl)) (hw _ (List.mem_of_getElem? (i := 9) rfl)) (by decide) (own_addN hw a717 M (fun _ => (-1 : Int32)) (1 : Int32) x677 x684 I1 x296 x673 a732 a733 (2 : Int32) Z776 F768 ga719 ga735 ne750 F769 F770 F771 F772 F773 F778 hiI1 hbI1 (by simp [own_upd, h21, Ne.symm h21, h32]) (by decide)) (by decide) (by decide) (lenOf own_pd2 rfl) rfl (Nat.le_of_eq rfl) at_249 rfl rfl (by decide) (by decide) (fun v943 h944 hq945 => ?_)
            obtain ⟨rfl, K946, F947, F948, F949, F950, F951, F952, F953⟩ := hq945
            have Z955 : n0 ≤ h944.size := Nat.le_trans Z776 K946.1
            have F956 : Exa Z h944 a717 "com/example/words_to_weights/wordstoweights/model/PairCounter" := Exa.keep F768 K946
            have F957 : own_AI Z h944 a733 M (own_upd (own_upd (fun _ => (-1 : Int32)) J1 (0 : Int32)) J2 (0 : Int32)) := own_A.keep F774 K946 (ninS (Ne.symm ne751) (ninS (Ne.symm F749) nin0))
            show own_Run p_ l e_ _ s_ m_ _ b_ mt_ c_ n0 _ h944 _ _ (mkF m_ 252 #[.val (.int p0), .val (.int p1), .val (.int p2), .val (.int p3), .val (.int p4), .val (.int x296), .val (.int (1 : Int32)), .val (.int x673), .val (.int x677), .val (.int x684), .val (.int x691), .val (.int x698), .val (.int x705), .val (.int x712), .val (.ref a717), .val (.int (1 : Int32)), .val (.int (1 : Int32)), .val (.int (3 : Int32)), .val (.int (0 : Int32)), .val (.int (2 : Int32)), .val (.int (2 : Int32)), .unset, .unset, .unset, .unset, .unset, .unset, .unset] [(.int (1 : Int32))])
            refine own_istore C (pc' := 254) (Ls' := #[.val (.int p0), .val (.int p1), .val (.int p2), .val (.int p3), .val (.int p4), .val (.int x296), .val (.int (1 : Int32)), .val (.int x673), .val (.int x677), .val (.int x684), .val (.int x691), .val (.int x698), .val (.int x705), .val (.int x712), .val (.ref a717), .val (.int (1 : Int32)), .val (.int (1 : Int32)), .val (.int (3 : Int32)), .val (.int (0 : Int32)), .val (.int (2 : Int32)), .val (.int (2 : Int32)), .val (.int (1 : Int32)), .unset, .unset, .unset, .unset, .unset, .unset]) at_252 rfl rfl ?_
            refine own_aload C (pc' := 256) at_254 rfl rfl rfl ?_
            refine own_callV C (pc' := 259) (y := (⟨"com/example/words_to_weights/wordstoweights/model/PairCounter", "slots", "()I"⟩ : MethodName)) (a := a717) (argsL := []) (rest := []) 0 F947 (hw _ (List.mem_of_getElem? (i := 40) rfl)) (hw _ (List.mem_of_getElem? (i := 41) rfl)) (hw _ (List.mem_of_getElem? (i := 43) rfl)) (hw _ (List.mem_of_getElem? (i := 42) rfl)) (hw _ (List.mem_of_getElem? (i := 44) rfl)) (hw _ (List.mem_of_getElem? (i := 9) rfl)) (by decide) (own_m8 hw a717 (2 : Int32) Z955 F952 ) (by decide) (by decide) (lenOf own_pd4 rfl) rfl (Nat.le_of_eq rfl) at_256 rfl rfl (by decide) (by decide) (fun v958 h959 hq960 => ?_)
            obtain ⟨rfl, rfl⟩ := hq960
            show own_Run p_ l e_ _ s_ m_ _ b_ mt_ c_ n0 _ h944 _ _ (mkF m_ 259 #[.val (.int p0), .val (.int p1), .val (.int p2), .val (.int p3), .val (.int p4), .val (.int x296), .val (.int (1 : Int32)), .val (.int x673), .val (.int x677), .val (.int x684), .val (.int x691), .val (.int x698), .val (.int x705), .val (.int x712), .val (.ref a717), .val (.int (1 : Int32)), .val (.int (1 : Int32)), .val (.int (3 : Int32)), .val (.int (0 : Int32)), .val (.int (2 : Int32)), .val (.int (2 : Int32)), .val (.int (1 : Int32)), .unset, .unset, .unset, .unset, .unset, .unset] [(.int (2 : Int32))])
            refine own_istore C (pc' := 261) (Ls' := #[.val (.int p0), .val (.int p1), .val (.int p2), .val (.int p3), .val (.int p4), .val (.int x296), .val (.int (1 : Int32)), .val (.int x673), .val (.int x677), .val (.int x684), .val (.int x691), .val (.int x698), .val (.int x705), .val (.int x712), .val (.ref a717), .val (.int (1 : Int32)), .val (.int (1 : Int32)), .val (.int (3 : Int32)), .val (.int (0 : Int32)), .val (.int (2 : Int32)), .val (.int (2 : Int32)), .val (.int (1 : Int32)), .val (.int (2 : Int32)), .unset, .unset, .unset, .unset, .unset]) at_259 rfl rfl ?_
            refine own_aload C (pc' := 263) at_261 rfl rfl rfl ?_
            refine own_iload C (pc' := 265) at_263 rfl rfl ?_
            refine own_iload C (pc' := 267) at_265 rfl rfl ?_
            refine own_callV C (pc' := 270) (y := (⟨"com/example/words_to_weights/wordstoweights/model/PairCounter", "addOrdered", "(II)I"⟩ : MethodName)) (a := a717) (argsL := [(.int x691), (.int x698)]) (rest := []) 0 F947 (hw _ (List.mem_of_getElem? (i := 29) rfl)) (hw _ (List.mem_of_getElem? (i := 30) rfl)) (hw _ (List.mem_of_getElem? (i := 32) rfl)) (hw _ (List.mem_of_getElem? (i := 31) rfl)) (hw _ (List.mem_of_getElem? (i := 33) rfl)) (hw _ (List.mem_of_getElem? (i := 9) rfl)) (by decide) (own_addN hw a717 M (own_upd (own_upd (fun _ => (-1 : Int32)) I1 (1 : Int32)) I1 (1 : Int32)) (2 : Int32) x691 x698 I2 x296 x673 a732 a733 (3 : Int32) Z955 F947 ga719 ga735 ne750 F948 F949 F950 F951 F952 F953 hiI2 hbI2 (by simp [own_upd, h21, Ne.symm h21, h32]) (by decide)) (by decide) (by decide) (lenOf own_pd2 rfl) rfl (Nat.le_of_eq rfl) at_267 rfl rfl (by decide) (by decide) (fun v961 h962 hq963 => ?_)
            obtain ⟨rfl, K964, F965, F966, F967, F968, F969, F970, F971⟩ := hq963
            have Z973 : n0 ≤ h962.size := Nat.le_trans Z955 K964.1
            have F974 : own_AI Z h962 a733 M (own_upd (own_upd (fun _ => (-1 : Int32)) J1 (0 : Int32)) J2 (0 : Int32)) := own_A.keep F957 K964 (ninS (Ne.symm ne751) (ninS (Ne.symm F749) nin0))
            have F975 : Exa Z h962 a717 "com/example/words_to_weights/wordstoweights/model/PairCounter" := Exa.keep F947 K964
            show own_Run p_ l e_ _ s_ m_ _ b_ mt_ c_ n0 _ h962 _ _ (mkF m_ 270 #[.val (.int p0), .val (.int p1), .val (.int p2), .val (.int p3), .val (.int p4), .val (.int x296), .val (.int (1 : Int32)), .val (.int x673), .val (.int x677), .val (.int x684), .val (.int x691), .val (.int x698), .val (.int x705), .val (.int x712), .val (.ref a717), .val (.int (1 : Int32)), .val (.int (1 : Int32)), .val (.int (3 : Int32)), .val (.int (0 : Int32)), .val (.int (2 : Int32)), .val (.int (2 : Int32)), .val (.int (1 : Int32)), .val (.int (2 : Int32)), .unset, .unset, .unset, .unset, .unset] [(.int (2 : Int32))])
            refine own_istore C (pc' := 272) (Ls' := #[.val (.int p0), .val (.int p1), .val (.int p2), .val (.int p3), .val (.int p4), .val (.int x296), .val (.int (1 : Int32)), .val (.int x673), .val (.int x677), .val (.int x684), .val (.int x691), .val (.int x698), .val (.int x705), .val (.int x712), .val (.ref a717), .val (.int (1 : Int32)), .val (.int (1 : Int32)), .val (.int (3 : Int32)), .val (.int (0 : Int32)), .val (.int (2 : Int32)), .val (.int (2 : Int32)), .val (.int (1 : Int32)), .val (.int (2 : Int32)), .val (.int (2 : Int32)), .unset, .unset, .unset, .unset]) at_270 rfl rfl ?_
            refine own_aload C (pc' := 274) at_272 rfl rfl rfl ?_
            refine own_iload C (pc' := 276) at_274 rfl rfl ?_
            refine own_iload C (pc' := 278) at_276 rfl rfl ?_
            refine own_callV C (pc' := 281) (y := (⟨"com/example/words_to_weights/wordstoweights/model/PairCounter", "addOrdered", "(II)I"⟩ : MethodName)) (a := a717) (argsL := [(.int x705), (.int x712)]) (rest := []) 0 F965 (hw _ (List.mem_of_getElem? (i := 29) rfl)) (hw _ (List.mem_of_getElem? (i := 30) rfl)) (hw _ (List.mem_of_getElem? (i := 32) rfl)) (hw _ (List.mem_of_getElem? (i := 31) rfl)) (hw _ (List.mem_of_getElem? (i := 33) rfl)) (hw _ (List.mem_of_getElem? (i := 9) rfl)) (by decide) (own_addO hw a717 M (own_upd (own_upd (own_upd (own_upd (fun _ => (-1 : Int32)) I1 (1 : Int32)) I1 (1 : Int32)) I2 (2 : Int32)) I2 (2 : Int32)) x705 x712 I3 x296 a732 (2 : Int32) Z973 F965 F966 F968 F971 hiI3 hbI3 (by simp [own_upd, h21, Ne.symm h21, h32]) (by decide)) (by decide) (by decide) (lenOf own_pd2 rfl) rfl (Nat.le_of_eq rfl) at_278 rfl rfl (by decide) (by decide) (fun v976 h977 hq978 => ?_)
            obtain ⟨rfl, rfl⟩ := hq978
            show own_Run p_ l e_ _ s_ m_ _ b_ mt_ c_ n0 _ h962 _ _ (mkF m_ 281 #[.val (.int p0), .val (.int p1), .val (.int p2), .val (.int p3), .val (.int p4), .val (.int x296), .val (.int (1 : Int32)), .val (.int x673), .val (.int x677), .val (.int x684), .val (.int x691), .val (.int x698), .val (.int x705), .val (.int x712), .val (.ref a717), .val (.int (1 : Int32)), .val (.int (1 : Int32)), .val (.int (3 : Int32)), .val (.int (0 : Int32)), .val (.int (2 : Int32)), .val (.int (2 : Int32)), .val (.int (1 : Int32)), .val (.int (2 : Int32)), .val (.int (2 : Int32)), .unset, .unset, .unset, .unset] [(.int (2 : Int32))])
            refine own_istore C (pc' := 283) (Ls' := #[.val (.int p0), .val (.int p1), .val (.int p2), .val (.int p3), .val (.int p4), .val (.int x296), .val (.int (1 : Int32)), .val (.int x673), .val (.int x677), .val (.int x684), .val (.int x691), .val (.int x698), .val (.int x705), .val (.int x712), .val (.ref a717), .val (.int (1 : Int32)), .val (.int (1 : Int32)), .val (.int (3 : Int32)), .val (.int (0 : Int32)), .val (.int (2 : Int32)), .val (.int (2 : Int32)), .val (.int (1 : Int32)), .val (.int (2 : Int32)), .val (.int (2 : Int32)), .val (.int (2 : Int32)), .unset, .unset, .unset]) at_281 rfl rfl ?_
            refine own_aload C (pc' := 285) at_283 rfl rfl rfl ?_
            refine own_callV C (pc' := 288) (y := (⟨"com/example/words_to_weights/wordstoweights/model/PairCounter", "slots", "()I"⟩ : MethodName)) (a := a717) (argsL := []) (rest := []) 0 F965 (hw _ (List.mem_of_getElem? (i := 40) rfl)) (hw _ (List.mem_of_getElem? (i := 41) rfl)) (hw _ (List.mem_of_getElem? (i := 43) rfl)) (hw _ (List.mem_of_getElem? (i := 42) rfl)) (hw _ (List.mem_of_getElem? (i := 44) rfl)) (hw _ (List.mem_of_getElem? (i := 9) rfl)) (by decide) (own_m8 hw a717 (3 : Int32) Z973 F970 ) (by decide) (by decide) (lenOf own_pd4 rfl) rfl (Nat.le_of_eq rfl) at_285 rfl rfl (by decide) (by decide) (fun v979 h980 hq981 => ?_)
            obtain ⟨rfl, rfl⟩ := hq981
            show own_Run p_ l e_ _ s_ m_ _ b_ mt_ c_ n0 _ h962 _ _ (mkF m_ 288 #[.val (.int p0), .val (.int p1), .val (.int p2), .val (.int p3), .val (.int p4), .val (.int x296), .val (.int (1 : Int32)), .val (.int x673), .val (.int x677), .val (.int x684), .val (.int x691), .val (.int x698), .val (.int x705), .val (.int x712), .val (.ref a717), .val (.int (1 : Int32)), .val (.int (1 : Int32)), .val (.int (3 : Int32)), .val (.int (0 : Int32)), .val (.int (2 : Int32)), .val (.int (2 : Int32)), .val (.int (1 : Int32)), .val (.int (2 : Int32)), .val (.int (2 : Int32)), .val (.int (2 : Int32)), .unset, .unset, .unset] [(.int (3 : Int32))])
            refine own_istore C (pc' := 290) (Ls' := #[.val (.int p0), .val (.int p1), .val (.int p2), .val (.int p3), .val (.int p4), .val (.int x296), .val (.int (1 : Int32)), .val (.int x673), .val (.int x677), .val (.int x684), .val (.int x691), .val (.int x698), .val (.int x705), .val (.int x712), .val (.ref a717), .val (.int (1 : Int32)), .val (.int (1 : Int32)), .val (.int (3 : Int32)), .val (.int (0 : Int32)), .val (.int (2 : Int32)), .val (.int (2 : Int32)), .val (.int (1 : Int32)), .val (.int (2 : Int32)), .val (.int (2 : Int32)), .val (.int (2 : Int32)), .val (.int (3 : Int32)), .unset, .unset]) at_288 rfl rfl ?_
            refine own_aload C (pc' := 292) at_290 rfl rfl rfl ?_
            refine own_iload C (pc' := 294) at_292 rfl rfl ?_
            refine own_iload C (pc' := 296) at_294 rfl rfl ?_
            refine own_callV C (pc' := 299) (y := (⟨"com/example/words_to_weights/wordstoweights/model/PairCounter", "addOrdered", "(II)I"⟩ : MethodName)) (a := a717) (argsL := [(.int x677), (.int x684)]) (rest := []) 0 F965 (hw _ (List.mem_of_getElem? (i := 29) rfl)) (hw _ (List.mem_of_getElem? (i := 30) rfl)) (hw _ (List.mem_of_getElem? (i := 32) rfl)) (hw _ (List.mem_of_getElem? (i := 31) rfl)) (hw _ (List.mem_of_getElem? (i := 33) rfl)) (hw _ (List.mem_of_getElem? (i := 9) rfl)) (by decide) (own_addO hw a717 M (own_upd (own_upd (own_upd (own_upd (fun _ => (-1 : Int32)) I1 (1 : Int32)) I1 (1 : Int32)) I2 (2 : Int32)) I2 (2 : Int32)) x677 x684 I1 x296 a732 (1 : Int32) Z973 F965 F966 F968 F971 hiI1 hbI1 (by simp [own_upd, h21, Ne.symm h21, h32]) (by decide)) (by decide) (by decide) (lenOf own_pd2 rfl) rfl (Nat.le_of_eq rfl) at_296 rfl rfl (by decide) (by decide) (fun v982 h983 hq984 => ?_)
            obtain ⟨rfl, rfl⟩ := hq984
            show own_Run p_ l e_ _ s_ m_ _ b_ mt_ c_ n0 _ h962 _ _ (mkF m_ 299 #[.val (.int p0), .val (.int p1), .val (.int p2), .val (.int p3), .val (.int p4), .val (.int x296), .val (.int (1 : Int32)), .val (.int x673), .val (.int x677), .val (.int x684), .val (.int x691), .val (.int x698), .val (.int x705), .val (.int x712), .val (.ref a717), .val (.int (1 : Int32)), .val (.int (1 : Int32)), .val (.int (3 : Int32)), .val (.int (0 : Int32)), .val (.int (2 : Int32)), .val (.int (2 : Int32)), .val (.int (1 : Int32)), .val (.int (2 : Int32)), .val (.int (2 : Int32)), .val (.int (2 : Int32)), .val (.int (3 : Int32)), .unset, .unset] [(.int (1 : Int32))])
            refine own_istore C (pc' := 301) (Ls' := #[.val (.int p0), .val (.int p1), .val (.int p2), .val (.int p3), .val (.int p4), .val (.int x296), .val (.int (1 : Int32)), .val (.int x673), .val (.int x677), .val (.int x684), .val (.int x691), .val (.int x698), .val (.int x705), .val (.int x712), .val (.ref a717), .val (.int (1 : Int32)), .val (.int (1 : Int32)), .val (.int (3 : Int32)), .val (.int (0 : Int32)), .val (.int (2 : Int32)), .val (.int (2 : Int32)), .val (.int (1 : Int32)), .val (.int (2 : Int32)), .val (.int (2 : Int32)), .val (.int (2 : Int32)), .val (.int (3 : Int32)), .val (.int (1 : Int32)), .unset]) at_299 rfl rfl ?_
            refine own_aload C (pc' := 303) at_301 rfl rfl rfl ?_
            refine own_callV C (pc' := 306) (y := (⟨"com/example/words_to_weights/wordstoweights/model/PairCounter", "slots", "()I"⟩ : MethodName)) (a := a717) (argsL := []) (rest := []) 0 F965 (hw _ (List.mem_of_getElem? (i := 40) rfl)) (hw _ (List.mem_of_getElem? (i := 41) rfl)) (hw _ (List.mem_of_getElem? (i := 43) rfl)) (hw _ (List.mem_of_getElem? (i := 42) rfl)) (hw _ (List.mem_of_getElem? (i := 44) rfl)) (hw _ (List.mem_of_getElem? (i := 9) rfl)) (by decide) (own_m8 hw a717 (3 : Int32) Z973 F970 ) (by decide) (by decide) (lenOf own_pd4 rfl) rfl (Nat.le_of_eq rfl) at_303 rfl rfl (by decide) (by decide) (fun v985 h986 hq987 => ?_)
            obtain ⟨rfl, rfl⟩ := hq987
            show own_Run p_ l e_ _ s_ m_ _ b_ mt_ c_ n0 _ h962 _ _ (mkF m_ 306 #[.val (.int p0), .val (.int p1), .val (.int p2), .val (.int p3), .val (.int p4), .val (.int x296), .val (.int (1 : Int32)), .val (.int x673), .val (.int x677), .val (.int x684), .val (.int x691), .val (.int x698), .val (.int x705), .val (.int x712), .val (.ref a717), .val (.int (1 : Int32)), .val (.int (1 : Int32)), .val (.int (3 : Int32)), .val (.int (0 : Int32)), .val (.int (2 : Int32)), .val (.int (2 : Int32)), .val (.int (1 : Int32)), .val (.int (2 : Int32)), .val (.int (2 : Int32)), .val (.int (2 : Int32)), .val (.int (3 : Int32)), .val (.int (1 : Int32)), .unset] [(.int (3 : Int32))])
            refine own_istore C (pc' := 308) (Ls' := #[.val (.int p0), .val (.int p1), .val (.int p2), .val (.int p3), .val (.int p4), .val (.int x296), .val (.int (1 : Int32)), .val (.int x673), .val (.int x677), .val (.int x684), .val (.int x691), .val (.int x698), .val (.int x705), .val (.int x712), .val (.ref a717), .val (.int (1 : Int32)), .val (.int (1 : Int32)), .val (.int (3 : Int32)), .val (.int (0 : Int32)), .val (.int (2 : Int32)), .val (.int (2 : Int32)), .val (.int (1 : Int32)), .val (.int (2 : Int32)), .val (.int (2 : Int32)), .val (.int (2 : Int32)), .val (.int (3 : Int32)), .val (.int (1 : Int32)), .val (.int (3 : Int32))]) at_306 rfl rfl ?_
            refine own_iload C (pc' := 310) at_308 rfl rfl ?_
            refine own_iload C (pc' := 312) at_310 rfl rfl ?_
            refine own_ii_ne C (pc1 := 363) (pc2 := 315) at_312 rfl rfl (fun c988 => absurd c988 (by decide)) (fun c988 => ?_)
            refine own_iload C (pc' := 317) at_315 rfl rfl ?_
            refine own_iload C (pc' := 319) at_317 rfl rfl ?_
            refine own_iconst C (pc' := 320) (v := (1 : Int32)) at_319 rfl (by decide) ?_
            refine own_iaddV C (pc' := 321) (v := (2 : Int32)) at_320 rfl (by decide) ?_
            refine own_ii_ne C (pc1 := 363) (pc2 := 324) at_321 rfl rfl (fun c989 => absurd c989 (by decide)) (fun c989 => ?_)
            refine own_iload C (pc' := 326) at_324 rfl rfl ?_
            refine own_iload C (pc' := 328) at_326 rfl rfl ?_
            refine own_ii_ne C (pc1 := 363) (pc2 := 331) at_328 rfl rfl (fun c990 => absurd c990 (by decide)) (fun c990 => ?_)
            refine own_iload C (pc' := 333) at_331 rfl rfl ?_
            refine own_iload C (pc' := 335) at_333 rfl rfl ?_
            refine own_ii_ne C (pc1 := 363) (pc2 := 338) at_335 rfl rfl (fun c991 => absurd c991 (by decide)) (fun c991 => ?_)
            refine own_iload C (pc' := 340) at_338 rfl rfl ?_
            refine own_iload C (pc' := 342) at_340 rfl rfl ?_
            refine own_ii_ne C (pc1 := 363) (pc2 := 345) at_342 rfl rfl (fun c992 => absurd c992 (by decide)) (fun c992 => ?_)
            refine own_iload C (pc' := 347) at_345 rfl rfl ?_
            refine own_iload C (pc' := 349) at_347 rfl rfl ?_
            refine own_ii_ne C (pc1 := 363) (pc2 := 352) at_349 rfl rfl (fun c993 => absurd c993 (by decide)) (fun c993 => ?_)
            refine own_iload C (pc' := 354) at_352 rfl rfl ?_
            refine own_iload C (pc' := 356) at_354 rfl rfl ?_
            refine own_ii_ne C (pc1 := 363) (pc2 := 359) at_356 rfl rfl (fun c994 => absurd c994 (by decide)) (fun c994 => ?_)
            refine own_iconst C (pc' := 360) (v := (1 : Int32)) at_359 rfl (by decide) ?_
            refine own_goto C (pc' := 364) at_360 rfl ?_
            exact own_ret C (t := .boolean) rfl rfl (Or.inl ⟨rfl, by simp, _, rfl⟩) at_364 (by decide) (by decide) (rfl)
          · show own_Run p_ l e_ _ s_ m_ _ b_ mt_ c_ n0 _ h765 _ _ (mkF m_ 243 #[.val (.int p0), .val (.int p1), .val (.int p2), .val (.int p3), .val (.int p4), .val (.int x296), .val (.int (1 : Int32)), .val (.int x673), .val (.int x677), .val (.int x684), .val (.int x691), .val (.int x698), .val (.int x705), .val (.int x712), .val (.ref a717), .val (.int (1 : Int32)), .val (.int (1 : Int32)), .val (.int (4 : Int32)), .val (.int (0 : Int32)), .val (.int (2 : Int32)), .val (.int (3 : Int32)), .unset, .unset, .unset, .unset, .unset, .unset, .unset] [])
            refine own_aload C (pc' := 245) at_243 rfl rfl rfl ?_
            refine own_iload C (pc' := 247) at_245 rfl rfl ?_
            refine own_iload C (pc' := 249) at_247 rfl rfl ?_
            refine own_callV C (pc' := 252) (y := (⟨"com/example/words_to_weights/wordstoweights/model/PairCounter", "addOrdered", "(II)I"⟩ : MethodName)) (a := a717) (argsL := [(.int x677), (.int x684)]) (rest := []) 0 F768 (hw _ (List.mem_of_getElem? (i := 29) rfl)) (hw _ (List.mem_of_getElem? (i := 30) rfl)) (hw _ (List.mem_of_getElem? (i := 32) rfl)) (hw _ (List.mem_of_getElem? (i := 31) rfl)) (hw _ (List.mem_of_getElem? (i := 33) rfl)) (hw _ (List.mem_of_getElem? (i := 9) rfl)) (by decide) (own_addN hw a717 M (fun _ => (-1 : Int32)) (1 : Int32) x677 x684 I1 x296 x673 a732 a733 (2 : Int32) Z776 F768 ga719 ga735 ne750 F769 F770 F771 F772 F773 F778 hiI1 hbI1 (by simp [own_upd, h21, Ne.symm h21, h31, Ne.symm h31, h32, Ne.symm h32]) (by decide)) (by decide) (by decide) (lenOf own_pd2 rfl) rfl (Nat.le_of_eq rfl) at_249 rfl rfl (by decide) (by decide) (fun v995 h996 hq997 => ?_)
            obtain ⟨rfl, K998, F999, F1000, F1001, F1002, F1003, F1004, F1005⟩ := hq997
            have Z1007 : n0 ≤ h996.size := Nat.le_trans Z776 K998.1
            have F1008 : Exa Z h996 a717 "com/example/words_to_weights/wordstoweights/model/PairCounter" := Exa.keep F768 K998
            have F1009 : own_AI Z h996 a733 M (own_upd (own_upd (fun _ => (-1 : Int32)) J1 (0 : Int32)) J2 (0 : Int32)) := own_A.keep F774 K998 (ninS (Ne.symm ne751) (ninS (Ne.symm F749) nin0))
            show own_Run p_ l e_ _ s_ m_ _ b_ mt_ c_ n0 _ h996 _ _ (mkF m_ 252 #[.val (.int p0), .val (.int p1), .val (.int p2), .val (.int p3), .val (.int p4), .val (.int x296), .val (.int (1 : Int32)), .val (.int x673), .val (.int x677), .val (.int x684), .val (.int x691), .val (.int x698), .val (.int x705), .val (.int x712), .val (.ref a717), .val (.int (1 : Int32)), .val (.int (1 : Int32)), .val (.int (4 : Int32)), .val (.int (0 : Int32)), .val (.int (2 : Int32)), .val (.int (3 : Int32)), .unset, .unset, .unset, .unset, .unset, .unset, .unset] [(.int (1 : Int32))])
            refine own_istore C (pc' := 254) (Ls' := #[.val (.int p0), .val (.int p1), .val (.int p2), .val (.int p3), .val (.int p4), .val (.int x296), .val (.int (1 : Int32)), .val (.int x673), .val (.int x677), .val (.int x684), .val (.int x691), .val (.int x698), .val (.int x705), .val (.int x712), .val (.ref a717), .val (.int (1 : Int32)), .val (.int (1 : Int32)), .val (.int (4 : Int32)), .val (.int (0 : Int32)), .val (.int (2 : Int32)), .val (.int (3 : Int32)), .val (.int (1 : Int32)), .unset, .unset, .unset, .unset, .unset, .unset]) at_252 rfl rfl ?_
            refine own_aload C (pc' := 256) at_254 rfl rfl rfl ?_
            refine own_callV C (pc' := 259) (y := (⟨"com/example/words_to_weights/wordstoweights/model/PairCounter", "slots", "()I"⟩ : MethodName)) (a := a717) (argsL := []) (rest := []) 0 F999 (hw _ (List.mem_of_getElem? (i := 40) rfl)) (hw _ (List.mem_of_getElem? (i := 41) rfl)) (hw _ (List.mem_of_getElem? (i := 43) rfl)) (hw _ (List.mem_of_getElem? (i := 42) rfl)) (hw _ (List.mem_of_getElem? (i := 44) rfl)) (hw _ (List.mem_of_getElem? (i := 9) rfl)) (by decide) (own_m8 hw a717 (2 : Int32) Z1007 F1004 ) (by decide) (by decide) (lenOf own_pd4 rfl) rfl (Nat.le_of_eq rfl) at_256 rfl rfl (by decide) (by decide) (fun v1010 h1011 hq1012 => ?_)
            obtain ⟨rfl, rfl⟩ := hq1012
            show own_Run p_ l e_ _ s_ m_ _ b_ mt_ c_ n0 _ h996 _ _ (mkF m_ 259 #[.val (.int p0), .val (.int p1), .val (.int p2), .val (.int p3), .val (.int p4), .val (.int x296), .val (.int (1 : Int32)), .val (.int x673), .val (.int x677), .val (.int x684), .val (.int x691), .val (.int x698), .val (.int x705), .val (.int x712), .val (.ref a717), .val (.int (1 : Int32)), .val (.int (1 : Int32)), .val (.int (4 : Int32)), .val (.int (0 : Int32)), .val (.int (2 : Int32)), .val (.int (3 : Int32)), .val (.int (1 : Int32)), .unset, .unset, .unset, .unset, .unset, .unset] [(.int (2 : Int32))])
            refine own_istore C (pc' := 261) (Ls' := #[.val (.int p0), .val (.int p1), .val (.int p2), .val (.int p3), .val (.int p4), .val (.int x296), .val (.int (1 : Int32)), .val (.int x673), .val (.int x677), .val (.int x684), .val (.int x691), .val (.int x698), .val (.int x705), .val (.int x712), .val (.ref a717), .val (.int (1 : Int32)), .val (.int (1 : Int32)), .val (.int (4 : Int32)), .val (.int (0 : Int32)), .val (.int (2 : Int32)), .val (.int (3 : Int32)), .val (.int (1 : Int32)), .val (.int (2 : Int32)), .unset, .unset, .unset, .unset, .unset]) at_259 rfl rfl ?_
            refine own_aload C (pc' := 263) at_261 rfl rfl rfl ?_
            refine own_iload C (pc' := 265) at_263 rfl rfl ?_
            refine own_iload C (pc' := 267) at_265 rfl rfl ?_
            refine own_callV C (pc' := 270) (y := (⟨"com/example/words_to_weights/wordstoweights/model/PairCounter", "addOrdered", "(II)I"⟩ : MethodName)) (a := a717) (argsL := [(.int x691), (.int x698)]) (rest := []) 0 F999 (hw _ (List.mem_of_getElem? (i := 29) rfl)) (hw _ (List.mem_of_getElem? (i := 30) rfl)) (hw _ (List.mem_of_getElem? (i := 32) rfl)) (hw _ (List.mem_of_getElem? (i := 31) rfl)) (hw _ (List.mem_of_getElem? (i := 33) rfl)) (hw _ (List.mem_of_getElem? (i := 9) rfl)) (by decide) (own_addN hw a717 M (own_upd (own_upd (fun _ => (-1 : Int32)) I1 (1 : Int32)) I1 (1 : Int32)) (2 : Int32) x691 x698 I2 x296 x673 a732 a733 (3 : Int32) Z1007 F999 ga719 ga735 ne750 F1000 F1001 F1002 F1003 F1004 F1005 hiI2 hbI2 (by simp [own_upd, h21, Ne.symm h21, h31, Ne.symm h31, h32, Ne.symm h32]) (by decide)) (by decide) (by decide) (lenOf own_pd2 rfl) rfl (Nat.le_of_eq rfl) at_267 rfl rfl (by decide) (by decide) (fun v1013 h1014 hq1015 => ?_)
            obtain ⟨rfl, K1016, F1017, F1018, F1019, F1020, F1021, F1022, F1023⟩ := hq1015
            have Z1025 : n0 ≤ h1014.size := Nat.le_trans Z1007 K1016.1
            have F1026 : own_AI Z h1014 a733 M (own_upd (own_upd (fun _ => (-1 : Int32)) J1 (0 : Int32)) J2 (0 : Int32)) := own_A.keep F1009 K1016 (ninS (Ne.symm ne751) (ninS (Ne.symm F749) nin0))
            have F1027 : Exa Z h1014 a717 "com/example/words_to_weights/wordstoweights/model/PairCounter" := Exa.keep F999 K1016
            show own_Run p_ l e_ _ s_ m_ _ b_ mt_ c_ n0 _ h1014 _ _ (mkF m_ 270 #[.val (.int p0), .val (.int p1), .val (.int p2), .val (.int p3), .val (.int p4), .val (.int x296), .val (.int (1 : Int32)), .val (.int x673), .val (.int x677), .val (.int x684), .val (.int x691), .val (.int x698), .val (.int x705), .val (.int x712), .val (.ref a717), .val (.int (1 : Int32)), .val (.int (1 : Int32)), .val (.int (4 : Int32)), .val (.int (0 : Int32)), .val (.int (2 : Int32)), .val (.int (3 : Int32)), .val (.int (1 : Int32)), .val (.int (2 : Int32)), .unset, .unset, .unset, .unset, .unset] [(.int (2 : Int32))])
            refine own_istore C (pc' := 272) (Ls' := #[.val (.int p0), .val (.int p1), .val (.int p2), .val (.int p3), .val (.int p4), .val (.int x296), .val (.int (1 : Int32)), .val (.int x673), .val (.int x677), .val (.int x684), .val (.int x691), .val (.int x698), .val (.int x705), .val (.int x712), .val (.ref a717), .val (.int (1 : Int32)), .val (.int (1 : Int32)), .val (.int (4 : Int32)), .val (.int (0 : Int32)), .val (.int (2 : Int32)), .val (.int (3 : Int32)), .val (.int (1 : Int32)), .val (.int (2 : Int32)), .val (.int (2 : Int32)), .unset, .unset, .unset, .unset]) at_270 rfl rfl ?_
            refine own_aload C (pc' := 274) at_272 rfl rfl rfl ?_
            refine own_iload C (pc' := 276) at_274 rfl rfl ?_
            refine own_iload C (pc' := 278) at_276 rfl rfl ?_
            refine own_callV C (pc' := 281) (y := (⟨"com/example/words_to_weights/wordstoweights/model/PairCounter", "addOrdered", "(II)I"⟩ : MethodName)) (a := a717) (argsL := [(.int x705), (.int x712)]) (rest := []) 0 F1017 (hw _ (List.mem_of_getElem? (i := 29) rfl)) (hw _ (List.mem_of_getElem? (i := 30) rfl)) (hw _ (List.mem_of_getElem? (i := 32) rfl)) (hw _ (List.mem_of_getElem? (i := 31) rfl)) (hw _ (List.mem_of_getElem? (i := 33) rfl)) (hw _ (List.mem_of_getElem? (i := 9) rfl)) (by decide) (own_addN hw a717 M (own_upd (own_upd (own_upd (own_upd (fun _ => (-1 : Int32)) I1 (1 : Int32)) I1 (1 : Int32)) I2 (2 : Int32)) I2 (2 : Int32)) (3 : Int32) x705 x712 I3 x296 x673 a732 a733 (4 : Int32) Z1025 F1017 ga719 ga735 ne750 F1018 F1019 F1020 F1021 F1022 F1023 hiI3 hbI3 (by simp [own_upd, h21, Ne.symm h21, h31, Ne.symm h31, h32, Ne.symm h32]) (by decide)) (by decide) (by decide) (lenOf own_pd2 rfl) rfl (Nat.le_of_eq rfl) at_278 rfl rfl (by decide) (by decide) (fun v1028 h1029 hq1030 => ?_)
            obtain ⟨rfl, K1031, F1032, F1033, F1034, F1035, F1036, F1037, F1038⟩ := hq1030
            have Z1040 : n0 ≤ h1029.size := Nat.le_trans Z1025 K1031.1
            have F1041 : own_AI Z h1029 a733 M (own_upd (own_upd (fun _ => (-1 : Int32)) J1 (0 : Int32)) J2 (0 : Int32)) := own_A.keep F1026 K1031 (ninS (Ne.symm ne751) (ninS (Ne.symm F749) nin0))
            have F1042 : Exa Z h1029 a717 "com/example/words_to_weights/wordstoweights/model/PairCounter" := Exa.keep F1017 K1031
            show own_Run p_ l e_ _ s_ m_ _ b_ mt_ c_ n0 _ h1029 _ _ (mkF m_ 281 #[.val (.int p0), .val (.int p1), .val (.int p2), .val (.int p3), .val (.int p4), .val (.int x296), .val (.int (1 : Int32)), .val (.int x673), .val (.int x677), .val (.int x684), .val (.int x691), .val (.int x698), .val (.int x705), .val (.int x712), .val (.ref a717), .val (.int (1 : Int32)), .val (.int (1 : Int32)), .val (.int (4 : Int32)), .val (.int (0 : Int32)), .val (.int (2 : Int32)), .val (.int (3 : Int32)), .val (.int (1 : Int32)), .val (.int (2 : Int32)), .val (.int (2 : Int32)), .unset, .unset, .unset, .unset] [(.int (3 : Int32))])
            refine own_istore C (pc' := 283) (Ls' := #[.val (.int p0), .val (.int p1), .val (.int p2), .val (.int p3), .val (.int p4), .val (.int x296), .val (.int (1 : Int32)), .val (.int x673), .val (.int x677), .val (.int x684), .val (.int x691), .val (.int x698), .val (.int x705), .val (.int x712), .val (.ref a717), .val (.int (1 : Int32)), .val (.int (1 : Int32)), .val (.int (4 : Int32)), .val (.int (0 : Int32)), .val (.int (2 : Int32)), .val (.int (3 : Int32)), .val (.int (1 : Int32)), .val (.int (2 : Int32)), .val (.int (2 : Int32)), .val (.int (3 : Int32)), .unset, .unset, .unset]) at_281 rfl rfl ?_
            refine own_aload C (pc' := 285) at_283 rfl rfl rfl ?_
            refine own_callV C (pc' := 288) (y := (⟨"com/example/words_to_weights/wordstoweights/model/PairCounter", "slots", "()I"⟩ : MethodName)) (a := a717) (argsL := []) (rest := []) 0 F1032 (hw _ (List.mem_of_getElem? (i := 40) rfl)) (hw _ (List.mem_of_getElem? (i := 41) rfl)) (hw _ (List.mem_of_getElem? (i := 43) rfl)) (hw _ (List.mem_of_getElem? (i := 42) rfl)) (hw _ (List.mem_of_getElem? (i := 44) rfl)) (hw _ (List.mem_of_getElem? (i := 9) rfl)) (by decide) (own_m8 hw a717 (4 : Int32) Z1040 F1037 ) (by decide) (by decide) (lenOf own_pd4 rfl) rfl (Nat.le_of_eq rfl) at_285 rfl rfl (by decide) (by decide) (fun v1043 h1044 hq1045 => ?_)
            obtain ⟨rfl, rfl⟩ := hq1045
            show own_Run p_ l e_ _ s_ m_ _ b_ mt_ c_ n0 _ h1029 _ _ (mkF m_ 288 #[.val (.int p0), .val (.int p1), .val (.int p2), .val (.int p3), .val (.int p4), .val (.int x296), .val (.int (1 : Int32)), .val (.int x673), .val (.int x677), .val (.int x684), .val (.int x691), .val (.int x698), .val (.int x705), .val (.int x712), .val (.ref a717), .val (.int (1 : Int32)), .val (.int (1 : Int32)), .val (.int (4 : Int32)), .val (.int (0 : Int32)), .val (.int (2 : Int32)), .val (.int (3 : Int32)), .val (.int (1 : Int32)), .val (.int (2 : Int32)), .val (.int (2 : Int32)), .val (.int (3 : Int32)), .unset, .unset, .unset] [(.int (4 : Int32))])
            refine own_istore C (pc' := 290) (Ls' := #[.val (.int p0), .val (.int p1), .val (.int p2), .val (.int p3), .val (.int p4), .val (.int x296), .val (.int (1 : Int32)), .val (.int x673), .val (.int x677), .val (.int x684), .val (.int x691), .val (.int x698), .val (.int x705), .val (.int x712), .val (.ref a717), .val (.int (1 : Int32)), .val (.int (1 : Int32)), .val (.int (4 : Int32)), .val (.int (0 : Int32)), .val (.int (2 : Int32)), .val (.int (3 : Int32)), .val (.int (1 : Int32)), .val (.int (2 : Int32)), .val (.int (2 : Int32)), .val (.int (3 : Int32)), .val (.int (4 : Int32)), .unset, .unset]) at_288 rfl rfl ?_
            refine own_aload C (pc' := 292) at_290 rfl rfl rfl ?_
            refine own_iload C (pc' := 294) at_292 rfl rfl ?_
            refine own_iload C (pc' := 296) at_294 rfl rfl ?_
            refine own_callV C (pc' := 299) (y := (⟨"com/example/words_to_weights/wordstoweights/model/PairCounter", "addOrdered", "(II)I"⟩ : MethodName)) (a := a717) (argsL := [(.int x677), (.int x684)]) (rest := []) 0 F1032 (hw _ (List.mem_of_getElem? (i := 29) rfl)) (hw _ (List.mem_of_getElem? (i := 30) rfl)) (hw _ (List.mem_of_getElem? (i := 32) rfl)) (hw _ (List.mem_of_getElem? (i := 31) rfl)) (hw _ (List.mem_of_getElem? (i := 33) rfl)) (hw _ (List.mem_of_getElem? (i := 9) rfl)) (by decide) (own_addO hw a717 M (own_upd (own_upd (own_upd (own_upd (own_upd (own_upd (fun _ => (-1 : Int32)) I1 (1 : Int32)) I1 (1 : Int32)) I2 (2 : Int32)) I2 (2 : Int32)) I3 (3 : Int32)) I3 (3 : Int32)) x677 x684 I1 x296 a732 (1 : Int32) Z1040 F1032 F1033 F1035 F1038 hiI1 hbI1 (by simp [own_upd, h21, Ne.symm h21, h31, Ne.symm h31, h32, Ne.symm h32]) (by decide)) (by decide) (by decide) (lenOf own_pd2 rfl) rfl (Nat.le_of_eq rfl) at_296 rfl rfl (by decide) (by decide) (fun v1046 h1047 hq1048 => ?_)
            obtain ⟨rfl, rfl⟩ := hq1048
            show own_Run p_ l e_ _ s_ m_ _ b_ mt_ c_ n0 _ h1029 _ _ (mkF m_ 299 #[.val (.int p0), .val (.int p1), .val (.int p2), .val (.int p3), .val (.int p4), .val (.int x296), .val (.int (1 : Int32)), .val (.int x673), .val (.int x677), .val (.int x684), .val (.int x691), .val (.int x698), .val (.int x705), .val (.int x712), .val (.ref a717), .val (.int (1 : Int32)), .val (.int (1 : Int32)), .val (.int (4 : Int32)), .val (.int (0 : Int32)), .val (.int (2 : Int32)), .val (.int (3 : Int32)), .val (.int (1 : Int32)), .val (.int (2 : Int32)), .val (.int (2 : Int32)), .val (.int (3 : Int32)), .val (.int (4 : Int32)), .unset, .unset] [(.int (1 : Int32))])
            refine own_istore C (pc' := 301) (Ls' := #[.val (.int p0), .val (.int p1), .val (.int p2), .val (.int p3), .val (.int p4), .val (.int x296), .val (.int (1 : Int32)), .val (.int x673), .val (.int x677), .val (.int x684), .val (.int x691), .val (.int x698), .val (.int x705), .val (.int x712), .val (.ref a717), .val (.int (1 : Int32)), .val (.int (1 : Int32)), .val (.int (4 : Int32)), .val (.int (0 : Int32)), .val (.int (2 : Int32)), .val (.int (3 : Int32)), .val (.int (1 : Int32)), .val (.int (2 : Int32)), .val (.int (2 : Int32)), .val (.int (3 : Int32)), .val (.int (4 : Int32)), .val (.int (1 : Int32)), .unset]) at_299 rfl rfl ?_
            refine own_aload C (pc' := 303) at_301 rfl rfl rfl ?_
            refine own_callV C (pc' := 306) (y := (⟨"com/example/words_to_weights/wordstoweights/model/PairCounter", "slots", "()I"⟩ : MethodName)) (a := a717) (argsL := []) (rest := []) 0 F1032 (hw _ (List.mem_of_getElem? (i := 40) rfl)) (hw _ (List.mem_of_getElem? (i := 41) rfl)) (hw _ (List.mem_of_getElem? (i := 43) rfl)) (hw _ (List.mem_of_getElem? (i := 42) rfl)) (hw _ (List.mem_of_getElem? (i := 44) rfl)) (hw _ (List.mem_of_getElem? (i := 9) rfl)) (by decide) (own_m8 hw a717 (4 : Int32) Z1040 F1037 ) (by decide) (by decide) (lenOf own_pd4 rfl) rfl (Nat.le_of_eq rfl) at_303 rfl rfl (by decide) (by decide) (fun v1049 h1050 hq1051 => ?_)
            obtain ⟨rfl, rfl⟩ := hq1051
            show own_Run p_ l e_ _ s_ m_ _ b_ mt_ c_ n0 _ h1029 _ _ (mkF m_ 306 #[.val (.int p0), .val (.int p1), .val (.int p2), .val (.int p3), .val (.int p4), .val (.int x296), .val (.int (1 : Int32)), .val (.int x673), .val (.int x677), .val (.int x684), .val (.int x691), .val (.int x698), .val (.int x705), .val (.int x712), .val (.ref a717), .val (.int (1 : Int32)), .val (.int (1 : Int32)), .val (.int (4 : Int32)), .val (.int (0 : Int32)), .val (.int (2 : Int32)), .val (.int (3 : Int32)), .val (.int (1 : Int32)), .val (.int (2 : Int32)), .val (.int (2 : Int32)), .val (.int (3 : Int32)), .val (.int (4 : Int32)), .val (.int (1 : Int32)), .unset] [(.int (4 : Int32))])
            refine own_istore C (pc' := 308) (Ls' := #[.val (.int p0), .val (.int p1), .val (.int p2), .val (.int p3), .val (.int p4), .val (.int x296), .val (.int (1 : Int32)), .val (.int x673), .val (.int x677), .val (.int x684), .val (.int x691), .val (.int x698), .val (.int x705), .val (.int x712), .val (.ref a717), .val (.int (1 : Int32)), .val (.int (1 : Int32)), .val (.int (4 : Int32)), .val (.int (0 : Int32)), .val (.int (2 : Int32)), .val (.int (3 : Int32)), .val (.int (1 : Int32)), .val (.int (2 : Int32)), .val (.int (2 : Int32)), .val (.int (3 : Int32)), .val (.int (4 : Int32)), .val (.int (1 : Int32)), .val (.int (4 : Int32))]) at_306 rfl rfl ?_
            refine own_iload C (pc' := 310) at_308 rfl rfl ?_
            refine own_iload C (pc' := 312) at_310 rfl rfl ?_
            refine own_ii_ne C (pc1 := 363) (pc2 := 315) at_312 rfl rfl (fun c1052 => absurd c1052 (by decide)) (fun c1052 => ?_)
            refine own_iload C (pc' := 317) at_315 rfl rfl ?_
            refine own_iload C (pc' := 319) at_317 rfl rfl ?_
            refine own_iconst C (pc' := 320) (v := (1 : Int32)) at_319 rfl (by decide) ?_
            refine own_iaddV C (pc' := 321) (v := (2 : Int32)) at_320 rfl (by decide) ?_
            refine own_ii_ne C (pc1 := 363) (pc2 := 324) at_321 rfl rfl (fun c1053 => absurd c1053 (by decide)) (fun c1053 => ?_)
            refine own_iload C (pc' := 326) at_324 rfl rfl ?_
            refine own_iload C (pc' := 328) at_326 rfl rfl ?_
            refine own_ii_ne C (pc1 := 363) (pc2 := 331) at_328 rfl rfl (fun c1054 => absurd c1054 (by decide)) (fun c1054 => ?_)
            refine own_iload C (pc' := 333) at_331 rfl rfl ?_
            refine own_iload C (pc' := 335) at_333 rfl rfl ?_
            refine own_ii_ne C (pc1 := 363) (pc2 := 338) at_335 rfl rfl (fun c1055 => absurd c1055 (by decide)) (fun c1055 => ?_)
            refine own_iload C (pc' := 340) at_338 rfl rfl ?_
            refine own_iload C (pc' := 342) at_340 rfl rfl ?_
            refine own_ii_ne C (pc1 := 363) (pc2 := 345) at_342 rfl rfl (fun c1056 => absurd c1056 (by decide)) (fun c1056 => ?_)
            refine own_iload C (pc' := 347) at_345 rfl rfl ?_
            refine own_iload C (pc' := 349) at_347 rfl rfl ?_
            refine own_ii_ne C (pc1 := 363) (pc2 := 352) at_349 rfl rfl (fun c1057 => absurd c1057 (by decide)) (fun c1057 => ?_)
            refine own_iload C (pc' := 354) at_352 rfl rfl ?_
            refine own_iload C (pc' := 356) at_354 rfl rfl ?_
            refine own_ii_ne C (pc1 := 363) (pc2 := 359) at_356 rfl rfl (fun c1058 => absurd c1058 (by decide)) (fun c1058 => ?_)
            refine own_iconst C (pc' := 360) (v := (1 : Int32)) at_359 rfl (by decide) ?_
            refine own_goto C (pc' := 364) at_360 rfl ?_
            exact own_ret C (t := .boolean) rfl rfl (Or.inl ⟨rfl, by simp, _, rfl⟩) at_364 (by decide) (by decide) (rfl)
        · skip
          refine own_iload C (pc' := 193) at_191 rfl rfl ?_
          refine own_iload C (pc' := 195) at_193 rfl rfl ?_
          refine own_ii_ne C (pc1 := 212) (pc2 := 198) at_195 rfl rfl (fun c1059 => ?_) (fun c1059 => ?_)
          · skip
            refine own_iload C (pc' := 214) at_212 rfl rfl ?_
            refine own_iload C (pc' := 216) at_214 rfl rfl ?_
            refine own_ii_ne C (pc1 := 233) (pc2 := 219) at_216 rfl rfl (fun c1060 => ?_) (fun c1060 => ?_)
            · skip
              refine own_iload C (pc' := 235) at_233 rfl rfl ?_
              refine own_istore C (pc' := 237) (Ls' := #[.val (.int p0), .val (.int p1), .val (.int p2), .val (.int p3), .val (.int p4), .val (.int x296), .val (.int (1 : Int32)), .val (.int x673), .val (.int x677), .val (.int x684), .val (.int x691), .val (.int x698), .val (.int x705), .val (.int x712), .val (.ref a717), .val (.int (1 : Int32)), .val (.int (1 : Int32)), .val (.int (3 : Int32)), .val (.int (0 : Int32)), .val (.int (2 : Int32)), .val (.int (3 : Int32)), .unset, .unset, .unset, .unset, .unset, .unset, .unset]) at_235 rfl rfl ?_
              refine own_iload C (pc' := 239) at_237 rfl rfl ?_
              refine own_iconst C (pc' := 240) (v := (1 : Int32)) at_239 rfl (by decide) ?_
              refine own_iaddV C (pc' := 241) (v := (4 : Int32)) at_240 rfl (by decide) ?_
              refine own_istore C (pc' := 243) (Ls' := #[.val (.int p0), .val (.int p1), .val (.int p2), .val (.int p3), .val (.int p4), .val (.int x296), .val (.int (1 : Int32)), .val (.int x673), .val (.int x677), .val (.int x684), .val (.int x691), .val (.int x698), .val (.int x705), .val (.int x712), .val (.ref a717), .val (.int (1 : Int32)), .val (.int (1 : Int32)), .val (.int (4 : Int32)), .val (.int (0 : Int32)), .val (.int (2 : Int32)), .val (.int (3 : Int32)), .unset, .unset, .unset, .unset, .unset, .unset, .unset]) at_241 rfl rfl ?_
              exact J890 (3 : Int32) (4 : Int32) (Or.inr (Or.inr ⟨(fun e => c1059 (hq31.mp e).1), (fun e => c1060 (hq32.mp e).1), rfl, rfl⟩))
            · skip
              refine own_iload C (pc' := 221) at_219 rfl rfl ?_
              refine own_iload C (pc' := 223) at_221 rfl rfl ?_
              refine own_ii_ne C (pc1 := 233) (pc2 := 226) at_223 rfl rfl (fun c1061 => ?_) (fun c1061 => ?_)
              · skip
                refine own_iload C (pc' := 235) at_233 rfl rfl ?_
                refine own_istore C (pc' := 237) (Ls' := #[.val (.int p0), .val (.int p1), .val (.int p2), .val (.int p3), .val (.int p4), .val (.int x296), .val (.int (1 : Int32)), .val (.int x673), .val (.int x677), .val (.int x684), .val (.int x691), .val (.int x698), .val (.int x705), .val (.int x712), .val (.ref a717), .val (.int (1 : Int32)), .val (.int (1 : Int32)), .val (.int (3 : Int32)), .val (.int (0 : Int32)), .val (.int (2 : Int32)), .val (.int (3 : Int32)), .unset, .unset, .unset, .unset, .unset, .unset, .unset]) at_235 rfl rfl ?_
                refine own_iload C (pc' := 239) at_237 rfl rfl ?_
                refine own_iconst C (pc' := 240) (v := (1 : Int32)) at_239 rfl (by decide) ?_
                refine own_iaddV C (pc' := 241) (v := (4 : Int32)) at_240 rfl (by decide) ?_
                refine own_istore C (pc' := 243) (Ls' := #[.val (.int p0), .val (.int p1), .val (.int p2), .val (.int p3), .val (.int p4), .val (.int x296), .val (.int (1 : Int32)), .val (.int x673), .val (.int x677), .val (.int x684), .val (.int x691), .val (.int x698), .val (.int x705), .val (.int x712), .val (.ref a717), .val (.int (1 : Int32)), .val (.int (1 : Int32)), .val (.int (4 : Int32)), .val (.int (0 : Int32)), .val (.int (2 : Int32)), .val (.int (3 : Int32)), .unset, .unset, .unset, .unset, .unset, .unset, .unset]) at_241 rfl rfl ?_
                exact J890 (3 : Int32) (4 : Int32) (Or.inr (Or.inr ⟨(fun e => c1059 (hq31.mp e).1), (fun e => c1061 (hq32.mp e).2), rfl, rfl⟩))
              · skip
                refine own_iload C (pc' := 228) at_226 rfl rfl ?_
                refine own_istore C (pc' := 230) (Ls' := #[.val (.int p0), .val (.int p1), .val (.int p2), .val (.int p3), .val (.int p4), .val (.int x296), .val (.int (1 : Int32)), .val (.int x673), .val (.int x677), .val (.int x684), .val (.int x691), .val (.int x698), .val (.int x705), .val (.int x712), .val (.ref a717), .val (.int (1 : Int32)), .val (.int (1 : Int32)), .val (.int (3 : Int32)), .val (.int (0 : Int32)), .val (.int (2 : Int32)), .val (.int (2 : Int32)), .unset, .unset, .unset, .unset, .unset, .unset, .unset]) at_228 rfl rfl ?_
                refine own_goto C (pc' := 243) at_230 rfl ?_
                exact J890 (2 : Int32) (3 : Int32) (Or.inr (Or.inl ⟨(fun e => c1059 (hq31.mp e).1), (hq32.mpr ⟨c1060, c1061⟩), rfl, rfl⟩))
          · skip
            refine own_iload C (pc' := 200) at_198 rfl rfl ?_
            refine own_iload C (pc' := 202) at_200 rfl rfl ?_
            refine own_ii_ne C (pc1 := 212) (pc2 := 205) at_202 rfl rfl (fun c1062 => ?_) (fun c1062 => ?_)
            · skip
              refine own_iload C (pc' := 214) at_212 rfl rfl ?_
              refine own_iload C (pc' := 216) at_214 rfl rfl ?_
              refine own_ii_ne C (pc1 := 233) (pc2 := 219) at_216 rfl rfl (fun c1063 => ?_) (fun c1063 => ?_)
              · skip
                refine own_iload C (pc' := 235) at_233 rfl rfl ?_
                refine own_istore C (pc' := 237) (Ls' := #[.val (.int p0), .val (.int p1), .val (.int p2), .val (.int p3), .val (.int p4), .val (.int x296), .val (.int (1 : Int32)), .val (.int x673), .val (.int x677), .val (.int x684), .val (.int x691), .val (.int x698), .val (.int x705), .val (.int x712), .val (.ref a717), .val (.int (1 : Int32)), .val (.int (1 : Int32)), .val (.int (3 : Int32)), .val (.int (0 : Int32)), .val (.int (2 : Int32)), .val (.int (3 : Int32)), .unset, .unset, .unset, .unset, .unset, .unset, .unset]) at_235 rfl rfl ?_
                refine own_iload C (pc' := 239) at_237 rfl rfl ?_
                refine own_iconst C (pc' := 240) (v := (1 : Int32)) at_239 rfl (by decide) ?_
                refine own_iaddV C (pc' := 241) (v := (4 : Int32)) at_240 rfl (by decide) ?_
                refine own_istore C (pc' := 243) (Ls' := #[.val (.int p0), .val (.int p1), .val (.int p2), .val (.int p3), .val (.int p4), .val (.int x296), .val (.int (1 : Int32)), .val (.int x673), .val (.int x677), .val (.int x684), .val (.int x691), .val (.int x698), .val (.int x705), .val (.int x712), .val (.ref a717), .val (.int (1 : Int32)), .val (.int (1 : Int32)), .val (.int (4 : Int32)), .val (.int (0 : Int32)), .val (.int (2 : Int32)), .val (.int (3 : Int32)), .unset, .unset, .unset, .unset, .unset, .unset, .unset]) at_241 rfl rfl ?_
                exact J890 (3 : Int32) (4 : Int32) (Or.inr (Or.inr ⟨(fun e => c1062 (hq31.mp e).2), (fun e => c1063 (hq32.mp e).1), rfl, rfl⟩))
              · skip
                refine own_iload C (pc' := 221) at_219 rfl rfl ?_
                refine own_iload C (pc' := 223) at_221 rfl rfl ?_
                refine own_ii_ne C (pc1 := 233) (pc2 := 226) at_223 rfl rfl (fun c1064 => ?_) (fun c1064 => ?_)
                · skip
                  refine own_iload C (pc' := 235) at_233 rfl rfl ?_
                  refine own_istore C (pc' := 237) (Ls' := #[.val (.int p0), .val (.int p1), .val (.int p2), .val (.int p3), .val (.int p4), .val (.int x296), .val (.int (1 : Int32)), .val (.int x673), .val (.int x677), .val (.int x684), .val (.int x691), .val (.int x698), .val (.int x705), .val (.int x712), .val (.ref a717), .val (.int (1 : Int32)), .val (.int (1 : Int32)), .val (.int (3 : Int32)), .val (.int (0 : Int32)), .val (.int (2 : Int32)), .val (.int (3 : Int32)), .unset, .unset, .unset, .unset, .unset, .unset, .unset]) at_235 rfl rfl ?_
                  refine own_iload C (pc' := 239) at_237 rfl rfl ?_
                  refine own_iconst C (pc' := 240) (v := (1 : Int32)) at_239 rfl (by decide) ?_
                  refine own_iaddV C (pc' := 241) (v := (4 : Int32)) at_240 rfl (by decide) ?_
                  refine own_istore C (pc' := 243) (Ls' := #[.val (.int p0), .val (.int p1), .val (.int p2), .val (.int p3), .val (.int p4), .val (.int x296), .val (.int (1 : Int32)), .val (.int x673), .val (.int x677), .val (.int x684), .val (.int x691), .val (.int x698), .val (.int x705), .val (.int x712), .val (.ref a717), .val (.int (1 : Int32)), .val (.int (1 : Int32)), .val (.int (4 : Int32)), .val (.int (0 : Int32)), .val (.int (2 : Int32)), .val (.int (3 : Int32)), .unset, .unset, .unset, .unset, .unset, .unset, .unset]) at_241 rfl rfl ?_
                  exact J890 (3 : Int32) (4 : Int32) (Or.inr (Or.inr ⟨(fun e => c1062 (hq31.mp e).2), (fun e => c1064 (hq32.mp e).2), rfl, rfl⟩))
                · skip
                  refine own_iload C (pc' := 228) at_226 rfl rfl ?_
                  refine own_istore C (pc' := 230) (Ls' := #[.val (.int p0), .val (.int p1), .val (.int p2), .val (.int p3), .val (.int p4), .val (.int x296), .val (.int (1 : Int32)), .val (.int x673), .val (.int x677), .val (.int x684), .val (.int x691), .val (.int x698), .val (.int x705), .val (.int x712), .val (.ref a717), .val (.int (1 : Int32)), .val (.int (1 : Int32)), .val (.int (3 : Int32)), .val (.int (0 : Int32)), .val (.int (2 : Int32)), .val (.int (2 : Int32)), .unset, .unset, .unset, .unset, .unset, .unset, .unset]) at_228 rfl rfl ?_
                  refine own_goto C (pc' := 243) at_230 rfl ?_
                  exact J890 (2 : Int32) (3 : Int32) (Or.inr (Or.inl ⟨(fun e => c1062 (hq31.mp e).2), (hq32.mpr ⟨c1063, c1064⟩), rfl, rfl⟩))
            · skip
              refine own_iload C (pc' := 207) at_205 rfl rfl ?_
              refine own_istore C (pc' := 209) (Ls' := #[.val (.int p0), .val (.int p1), .val (.int p2), .val (.int p3), .val (.int p4), .val (.int x296), .val (.int (1 : Int32)), .val (.int x673), .val (.int x677), .val (.int x684), .val (.int x691), .val (.int x698), .val (.int x705), .val (.int x712), .val (.ref a717), .val (.int (1 : Int32)), .val (.int (1 : Int32)), .val (.int (3 : Int32)), .val (.int (0 : Int32)), .val (.int (2 : Int32)), .val (.int (1 : Int32)), .unset, .unset, .unset, .unset, .unset, .unset, .unset]) at_207 rfl rfl ?_
              refine own_goto C (pc' := 243) at_209 rfl ?_
              exact J890 (1 : Int32) (3 : Int32) (Or.inl ⟨(hq31.mpr ⟨c1059, c1062⟩), rfl, rfl⟩)
    · skip
      refine own_iload C (pc' := 150) at_148 rfl rfl ?_
      refine own_iload C (pc' := 152) at_150 rfl rfl ?_
      refine own_ii_ne C (pc1 := 166) (pc2 := 155) at_152 rfl rfl (fun c1065 => ?_) (fun c1065 => ?_)
      · skip
        refine own_iconst C (pc' := 167) (v := (0 : Int32)) at_166 rfl (by decide) ?_
        refine own_istore C (pc' := 169) (Ls' := #[.val (.int p0), .val (.int p1), .val (.int p2), .val (.int p3), .val (.int p4), .val (.int x296), .val (.int (1 : Int32)), .val (.int x673), .val (.int x677), .val (.int x684), .val (.int x691), .val (.int x698), .val (.int x705), .val (.int x712), .val (.ref a717), .val (.int (1 : Int32)), .val (.int (1 : Int32)), .val (.int (2 : Int32)), .val (.int (0 : Int32)), .unset, .unset, .unset, .unset, .unset, .unset, .unset, .unset, .unset]) at_167 rfl rfl ?_
        exact J782 (0 : Int32) (Or.inr ⟨rfl, fun e => c1065 (hq21.mp e).1⟩)
      · skip
        refine own_iload C (pc' := 157) at_155 rfl rfl ?_
        refine own_iload C (pc' := 159) at_157 rfl rfl ?_
        refine own_ii_ne C (pc1 := 166) (pc2 := 162) at_159 rfl rfl (fun c1066 => ?_) (fun c1066 => ?_)
        · skip
          refine own_iconst C (pc' := 167) (v := (0 : Int32)) at_166 rfl (by decide) ?_
          refine own_istore C (pc' := 169) (Ls' := #[.val (.int p0), .val (.int p1), .val (.int p2), .val (.int p3), .val (.int p4), .val (.int x296), .val (.int (1 : Int32)), .val (.int x673), .val (.int x677), .val (.int x684), .val (.int x691), .val (.int x698), .val (.int x705), .val (.int x712), .val (.ref a717), .val (.int (1 : Int32)), .val (.int (1 : Int32)), .val (.int (2 : Int32)), .val (.int (0 : Int32)), .unset, .unset, .unset, .unset, .unset, .unset, .unset, .unset, .unset]) at_167 rfl rfl ?_
          exact J782 (0 : Int32) (Or.inr ⟨rfl, fun e => c1066 (hq21.mp e).2⟩)
        · skip
          refine own_iconst C (pc' := 163) (v := (1 : Int32)) at_162 rfl (by decide) ?_
          refine own_goto C (pc' := 167) at_163 rfl ?_
          refine own_istore C (pc' := 169) (Ls' := #[.val (.int p0), .val (.int p1), .val (.int p2), .val (.int p3), .val (.int p4), .val (.int x296), .val (.int (1 : Int32)), .val (.int x673), .val (.int x677), .val (.int x684), .val (.int x691), .val (.int x698), .val (.int x705), .val (.int x712), .val (.ref a717), .val (.int (1 : Int32)), .val (.int (1 : Int32)), .val (.int (2 : Int32)), .val (.int (1 : Int32)), .unset, .unset, .unset, .unset, .unset, .unset, .unset, .unset, .unset]) at_167 rfl rfl ?_
          exact J782 (1 : Int32) (Or.inl ⟨rfl, hq21.mpr ⟨c1065, c1066⟩⟩)
set_option maxRecDepth 65536 in
set_option maxHeartbeats 40000000 in
theorem own_comes {Post : Tables → Env → Array Value → State → Outcome → State → Prop} (hpost : ∀ tb e args s v u, (limb_1_1.after args s (.returned v) u = true ∧ limb_1_2.after args s (.returned v) u = true ∧ True) → FrameEnd s (.returned v) u (Jvm.fieldLocs frame_1_writes args s ++ Jvm.arrayLocs frame_1_arrays args s ++ Jvm.staticLocs frame_1_statics s) 16 192 → Post tb e args s (.returned v) u) :
    ArmFor flags0 classFile x code maxLocals ret World_1 tables_1 room_1 Calls_1 rest_1 Pre_1 Post := by
  intro l hfl _ _ p e ha hc hk s m args below hf hA hF happ hP
  obtain ⟨hcalls, hrest, hpre⟩ := hP
  obtain ⟨-, -, -, hnamed, -, -, -, hat⟩ := (Spec.applies_iff hf).mp happ
  obtain ⟨hg, hn⟩ := and_e (Cond.before_iff.mp (show (Jvm.Cond.and given_1 narrow_1).before args s = true from hpre))
  obtain ⟨g0, r0⟩ := and_e hg
  obtain ⟨q0, r1⟩ := and_e r0
  obtain ⟨q1, r2⟩ := and_e r1
  obtain ⟨q2, r3⟩ := and_e r2
  obtain ⟨q3, r4⟩ := and_e r3
  obtain ⟨w0, w1, w2, w3, w4, rfl⟩ : ∃ w0 w1 w2 w3 w4 : Value, args = #[w0, w1, w2, w3, w4] := by
    have hs : args.size = 5 := by simpa [Cond.value, given_1] using g0
    obtain ⟨L⟩ := args
    match L, hs with
    | [w0, w1, w2, w3, w4], _ => exact ⟨w0, w1, w2, w3, w4, rfl⟩
  have hw := fun d (hd : d ∈ tables_1) => atoms_spec (ws := Jvm.Cond.code x code maxLocals ret :: tables_1) hat d (List.mem_cons_of_mem _ hd)
  obtain ⟨i0, ei0⟩ := is_v q0
  obtain rfl : w0 = (.int i0) := Option.some.inj ei0
  obtain ⟨i1, ei1⟩ := is_v q1
  obtain rfl : w1 = (.int i1) := Option.some.inj ei1
  obtain ⟨i2, ei2⟩ := is_v q2
  obtain rfl : w2 = (.int i2) := Option.some.inj ei2
  obtain ⟨i3, ei3⟩ := is_v q3
  obtain rfl : w3 = (.int i3) := Option.some.inj ei3
  obtain ⟨i4, ei4⟩ := is_v r4
  obtain rfl : w4 = (.int i4) := Option.some.inj ei4
  obtain ⟨n, o, h1, h2, h3, _, L, rfl, ⟨N, rfl⟩, hq⟩ := own_law (l := l) (Z := s) hw (n0 := s.heap.size) (ws := tables_1) (h := s.heap) i0 i1 i2 i3 i4 (Nat.le_refl _)  p e ha hc hk s m _ below hf ((Spec.applies_iff_loose hf).mp happ).1 ⟨rfl, State.Warmed39.refl s, rfl⟩ trivial
  refine ⟨n, _, h1, h2, h3, hpost _ _ _ _ _ _ ⟨Cond.after_iff.mpr rfl, Cond.after_iff.mpr (eq_i res_at (Term.int_eval (1)) rfl), trivial⟩ ⟨hq.1, hq.2.1, (hq.2.2.sift fun y hy => Or.inr (N y hy)).mono (by decide) (by decide)⟩⟩
theorem main_1_1 : Claimed_1_1 := own_comes fun _ _ _ _ _ _ h hF => ⟨h.1, hF⟩
theorem main_1_2 : Claimed_1_2 := own_comes fun _ _ _ _ _ _ h hF => ⟨h.2.1, hF⟩
end Jvm.Pilot.@@N@@
namespace Jvm.Pilot.@@N@@
open Jvm Jvm.ClassFile Sem Op Lib Jvm.Free Jvm.Stand Jvm.Pilot.@@N@@.Jvm.D
/-! MADE BY PROGRAM (witnessworld.py) out of the Statement's table words and the real class files: 10 classes; the members and pool entries that the words name. The judged class is class 1, her method 3. -/
namespace start1
open Jvm.ClassFile
def u (s : String) : CpInfo := .utf8 (stringToUtf16 s)
/-- a pool by its gaps: so many unusable entries, then the entry; so many at the end -/
def gap : Nat → List CpInfo → List CpInfo
  | 0, r => r
  | n + 1, r => .unusable :: gap n r
def poolList (es : List (Nat × CpInfo)) (last : Nat) : List CpInfo := es.foldr (fun e r => gap e.1 (e.2 :: r)) (gap last [])
def pool (es : List (Nat × CpInfo)) (last : Nat) : Array CpInfo := ⟨poolList es last⟩
def fileOf (pool : Array CpInfo) (this : Nat) (attrs : Array Attribute := #[]) (ms : Array MethodInfo := #[]) (fl : Nat := 33) (sup : Nat := 0) (ifs : Array Nat := #[]) (fds : Array FieldInfo := #[]) : ClassFile where
  minorVersion := 0
  majorVersion := 65
  constantPool := pool
  accessFlags := fl
  thisClass := this
  superClass := sup
  interfaces := ifs
  fields := fds
  methods := ms
  attributes := attrs
def plain (name : String) (sup : Option ClassId) : Class where
  name := name
  kind := .ordinary
  loader := none
  accessFlags := 33
  super := sup
  interfaces := #[]
  cf := none
  fields := #[]
  methods := #[]
  instanceTypes := #[]
  staticTypes := #[]
  resolved := #[]
  callSites := []
  init := .initialized
  statics := none
  mirror := none

def pool0 : Array CpInfo := pool [(5, u "<init>"), (0, u "()V"), (1, .class_ 10), (1, u "java/lang/Object")] 113

def k0c0 : Code := { maxStack := 0, maxLocals := 1, code := object_method_1_code, exceptionTable := #[], attributes := #[] }
def k0m0 : Method := { name := "<init>", desc := "()V", sig := { parameters := [], returnType := none }, accessFlags := 1, code := some k0c0 }
/-- java/lang/Object -/
def k0 : Class := { plain "java/lang/Object" none with
  accessFlags := 33
  interfaces := #[]
  cf := some (fileOf pool0 8 #[] #[{ accessFlags := 1, nameIndex := 5, descriptorIndex := 6, attributes := #[] }] 33 0 #[] #[])
  fields := #[]
  methods := #[k0m0]
  instanceTypes := #[]
  staticTypes := #[]
  resolved := Array.replicate 124 none
  statics := none }

def pool1 : Array CpInfo := pool [(2, .class_ 4), (1, u "java/lang/Object"), (0, u "<init>"), (0, u "()V"), (0, .methodref 8 9), (0, .class_ 10), (0, .nameAndType 11 12), (0, u "com/example/words_to_weights/wordstoweights/model/PairCounterAddOrderedPinLaw"), (0, u "fst"), (0, u "(II)I"), (0, .methodref 8 14), (0, .nameAndType 15 12), (0, u "snd"), (0, .class_ 17), (0, u "com/example/words_to_weights/wordstoweights/model/PairCounter"), (0, .methodref 16 19), (0, .nameAndType 5 20), (0, u "(II)V"), (0, .methodref 16 22), (0, .nameAndType 23 12), (0, u "addWindow"), (0, .methodref 16 25), (0, .nameAndType 26 12), (0, u "addOrdered"), (0, .methodref 16 28), (0, .nameAndType 29 30), (0, u "slots"), (0, u "()I"), (2, u "law"), (0, u "(IIIII)Z")] 3

def k1m0 : Method := { name := "<init>", desc := "()V", sig := { parameters := [], returnType := none }, accessFlags := 1, code := none }
def k1c1 : Code := { maxStack := 2, maxLocals := 2, code := method_2_code, exceptionTable := #[], attributes := #[] }
def k1m1 : Method := { name := "fst", desc := "(II)I", sig := { parameters := [.int, .int], returnType := some .int }, accessFlags := 10, code := some k1c1 }
def k1c2 : Code := { maxStack := 2, maxLocals := 2, code := method_3_code, exceptionTable := #[], attributes := #[] }
def k1m2 : Method := { name := "snd", desc := "(II)I", sig := { parameters := [.int, .int], returnType := some .int }, accessFlags := 10, code := some k1c2 }
def k1c3 : Code := { maxStack := 4, maxLocals := 28, code := code, exceptionTable := #[], attributes := #[] }
def k1m3 : Method := { name := "law", desc := "(IIIII)Z", sig := { parameters := [.int, .int, .int, .int, .int], returnType := some .boolean }, accessFlags := 9, code := some k1c3 }
/-- com/example/words_to_weights/wordstoweights/model/PairCounterAddOrderedPinLaw -/
def k1 : Class := { plain "com/example/words_to_weights/wordstoweights/model/PairCounterAddOrderedPinLaw" (some 0) with
  accessFlags := 49
  interfaces := #[]
  cf := some (fileOf pool1 8 #[] #[{ accessFlags := 1, nameIndex := 5, descriptorIndex := 6, attributes := #[] }, { accessFlags := 10, nameIndex := 11, descriptorIndex := 12, attributes := #[] }, { accessFlags := 10, nameIndex := 15, descriptorIndex := 12, attributes := #[] }, { accessFlags := 9, nameIndex := 33, descriptorIndex := 34, attributes := #[] }] 49 2 #[] #[])
  fields := #[]
  methods := #[k1m0, k1m1, k1m2, k1m3]
  instanceTypes := #[]
  staticTypes := #[]
  resolved := Array.replicate 38 none
  statics := none }

def pool2 : Array CpInfo := pool [(2, .class_ 4), (1, u "com/example/words_to_weights/wordstoweights/model/PairCounter"), (0, u "<init>"), (0, u "(II)V"), (0, .methodref 8 9), (0, .class_ 10), (0, .nameAndType 5 11), (0, u "java/lang/Object"), (0, u "()V"), (0, .fieldref 2 13), (0, .nameAndType 14 15), (0, u "terms"), (0, u "I"), (0, .fieldref 2 17), (0, .nameAndType 18 15), (0, u "window"), (0, .fieldref 2 20), (0, .nameAndType 21 22), (0, u "orderedSlots"), (0, u "[I"), (0, .fieldref 2 24), (0, .nameAndType 25 22), (0, u "windowSlots"), (0, .methodref 27 28), (0, .class_ 29), (0, .nameAndType 30 31), (0, u "java/util/Arrays"), (0, u "fill"), (0, u "([II)V"), (0, .methodref 2 33), (0, .nameAndType 34 35), (0, u "slot"), (0, u "([III)I"), (7, .fieldref 2 44), (0, .nameAndType 45 15), (0, u "slots"), (14, u "NONE"), (6, u "addOrdered"), (0, u "(II)I"), (0, u "addWindow"), (0, u "()I")] 8

def k2c0 : Code := { maxStack := 3, maxLocals := 3, code := prog_33_method_2_code, exceptionTable := #[], attributes := #[] }
def k2m0 : Method := { name := "<init>", desc := "(II)V", sig := { parameters := [.int, .int], returnType := none }, accessFlags := 0, code := some k2c0 }
def k2c1 : Code := { maxStack := 5, maxLocals := 3, code := prog_33_method_3_code, exceptionTable := #[], attributes := #[] }
def k2m1 : Method := { name := "addOrdered", desc := "(II)I", sig := { parameters := [.int, .int], returnType := some .int }, accessFlags := 0, code := some k2c1 }
def k2c2 : Code := { maxStack := 5, maxLocals := 3, code := prog_33_method_4_code, exceptionTable := #[], attributes := #[] }
def k2m2 : Method := { name := "addWindow", desc := "(II)I", sig := { parameters := [.int, .int], returnType := some .int }, accessFlags := 0, code := some k2c2 }
def k2c3 : Code := { maxStack := 3, maxLocals := 4, code := prog_33_method_5_code, exceptionTable := #[], attributes := #[] }
def k2m3 : Method := { name := "slot", desc := "([III)I", sig := { parameters := [(.array .int), .int, .int], returnType := some .int }, accessFlags := 2, code := some k2c3 }
def k2c4 : Code := { maxStack := 1, maxLocals := 1, code := prog_33_method_6_code, exceptionTable := #[], attributes := #[] }
def k2m4 : Method := { name := "slots", desc := "()I", sig := { parameters := [], returnType := some .int }, accessFlags := 0, code := some k2c4 }
/-- com/example/words_to_weights/wordstoweights/model/PairCounter -/
def k2 : Class := { plain "com/example/words_to_weights/wordstoweights/model/PairCounter" (some 0) with
  accessFlags := 32
  interfaces := #[]
  cf := some (fileOf pool2 2 #[] #[{ accessFlags := 0, nameIndex := 5, descriptorIndex := 6, attributes := #[] }, { accessFlags := 0, nameIndex := 67, descriptorIndex := 68, attributes := #[] }, { accessFlags := 0, nameIndex := 69, descriptorIndex := 68, attributes := #[] }, { accessFlags := 2, nameIndex := 34, descriptorIndex := 35, attributes := #[] }, { accessFlags := 0, nameIndex := 45, descriptorIndex := 70, attributes := #[] }] 32 8 #[] #[{ accessFlags := 26, nameIndex := 60, descriptorIndex := 15, attributes := #[] }, { accessFlags := 18, nameIndex := 14, descriptorIndex := 15, attributes := #[] }, { accessFlags := 18, nameIndex := 18, descriptorIndex := 15, attributes := #[] }, { accessFlags := 18, nameIndex := 21, descriptorIndex := 22, attributes := #[] }, { accessFlags := 18, nameIndex := 25, descriptorIndex := 22, attributes := #[] }, { accessFlags := 2, nameIndex := 45, descriptorIndex := 15, attributes := #[] }])
  fields := #[{ name := "NONE", type := .int, accessFlags := 26, slot := 0, constantValue := 0 }, { name := "terms", type := .int, accessFlags := 18, slot := 0, constantValue := 0 }, { name := "window", type := .int, accessFlags := 18, slot := 1, constantValue := 0 }, { name := "orderedSlots", type := (.array .int), accessFlags := 18, slot := 2, constantValue := 0 }, { name := "windowSlots", type := (.array .int), accessFlags := 18, slot := 3, constantValue := 0 }, { name := "slots", type := .int, accessFlags := 2, slot := 4, constantValue := 0 }]
  methods := #[k2m0, k2m1, k2m2, k2m3, k2m4]
  instanceTypes := #[.int, .int, (.array .int), (.array .int), .int]
  staticTypes := #[.int]
  resolved := Array.replicate 79 none
  statics := none }

def pool3 : Array CpInfo := pool [(2, .class_ 4), (1, u "java/lang/Object"), (0, u "<init>"), (0, u "()V"), (7, .class_ 16), (1, u "java/util/Arrays"), (57, .class_ 76), (1, u "java/util/Arrays$NaturalOrder"), (36, .class_ 115), (1, u "java/util/Arrays$LegacyMergeSort"), (1, u "Z"), (257, .class_ 376), (0, u "java/util/Arrays$ArrayList"), (68, u "$assertionsDisabled"), (269, u "MIN_ARRAY_SORT_GRAN"), (0, u "I"), (2, u "INSERTIONSORT_THRESHOLD"), (120, u "fill"), (4, u "([II)V"), (129, .class_ 976), (0, u "java/util/Arrays$ArrayItr")] 52

def k3m0 : Method := { name := "<init>", desc := "()V", sig := { parameters := [], returnType := none }, accessFlags := 2, code := none }
def k3c1 : Code := { maxStack := 3, maxLocals := 4, code := jdk_65_method_103_code, exceptionTable := #[], attributes := #[] }
def k3m1 : Method := { name := "fill", desc := "([II)V", sig := { parameters := [(.array .int), .int], returnType := none }, accessFlags := 9, code := some k3c1 }
/-- java/util/Arrays -/
def k3 : Class := { plain "java/util/Arrays" (some 0) with
  accessFlags := 49
  interfaces := #[]
  cf := some (fileOf pool3 14 #[.nestMembers #[975, 375, 113, 74]] #[{ accessFlags := 2, nameIndex := 5, descriptorIndex := 6, attributes := #[] }, { accessFlags := 9, nameIndex := 840, descriptorIndex := 845, attributes := #[] }] 49 2 #[] #[{ accessFlags := 26, nameIndex := 715, descriptorIndex := 716, attributes := #[] }, { accessFlags := 26, nameIndex := 719, descriptorIndex := 716, attributes := #[] }, { accessFlags := 4120, nameIndex := 445, descriptorIndex := 117, attributes := #[] }])
  fields := #[{ name := "MIN_ARRAY_SORT_GRAN", type := .int, accessFlags := 26, slot := 0, constantValue := 0 }, { name := "INSERTIONSORT_THRESHOLD", type := .int, accessFlags := 26, slot := 1, constantValue := 0 }, { name := "$assertionsDisabled", type := .boolean, accessFlags := 4120, slot := 2, constantValue := 0 }]
  methods := #[k3m0, k3m1]
  instanceTypes := #[]
  staticTypes := #[.int, .int, .boolean]
  resolved := Array.replicate 1029 none
  statics := none }

def pool4 : Array CpInfo := pool [(1, u "java/lang/Cloneable"), (0, .class_ 1), (0, u "java/lang/Object"), (0, .class_ 3)] 3

/-- java/lang/Cloneable -/
def k4 : Class := { plain "java/lang/Cloneable" (some 0) with
  accessFlags := 1537
  interfaces := #[]
  cf := some (fileOf pool4 2 #[] #[] 1537 4 #[] #[])
  fields := #[]
  methods := #[]
  instanceTypes := #[]
  staticTypes := #[]
  resolved := Array.replicate 8 none
  statics := none }

def pool5 : Array CpInfo := pool [(1, u "java/io/Serializable"), (0, .class_ 1), (0, u "java/lang/Object"), (0, .class_ 3)] 3

/-- java/io/Serializable -/
def k5 : Class := { plain "java/io/Serializable" (some 0) with
  accessFlags := 1537
  interfaces := #[]
  cf := some (fileOf pool5 2 #[] #[] 1537 4 #[] #[])
  fields := #[]
  methods := #[]
  instanceTypes := #[]
  staticTypes := #[]
  resolved := Array.replicate 8 none
  statics := none }

/-- the primitive byte -/
def k6 : Class := { plain "byte" none with kind := .primitive 'B', accessFlags := 0x411 }
/-- [B -/
def k7 : Class := { plain "[B" (some 0) with kind := .array 6 .byte, interfaces := #[4, 5], accessFlags := 1041 }

/-- the primitive int -/
def k8 : Class := { plain "int" none with kind := .primitive 'I', accessFlags := 0x411 }
/-- [I -/
def k9 : Class := { plain "[I" (some 0) with kind := .array 8 .int, interfaces := #[4, 5], accessFlags := 1041 }

def heap : Heap := #[]
def classes : Array Class := #[k0, k1, k2, k3, k4, k5, k6, k7, k8, k9]
def interned : List (Array UInt16 × Addr) := []
def slotsUsed : Nat := 0
def theMethod : MethodId := ⟨1, 3⟩
def args0 : Array Value := #[.int 5, .int 7, .int 6, .int 3, .int 2]
def aboutOver (below : List Frame) : State where
  vm := { classes := classes, interned := interned.toArray }
  heap := heap
  slotsUsed := slotsUsed
  threads := #[{ frames := .invoking theMethod args0 :: below }]
def below0 : List Frame := [.native { method := ⟨0, 0⟩, args := #[] }]
def about1 : State := aboutOver below0
def p0 : Program := .bare "" "" ""
def e0 : Env := launch0.env 0 0 0
theorem w_frames : about1.frames = Frame.invoking theMethod args0 :: below0 := rfl
set_option maxRecDepth 65536 in
theorem w_args : argsFit about1.vm theMethod args0 = true := by decide +kernel
set_option maxRecDepth 65536 in
theorem w_heap : heapFits about1 = true := by decide +kernel
set_option maxRecDepth 65536 in
theorem w_runnable : about1.curStatus? = some .runnable := by decide +kernel
set_option maxRecDepth 65536 in
theorem w_alone : about1.alone = true := by decide +kernel
set_option maxRecDepth 65536 in
theorem w_named : about1.methodNamed? x = some theMethod := by decide +kernel
set_option maxRecDepth 65536 in
theorem w_hears : about1.hears theMethod below0 = true := by decide +kernel
set_option maxRecDepth 65536 in
theorem w_ripe : about1.ripe theMethod args0 below0 = true := by decide +kernel
theorem w_running : about1.status = .running := rfl
set_option maxRecDepth 65536 in
theorem w_room : about1.hasRoom e0.platform room_1 = true :=
  launch0.hasRoom_least _ room_1 (by decide +kernel) (by decide +kernel) (by decide +kernel) (by decide +kernel) (by decide +kernel) (by decide +kernel)
theorem allAtoms_all (ts : List Jvm.Cond) (a : Array Jvm.Value) (st : Jvm.State) : (allAtoms ts).before a st = ts.all (fun c => c.before a st) := by
  induction ts with
  | nil => rfl
  | cons c t ih =>
    show (Jvm.Cond.and c (allAtoms t)).before a st = _
    rw [Jvm.Cond.before_and, ih, List.all_cons]
def words1 : List Jvm.Cond := Jvm.Cond.code x code maxLocals ret :: tables_1
/-- a 'code' word, met by the world's own term for the bytes: nothing is compared byte by byte -/
theorem code_word {y : MethodName} {bytes : ByteArray} {mx : Nat} {rt : Option FieldType} {a : Array Value} {s : State} {m : MethodId} {meth : Method} {c : Code} (h1 : s.methodNamed? y = some m) (h2 : s.vm.method? m = some meth) (h3 : meth.code = some c) (h4 : c.code = bytes)
    (h5 : (c.maxLocals == mx && c.exceptionTable.isEmpty && decide (c.maxStack ≤ mostOperands) && decide (meth.sig.returnType = rt) && !meth.locks && decide (parseMethodDescriptor y.desc = some meth.sig)) = true) : (Jvm.Cond.code y bytes mx rt).before a s = true := by
  simp only [Bool.and_eq_true, beq_iff_eq, Bool.not_eq_true', decide_eq_true_eq] at h5
  obtain ⟨⟨⟨⟨⟨g1, g2⟩, g3⟩, g4⟩, g5⟩, g6⟩ := h5
  simp [Cond.before, Cond.holds, Cond.value, h1, h2, h3, h4, g1, g2, g3, g4, g5, g6]
def isCode : Jvm.Cond → Bool
  | .code _ _ _ _ => true
  | _ => false
theorem all_split {L : List Jvm.Cond} {P : Jvm.Cond → Bool} (h1 : L.all (fun c => isCode c || P c) = true) (h2 : ∀ c ∈ L.filter isCode, P c = true) : L.all P = true := by
  refine List.all_eq_true.mpr fun c hc => ?_
  have h := List.all_eq_true.mp h1 c hc
  rcases Bool.eq_false_or_eq_true (isCode c) with hi | hi
  · exact h2 c (List.mem_filter.mpr ⟨hc, hi⟩)
  · simpa [hi] using h
set_option maxRecDepth 65536 in
theorem w_c0 : (Jvm.Cond.code x code maxLocals ret).before args0 about1 = true := code_word (m := ⟨1, 3⟩) (meth := k1m3) (c := k1c3) (by decide +kernel) rfl rfl rfl (by decide +kernel)
set_option maxRecDepth 65536 in
theorem w_c1 : (Jvm.Cond.code ({ cls := "com/example/words_to_weights/wordstoweights/model/PairCounterAddOrderedPinLaw", name := "fst", desc := "(II)I" } : Jvm.MethodName) method_2_code (2 : Nat) (Option.some Jvm.ClassFile.FieldType.int)).before args0 about1 = true := code_word (m := ⟨1, 1⟩) (meth := k1m1) (c := k1c1) (by decide +kernel) rfl rfl rfl (by decide +kernel)
set_option maxRecDepth 65536 in
theorem w_c2 : (Jvm.Cond.code ({ cls := "com/example/words_to_weights/wordstoweights/model/PairCounterAddOrderedPinLaw", name := "snd", desc := "(II)I" } : Jvm.MethodName) method_3_code (2 : Nat) (Option.some Jvm.ClassFile.FieldType.int)).before args0 about1 = true := code_word (m := ⟨1, 2⟩) (meth := k1m2) (c := k1c2) (by decide +kernel) rfl rfl rfl (by decide +kernel)
set_option maxRecDepth 65536 in
theorem w_c3 : (Jvm.Cond.code ({ cls := "com/example/words_to_weights/wordstoweights/model/PairCounter", name := "<init>", desc := "(II)V" } : Jvm.MethodName) prog_33_method_2_code (3 : Nat) (Option.none : Option Jvm.ClassFile.FieldType)).before args0 about1 = true := code_word (m := ⟨2, 0⟩) (meth := k2m0) (c := k2c0) (by decide +kernel) rfl rfl rfl (by decide +kernel)
set_option maxRecDepth 65536 in
theorem w_c4 : (Jvm.Cond.code ({ cls := "java/lang/Object", name := "<init>", desc := "()V" } : Jvm.MethodName) object_method_1_code (1 : Nat) (Option.none : Option Jvm.ClassFile.FieldType)).before args0 about1 = true := code_word (m := ⟨0, 0⟩) (meth := k0m0) (c := k0c0) (by decide +kernel) rfl rfl rfl (by decide +kernel)
set_option maxRecDepth 65536 in
theorem w_c5 : (Jvm.Cond.code ({ cls := "java/util/Arrays", name := "fill", desc := "([II)V" } : Jvm.MethodName) jdk_65_method_103_code (4 : Nat) (Option.none : Option Jvm.ClassFile.FieldType)).before args0 about1 = true := code_word (m := ⟨3, 1⟩) (meth := k3m1) (c := k3c1) (by decide +kernel) rfl rfl rfl (by decide +kernel)
set_option maxRecDepth 65536 in
theorem w_c6 : (Jvm.Cond.code ({ cls := "com/example/words_to_weights/wordstoweights/model/PairCounter", name := "addOrdered", desc := "(II)I" } : Jvm.MethodName) prog_33_method_3_code (3 : Nat) (Option.some Jvm.ClassFile.FieldType.int)).before args0 about1 = true := code_word (m := ⟨2, 1⟩) (meth := k2m1) (c := k2c1) (by decide +kernel) rfl rfl rfl (by decide +kernel)
set_option maxRecDepth 65536 in
theorem w_c7 : (Jvm.Cond.code ({ cls := "com/example/words_to_weights/wordstoweights/model/PairCounter", name := "slot", desc := "([III)I" } : Jvm.MethodName) prog_33_method_5_code (4 : Nat) (Option.some Jvm.ClassFile.FieldType.int)).before args0 about1 = true := code_word (m := ⟨2, 3⟩) (meth := k2m3) (c := k2c3) (by decide +kernel) rfl rfl rfl (by decide +kernel)
set_option maxRecDepth 65536 in
theorem w_c8 : (Jvm.Cond.code ({ cls := "com/example/words_to_weights/wordstoweights/model/PairCounter", name := "slots", desc := "()I" } : Jvm.MethodName) prog_33_method_6_code (1 : Nat) (Option.some Jvm.ClassFile.FieldType.int)).before args0 about1 = true := code_word (m := ⟨2, 4⟩) (meth := k2m4) (c := k2c4) (by decide +kernel) rfl rfl rfl (by decide +kernel)
set_option maxRecDepth 65536 in
theorem w_c9 : (Jvm.Cond.code ({ cls := "com/example/words_to_weights/wordstoweights/model/PairCounter", name := "addWindow", desc := "(II)I" } : Jvm.MethodName) prog_33_method_4_code (3 : Nat) (Option.some Jvm.ClassFile.FieldType.int)).before args0 about1 = true := code_word (m := ⟨2, 2⟩) (meth := k2m2) (c := k2c2) (by decide +kernel) rfl rfl rfl (by decide +kernel)
def codes1 : List Jvm.Cond := [Jvm.Cond.code x code maxLocals ret, Jvm.Cond.code ({ cls := "com/example/words_to_weights/wordstoweights/model/PairCounterAddOrderedPinLaw", name := "fst", desc := "(II)I" } : Jvm.MethodName) method_2_code (2 : Nat) (Option.some Jvm.ClassFile.FieldType.int), Jvm.Cond.code ({ cls := "com/example/words_to_weights/wordstoweights/model/PairCounterAddOrderedPinLaw", name := "snd", desc := "(II)I" } : Jvm.MethodName) method_3_code (2 : Nat) (Option.some Jvm.ClassFile.FieldType.int), Jvm.Cond.code ({ cls := "com/example/words_to_weights/wordstoweights/model/PairCounter", name := "<init>", desc := "(II)V" } : Jvm.MethodName) prog_33_method_2_code (3 : Nat) (Option.none : Option Jvm.ClassFile.FieldType), Jvm.Cond.code ({ cls := "java/lang/Object", name := "<init>", desc := "()V" } : Jvm.MethodName) object_method_1_code (1 : Nat) (Option.none : Option Jvm.ClassFile.FieldType), Jvm.Cond.code ({ cls := "java/util/Arrays", name := "fill", desc := "([II)V" } : Jvm.MethodName) jdk_65_method_103_code (4 : Nat) (Option.none : Option Jvm.ClassFile.FieldType), Jvm.Cond.code ({ cls := "com/example/words_to_weights/wordstoweights/model/PairCounter", name := "addOrdered", desc := "(II)I" } : Jvm.MethodName) prog_33_method_3_code (3 : Nat) (Option.some Jvm.ClassFile.FieldType.int), Jvm.Cond.code ({ cls := "com/example/words_to_weights/wordstoweights/model/PairCounter", name := "slot", desc := "([III)I" } : Jvm.MethodName) prog_33_method_5_code (4 : Nat) (Option.some Jvm.ClassFile.FieldType.int), Jvm.Cond.code ({ cls := "com/example/words_to_weights/wordstoweights/model/PairCounter", name := "slots", desc := "()I" } : Jvm.MethodName) prog_33_method_6_code (1 : Nat) (Option.some Jvm.ClassFile.FieldType.int), Jvm.Cond.code ({ cls := "com/example/words_to_weights/wordstoweights/model/PairCounter", name := "addWindow", desc := "(II)I" } : Jvm.MethodName) prog_33_method_4_code (3 : Nat) (Option.some Jvm.ClassFile.FieldType.int)]
set_option maxRecDepth 65536 in
theorem codes_eq : words1.filter isCode = codes1 := rfl
theorem w_codes : ∀ c ∈ words1.filter isCode, c.before args0 about1 = true := by
  rw [codes_eq]
  intro c hc
  simp only [codes1, List.mem_cons, List.not_mem_nil, or_false] at hc
  rcases hc with rfl | rfl | rfl | rfl | rfl | rfl | rfl | rfl | rfl | rfl
  · exact w_c0
  · exact w_c1
  · exact w_c2
  · exact w_c3
  · exact w_c4
  · exact w_c5
  · exact w_c6
  · exact w_c7
  · exact w_c8
  · exact w_c9
set_option maxRecDepth 65536 in
theorem w_t1 : (words1.take 24).all (fun c => isCode c || c.before args0 about1) = true := by decide +kernel
set_option maxRecDepth 65536 in
theorem w_t2 : ((words1.drop 24).take 24).all (fun c => isCode c || c.before args0 about1) = true := by decide +kernel
set_option maxRecDepth 65536 in
theorem w_t3 : ((words1.drop 24).drop 24).all (fun c => isCode c || c.before args0 about1) = true := by decide +kernel
theorem w_tables : (allAtoms (Jvm.Cond.code x code maxLocals ret :: tables_1)).before args0 about1 = true := by
  rw [allAtoms_all]
  show words1.all (fun c => c.before args0 about1) = true
  refine all_split ?_ w_codes
  rw [← List.take_append_drop 24 words1, List.all_append, w_t1, ← List.take_append_drop 24 (words1.drop 24), List.all_append, w_t2, w_t3]
  rfl
set_option maxRecDepth 65536 in
theorem w_case : (Jvm.Cond.and given_1 narrow_1).before args0 about1 = true := by decide +kernel
theorem w_applies : (headSpec (Jvm.Cond.code x code maxLocals ret :: tables_1) room_1).applies x e0.platform about1 = true :=
  (Spec.applies_iff w_frames).mpr ⟨w_running, w_runnable, w_alone, w_named, w_hears, w_ripe, w_room, w_tables⟩
theorem atStart : AtStart classFile x code maxLocals ret World_1 tables_1 room_1 Calls_1 rest_1 Pre_1 launch0 p0 e0 about1 theMethod args0 below0 :=
  ⟨lists_1, trivial, launch0.admits_env _ _ _, launch0.least_env, fairChoices_fair.cas, fairChoices_fair.clock, w_frames, w_args, w_heap, w_applies, trivial, trivial, w_case⟩
end start1
theorem witness_1 : WitnessClaimed_1 := ⟨start1.p0, start1.e0, start1.about1, start1.theMethod, start1.args0, start1.below0, start1.atStart⟩
end Jvm.Pilot.@@N@@
