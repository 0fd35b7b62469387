import JvmDerived
import JvmDerived.Pilot.@@N@@Statement
import JvmDerived.Pilot.@@N@@Code
set_option linter.unusedVariables false
set_option linter.unusedSimpArgs false
namespace Jvm.Pilot.@@N@@
open Jvm Jvm.ClassFile Sem Op Lib Jvm.Free Jvm.Stand Jvm.LawKit Jvm.RoadKit Bundle Jvm.Pilot.@@N@@.Jvm.D
-- OWN PRELUDE: a small logic over lawnew's family. Go .. h kc ks pc L S: from every state in which this body stands at pc with locals L, stack S, heap h (kc cells, ks slots made so far), it returns with Q.
abbrev MD := MethodName × ByteArray × Nat × Option FieldType
def Inv (Z : State) (n0 : Nat) (M : MD) (p : Program) (s : State) (m : MethodId) (meth : Method) (c : Code) : Prop :=
  p.tables.exec = Jvm.exec ∧ Z.Warmed39 s.vm ∧ c.code = M.2.1 ∧ c.maxLocals = M.2.2.1 ∧ s.vm.findClass M.1.cls = some m.cls ∧ meth.name = M.1.name ∧ meth.sig.returnType = M.2.2.2 ∧ meth.locks = false ∧ n0 ≤ s.heap.size
def Goes (p : Program) (e : Env) (below : List Frame) (s : State) (n0 kc ks : Nat) (Q : Option Value → Heap → Prop) (T : State) (g : JFrame) : Prop :=
  ∃ s₂ o, Steps p.tables e below (T.setTop g) s₂ ∧ s₂.status = .running ∧ Ended s₂ below o ∧ ∃ v L, o = .returned v ∧ (Q v s₂.heap ∧ Fr n0 L) ∧ FrameEnd s o s₂ L kc ks
def Go (l : Launch) (Z : State) (n0 : Nat) (M : MD) (R : Room) (Q : Option Value → Heap → Prop) (h : Heap) (kc ks pc : Nat) (L : Array Slot) (S : List Value) : Prop :=
  ∀ (p : Program) (e : Env) (s : State) (m : MethodId) (args : Array Value) (below : List Frame) (meth : Method) (c : Code) (T : State) (locs : List Loc),
    Inv Z n0 M p s m meth c → Stand p l e R s m args below meth c T locs kc ks → T.heap = h → Fr n0 locs → Goes p e below s n0 R.cells R.slots Q T (mkF m pc L S)
def Con (l : Launch) (Z : State) (n0 : Nat) (M : MD) (rm : Room) (as' : Array Value) (h0 : Heap) (Q : Option Value → Heap → Prop) : Prop :=
  n0 ≤ h0.size → ∀ ws : List Jvm.Cond, MetFree l M.1 (head1 (Jvm.Cond.code M.1 M.2.1 M.2.2.1 M.2.2.2 :: ws) rm) (fun a U => a = as' ∧ Z.Warmed39 U.vm ∧ U.heap = h0) (fun _ _ _ _ _ => True)
    (fun _ U o U' => ∃ v L, o = .returned v ∧ (Q v U'.heap ∧ Fr n0 L) ∧ FrameEnd U o U' L rm.cells rm.slots)
def cP : ClassFile.Cond → Int32 → Int32 → Prop
  | .eq, x, y => x = y
  | .ne, x, y => ¬ x = y
  | .lt, x, y => x < y
  | .ge, x, y => ¬ x < y
  | .gt, x, y => y < x
  | .le, x, y => ¬ y < x
theorem cP_t {cd : ClassFile.Cond} {x y : Int32} (h : cP cd x y) : if_icmp.holds cd x y = true := by
  cases cd
  · exact (teq h).1
  · exact (feq h).2
  · exact (tlt h).1
  · exact (flt h).2.1
  · exact (tlt h).2.2.1
  · exact (flt h).2.2.2
theorem cP_f {cd : ClassFile.Cond} {x y : Int32} (h : ¬ cP cd x y) : if_icmp.holds cd x y = false := by
  cases cd
  · exact (feq h).1
  · exact (teq (Classical.not_not.mp h)).2
  · exact (flt h).1
  · exact (tlt (Classical.not_not.mp h)).2.1
  · exact (flt h).2.2.1
  · exact (tlt (Classical.not_not.mp h)).2.2.2
def lP : ClassFile.Cond → Int64 → Int64 → Prop
  | .eq, x, y => x = y
  | .ne, x, y => ¬ x = y
  | .lt, x, y => x < y
  | .ge, x, y => ¬ x < y
  | .gt, x, y => y < x
  | .le, x, y => ¬ y < x
theorem lP_t {cd : ClassFile.Cond} {x y : Int64} (h : lP cd x y) : ifCond.holds cd (XT.cmpL x y) = true := by
  cases cd
  · exact XT.ll_eq_t h
  · exact XT.ll_ne_t h
  · exact XT.ll_lt_t h
  · exact XT.ll_ge_t h
  · exact XT.ll_gt_t h
  · exact XT.ll_le_t h
theorem lP_f {cd : ClassFile.Cond} {x y : Int64} (h : ¬ lP cd x y) : ifCond.holds cd (XT.cmpL x y) = false := by
  cases cd
  · exact XT.ll_eq_f h
  · exact XT.ll_ne_f (Classical.not_not.mp h)
  · exact XT.ll_lt_f h
  · exact XT.ll_ge_f (Classical.not_not.mp h)
  · exact XT.ll_gt_f h
  · exact XT.ll_le_f (Classical.not_not.mp h)
section Own
variable {l : Launch} {Z : State} {n0 : Nat} {M : MD} {R : Room} {Q : Option Value → Heap → Prop} {h : Heap} {kc ks pc : Nat} {L : Array Slot} {S : List Value} {a0 : Array Value}
theorem g_via {h' : Heap} {kc' ks' pc' : Nat} {L' : Array Slot} {S' : List Value}
    (st : ∀ {p : Program} {e : Env} {s : State} {m : MethodId} {args : Array Value} {below : List Frame} {meth : Method} {c : Code} {T : State} {locs : List Loc}, Inv Z n0 M p s m meth c → Stand p l e R s m args below meth c T locs kc ks → T.heap = h →
      ∃ T', Stand p l e R s m args below meth c T' locs kc' ks' ∧ T'.heap = h' ∧ ∀ target, Steps p.tables e below (T'.setTop (mkF m pc' L' S')) target → Steps p.tables e below (T.setTop (mkF m pc L S)) target)
    (k : Go l Z n0 M R Q h' kc' ks' pc' L' S') : Go l Z n0 M R Q h kc ks pc L S := by
  intro p e s m args below meth c T locs I X eT N
  obtain ⟨T', X', eT', st'⟩ := st I X eT
  obtain ⟨s₂, o, h1, r⟩ := k p e s m args below meth c T' locs I X' eT' N
  exact ⟨s₂, o, st' _ h1, r⟩
theorem g_pure {pc' : Nat} {L' : Array Slot} {S' : List Value}
    (st : ∀ {p : Program} {e : Env} {s : State} {m : MethodId} {args : Array Value} {below : List Frame} {meth : Method} {c : Code} {T : State} {locs : List Loc}, Inv Z n0 M p s m meth c → Stand p l e R s m args below meth c T locs kc ks →
      ∀ target, Steps p.tables e below (T.setTop (mkF m pc' L' S')) target → Steps p.tables e below (T.setTop (mkF m pc L S)) target)
    (k : Go l Z n0 M R Q h kc ks pc' L' S') : Go l Z n0 M R Q h kc ks pc L S :=
  g_via (fun I X eT => ⟨_, X, eT, st I X⟩) k
theorem g_iload_n (pc' : Nat) {k : Fin 4} {v : Int32} (hd : decode M.2.1 pc = .ok (.iload_n k, 1)) (hl : L[k.val]? = some (.val (.int v))) (hp : pc + 1 = pc') (kk : Go l Z n0 M R Q h kc ks pc' L (.int v :: S)) : Go l Z n0 M R Q h kc ks pc L (S) := by
  subst hp
  exact g_pure (fun I X t kt => XS.iloadN X.here I.1 rfl (hb I.2.2.1 hd) hl kt) kk
theorem g_iload (pc' : Nat) {k : Nat} {v : Int32} (hd : decode M.2.1 pc = .ok (.iload k, 2)) (hl : L[k]? = some (.val (.int v))) (hp : pc + 2 = pc') (kk : Go l Z n0 M R Q h kc ks pc' L (.int v :: S)) : Go l Z n0 M R Q h kc ks pc L (S) := by
  subst hp
  exact g_pure (fun I X t kt => XS.iload X.here I.1 rfl (hb I.2.2.1 hd) hl kt) kk
theorem g_lload_n (pc' : Nat) {k : Fin 4} {v : Int64} (hd : decode M.2.1 pc = .ok (.lload_n k, 1)) (hl : L[k.val]? = some (.val (.long v))) (hp : pc + 1 = pc') (kk : Go l Z n0 M R Q h kc ks pc' L (.long v :: S)) : Go l Z n0 M R Q h kc ks pc L (S) := by
  subst hp
  exact g_pure (fun I X t kt => XT.lloadN X.here I.1 rfl (hb I.2.2.1 hd) hl kt) kk
theorem g_lload (pc' : Nat) {k : Nat} {v : Int64} (hd : decode M.2.1 pc = .ok (.lload k, 2)) (hl : L[k]? = some (.val (.long v))) (hp : pc + 2 = pc') (kk : Go l Z n0 M R Q h kc ks pc' L (.long v :: S)) : Go l Z n0 M R Q h kc ks pc L (S) := by
  subst hp
  exact g_pure (fun I X t kt => XT.lload X.here I.1 rfl (hb I.2.2.1 hd) hl kt) kk
theorem g_aload_n (pc' : Nat) {k : Fin 4} {v : Value} (hd : decode M.2.1 pc = .ok (.aload_n k, 1)) (hl : L[k.val]? = some (.val v)) (hv : v.isRef = true) (hp : pc + 1 = pc') (kk : Go l Z n0 M R Q h kc ks pc' L (v :: S)) : Go l Z n0 M R Q h kc ks pc L (S) := by
  subst hp
  exact g_pure (fun I X t kt => XS.aloadN X.here I.1 rfl (hb I.2.2.1 hd) hl hv kt) kk
theorem g_aload (pc' : Nat) {k : Nat} {v : Value} (hd : decode M.2.1 pc = .ok (.aload k, 2)) (hl : L[k]? = some (.val v)) (hv : v.isRef = true) (hp : pc + 2 = pc') (kk : Go l Z n0 M R Q h kc ks pc' L (v :: S)) : Go l Z n0 M R Q h kc ks pc L (S) := by
  subst hp
  exact g_pure (fun I X t kt => XS.aload X.here I.1 rfl (hb I.2.2.1 hd) hl hv kt) kk
theorem g_istore_n (pc' : Nat) {k : Fin 4} {x : Int32} (L' : Array Slot) (hd : decode M.2.1 pc = .ok (.istore_n k, 1)) (hl : storeLocals L k.val (.int x) = some L') (hp : pc + 1 = pc') (kk : Go l Z n0 M R Q h kc ks pc' L' (S)) : Go l Z n0 M R Q h kc ks pc L (.int x :: S) := by
  subst hp
  exact g_pure (fun I X t kt => XS.istoreN X.here I.1 rfl (hb I.2.2.1 hd) rfl hl kt) kk
theorem g_istore (pc' : Nat) {k : Nat} {x : Int32} (L' : Array Slot) (hd : decode M.2.1 pc = .ok (.istore k, 2)) (hl : storeLocals L k (.int x) = some L') (hp : pc + 2 = pc') (kk : Go l Z n0 M R Q h kc ks pc' L' (S)) : Go l Z n0 M R Q h kc ks pc L (.int x :: S) := by
  subst hp
  exact g_pure (fun I X t kt => XS.istore X.here I.1 rfl (hb I.2.2.1 hd) rfl hl kt) kk
theorem g_lstore_n (pc' : Nat) {k : Fin 4} {x : Int64} (L' : Array Slot) (hd : decode M.2.1 pc = .ok (.lstore_n k, 1)) (hl : storeLocals L k.val (.long x) = some L') (hp : pc + 1 = pc') (kk : Go l Z n0 M R Q h kc ks pc' L' (S)) : Go l Z n0 M R Q h kc ks pc L (.long x :: S) := by
  subst hp
  exact g_pure (fun I X t kt => XT.lstoreN X.here I.1 rfl (hb I.2.2.1 hd) rfl hl kt) kk
theorem g_lstore (pc' : Nat) {k : Nat} {x : Int64} (L' : Array Slot) (hd : decode M.2.1 pc = .ok (.lstore k, 2)) (hl : storeLocals L k (.long x) = some L') (hp : pc + 2 = pc') (kk : Go l Z n0 M R Q h kc ks pc' L' (S)) : Go l Z n0 M R Q h kc ks pc L (.long x :: S) := by
  subst hp
  exact g_pure (fun I X t kt => XT.lstore X.here I.1 rfl (hb I.2.2.1 hd) rfl hl kt) kk
theorem g_astore_n (pc' : Nat) {k : Fin 4} {x : Value} (L' : Array Slot) (hd : decode M.2.1 pc = .ok (.astore_n k, 1)) (hv : x.isRef = true) (hl : storeLocals L k.val x = some L') (hp : pc + 1 = pc') (kk : Go l Z n0 M R Q h kc ks pc' L' (S)) : Go l Z n0 M R Q h kc ks pc L (x :: S) := by
  subst hp
  exact g_pure (fun I X t kt => XS.astoreN X.here I.1 rfl (hb I.2.2.1 hd) rfl hv hl kt) kk
theorem g_astore (pc' : Nat) {k : Nat} {x : Value} (L' : Array Slot) (hd : decode M.2.1 pc = .ok (.astore k, 2)) (hv : x.isRef = true) (hl : storeLocals L k x = some L') (hp : pc + 2 = pc') (kk : Go l Z n0 M R Q h kc ks pc' L' (S)) : Go l Z n0 M R Q h kc ks pc L (x :: S) := by
  subst hp
  exact g_pure (fun I X t kt => XS.astore X.here I.1 rfl (hb I.2.2.1 hd) rfl hv hl kt) kk
theorem g_iinc (pc' : Nat) {k : Nat} {cst : Int} {x : Int32} (L' : Array Slot) (hd : decode M.2.1 pc = .ok (.iinc k cst, 3)) (hl : L[k]? = some (.val (.int x))) (hl2 : storeLocals L k (.int (x + Int32.ofInt cst)) = some L') (hp : pc + 3 = pc') (kk : Go l Z n0 M R Q h kc ks pc' L' (S)) : Go l Z n0 M R Q h kc ks pc L (S) := by
  subst hp
  exact g_pure (fun I X t kt => XS.iinc X.here I.1 rfl (hb I.2.2.1 hd) hl hl2 kt) kk
theorem g_iconst (pc' : Nat) {i : Int} (w : Int32) (hd : decode M.2.1 pc = .ok (.iconst i, 1)) (hv : w = Int32.ofInt i) (hp : pc + 1 = pc') (kk : Go l Z n0 M R Q h kc ks pc' L (.int w :: S)) : Go l Z n0 M R Q h kc ks pc L (S) := by
  subst hp
  exact g_pure (fun I X t kt => XS.iconst X.here I.1 rfl (hb I.2.2.1 hd) (hv ▸ kt)) kk
theorem g_bipush (pc' : Nat) {i : Int} (w : Int32) (hd : decode M.2.1 pc = .ok (.bipush i, 2)) (hv : w = (Int8.ofInt i).toInt32) (hp : pc + 2 = pc') (kk : Go l Z n0 M R Q h kc ks pc' L (.int w :: S)) : Go l Z n0 M R Q h kc ks pc L (S) := by
  subst hp
  exact g_pure (fun I X t kt => XS.bipush X.here I.1 rfl (hb I.2.2.1 hd) (hv ▸ kt)) kk
theorem g_sipush (pc' : Nat) {i : Int} (w : Int32) (hd : decode M.2.1 pc = .ok (.sipush i, 3)) (hv : w = (Int16.ofInt i).toInt32) (hp : pc + 3 = pc') (kk : Go l Z n0 M R Q h kc ks pc' L (.int w :: S)) : Go l Z n0 M R Q h kc ks pc L (S) := by
  subst hp
  exact g_pure (fun I X t kt => XS.sipush X.here I.1 rfl (hb I.2.2.1 hd) (hv ▸ kt)) kk
theorem g_lconst (pc' : Nat) {k : Fin 2} (w : Int64) (hd : decode M.2.1 pc = .ok (.lconst k, 1)) (hv : w = Int64.ofNat k) (hp : pc + 1 = pc') (kk : Go l Z n0 M R Q h kc ks pc' L (.long w :: S)) : Go l Z n0 M R Q h kc ks pc L (S) := by
  subst hp
  exact g_pure (fun I X t kt => XT.lconst X.here I.1 rfl (hb I.2.2.1 hd) (hv ▸ kt)) kk
theorem g_aconst_null (pc' : Nat)  (hd : decode M.2.1 pc = .ok (.aconst_null, 1))  (hp : pc + 1 = pc') (kk : Go l Z n0 M R Q h kc ks pc' L (.null :: S)) : Go l Z n0 M R Q h kc ks pc L (S) := by
  subst hp
  exact g_pure (fun I X t kt => XS.aconstNull X.here I.1 rfl (hb I.2.2.1 hd) kt) kk
theorem g_ldcI (pc' : Nat) {index : Nat} {w : Int32} (hd : decode M.2.1 pc = .ok (.ldc index, 2)) (hw : (Jvm.Cond.constant M.1.cls index w).before a0 Z = true) (hp : pc + 2 = pc') (kk : Go l Z n0 M R Q h kc ks pc' L (.int w :: S)) : Go l Z n0 M R Q h kc ks pc L (S) := by
  subst hp
  exact g_pure (fun I X t kt => X.ldcI I.1 I.2.2.2.2.1 (mvT I.2.1 hw) rfl (hb I.2.2.1 hd) kt) kk
theorem g_ldcWI (pc' : Nat) {index : Nat} {w : Int32} (hd : decode M.2.1 pc = .ok (.ldc_w index, 3)) (hw : (Jvm.Cond.constant M.1.cls index w).before a0 Z = true) (hp : pc + 3 = pc') (kk : Go l Z n0 M R Q h kc ks pc' L (.int w :: S)) : Go l Z n0 M R Q h kc ks pc L (S) := by
  subst hp
  exact g_pure (fun I X t kt => X.ldcWI I.1 I.2.2.2.2.1 (mvT I.2.1 hw) rfl (hb I.2.2.1 hd) kt) kk
theorem g_ldc2J (pc' : Nat) {index : Nat} {w : Int64} (hd : decode M.2.1 pc = .ok (.ldc2_w index, 3)) (hw : (Jvm.Cond.constantLong M.1.cls index w).before a0 Z = true) (hp : pc + 3 = pc') (kk : Go l Z n0 M R Q h kc ks pc' L (.long w :: S)) : Go l Z n0 M R Q h kc ks pc L (S) := by
  subst hp
  exact g_pure (fun I X t kt => X.ldc2J I.1 I.2.2.2.2.1 (mvT I.2.1 hw) rfl (hb I.2.2.1 hd) kt) kk
theorem g_iadd (pc' : Nat) {x y : Int32} (hd : decode M.2.1 pc = .ok (.iadd, 1))  (hp : pc + 1 = pc') (kk : Go l Z n0 M R Q h kc ks pc' L (.int (x + y) :: S)) : Go l Z n0 M R Q h kc ks pc L (.int y :: .int x :: S) := by
  subst hp
  exact g_pure (fun I X t kt => XS.iadd X.here I.1 rfl (hb I.2.2.1 hd) rfl kt) kk
theorem g_isub (pc' : Nat) {x y : Int32} (hd : decode M.2.1 pc = .ok (.isub, 1))  (hp : pc + 1 = pc') (kk : Go l Z n0 M R Q h kc ks pc' L (.int (x - y) :: S)) : Go l Z n0 M R Q h kc ks pc L (.int y :: .int x :: S) := by
  subst hp
  exact g_pure (fun I X t kt => XS.isub X.here I.1 rfl (hb I.2.2.1 hd) rfl kt) kk
theorem g_imul (pc' : Nat) {x y : Int32} (hd : decode M.2.1 pc = .ok (.imul, 1))  (hp : pc + 1 = pc') (kk : Go l Z n0 M R Q h kc ks pc' L (.int (x * y) :: S)) : Go l Z n0 M R Q h kc ks pc L (.int y :: .int x :: S) := by
  subst hp
  exact g_pure (fun I X t kt => XS.imul X.here I.1 rfl (hb I.2.2.1 hd) rfl kt) kk
theorem g_iand (pc' : Nat) {x y : Int32} (hd : decode M.2.1 pc = .ok (.iand, 1))  (hp : pc + 1 = pc') (kk : Go l Z n0 M R Q h kc ks pc' L (.int (x &&& y) :: S)) : Go l Z n0 M R Q h kc ks pc L (.int y :: .int x :: S) := by
  subst hp
  exact g_pure (fun I X t kt => XS.iand X.here I.1 rfl (hb I.2.2.1 hd) rfl kt) kk
theorem g_ior (pc' : Nat) {x y : Int32} (hd : decode M.2.1 pc = .ok (.ior, 1))  (hp : pc + 1 = pc') (kk : Go l Z n0 M R Q h kc ks pc' L (.int (x ||| y) :: S)) : Go l Z n0 M R Q h kc ks pc L (.int y :: .int x :: S) := by
  subst hp
  exact g_pure (fun I X t kt => XT.ior X.here I.1 rfl (hb I.2.2.1 hd) rfl kt) kk
theorem g_ixor (pc' : Nat) {x y : Int32} (hd : decode M.2.1 pc = .ok (.ixor, 1))  (hp : pc + 1 = pc') (kk : Go l Z n0 M R Q h kc ks pc' L (.int (x ^^^ y) :: S)) : Go l Z n0 M R Q h kc ks pc L (.int y :: .int x :: S) := by
  subst hp
  exact g_pure (fun I X t kt => XT.ixor X.here I.1 rfl (hb I.2.2.1 hd) rfl kt) kk
theorem g_ishl (pc' : Nat) {x y : Int32} (hd : decode M.2.1 pc = .ok (.ishl, 1))  (hp : pc + 1 = pc') (kk : Go l Z n0 M R Q h kc ks pc' L (.int (x <<< (y &&& 31)) :: S)) : Go l Z n0 M R Q h kc ks pc L (.int y :: .int x :: S) := by
  subst hp
  exact g_pure (fun I X t kt => XT.ishl X.here I.1 rfl (hb I.2.2.1 hd) rfl kt) kk
theorem g_ishr (pc' : Nat) {x y : Int32} (hd : decode M.2.1 pc = .ok (.ishr, 1))  (hp : pc + 1 = pc') (kk : Go l Z n0 M R Q h kc ks pc' L (.int (x >>> (y &&& 31)) :: S)) : Go l Z n0 M R Q h kc ks pc L (.int y :: .int x :: S) := by
  subst hp
  exact g_pure (fun I X t kt => XT.ishr X.here I.1 rfl (hb I.2.2.1 hd) rfl kt) kk
theorem g_iushr (pc' : Nat) {x y : Int32} (hd : decode M.2.1 pc = .ok (.iushr, 1))  (hp : pc + 1 = pc') (kk : Go l Z n0 M R Q h kc ks pc' L (.int (XT.ushr x y) :: S)) : Go l Z n0 M R Q h kc ks pc L (.int y :: .int x :: S) := by
  subst hp
  exact g_pure (fun I X t kt => XT.iushr X.here I.1 rfl (hb I.2.2.1 hd) rfl kt) kk
theorem g_idiv (pc' : Nat) {x y : Int32} (hd : decode M.2.1 pc = .ok (.idiv, 1)) (hy : y ≠ 0) (hp : pc + 1 = pc') (kk : Go l Z n0 M R Q h kc ks pc' L (.int (x / y) :: S)) : Go l Z n0 M R Q h kc ks pc L (.int y :: .int x :: S) := by
  subst hp
  exact g_pure (fun I X t kt => XS.idiv X.here I.1 rfl (hb I.2.2.1 hd) rfl hy kt) kk
theorem g_irem (pc' : Nat) {x y : Int32} (hd : decode M.2.1 pc = .ok (.irem, 1)) (hy : y ≠ 0) (hp : pc + 1 = pc') (kk : Go l Z n0 M R Q h kc ks pc' L (.int (x % y) :: S)) : Go l Z n0 M R Q h kc ks pc L (.int y :: .int x :: S) := by
  subst hp
  exact g_pure (fun I X t kt => iremM X I.1 rfl (hb I.2.2.1 hd) rfl hy kt) kk
theorem g_ineg (pc' : Nat) {x : Int32} (hd : decode M.2.1 pc = .ok (.ineg, 1))  (hp : pc + 1 = pc') (kk : Go l Z n0 M R Q h kc ks pc' L (.int (-x) :: S)) : Go l Z n0 M R Q h kc ks pc L (.int x :: S) := by
  subst hp
  exact g_pure (fun I X t kt => XS.ineg X.here I.1 rfl (hb I.2.2.1 hd) rfl kt) kk
theorem g_ladd (pc' : Nat) {x y : Int64} (hd : decode M.2.1 pc = .ok (.ladd, 1))  (hp : pc + 1 = pc') (kk : Go l Z n0 M R Q h kc ks pc' L (.long (x + y) :: S)) : Go l Z n0 M R Q h kc ks pc L (.long y :: .long x :: S) := by
  subst hp
  exact g_pure (fun I X t kt => XT.ladd X.here I.1 rfl (hb I.2.2.1 hd) rfl kt) kk
theorem g_lsub (pc' : Nat) {x y : Int64} (hd : decode M.2.1 pc = .ok (.lsub, 1))  (hp : pc + 1 = pc') (kk : Go l Z n0 M R Q h kc ks pc' L (.long (x - y) :: S)) : Go l Z n0 M R Q h kc ks pc L (.long y :: .long x :: S) := by
  subst hp
  exact g_pure (fun I X t kt => XT.lsub X.here I.1 rfl (hb I.2.2.1 hd) rfl kt) kk
theorem g_lmul (pc' : Nat) {x y : Int64} (hd : decode M.2.1 pc = .ok (.lmul, 1))  (hp : pc + 1 = pc') (kk : Go l Z n0 M R Q h kc ks pc' L (.long (x * y) :: S)) : Go l Z n0 M R Q h kc ks pc L (.long y :: .long x :: S) := by
  subst hp
  exact g_pure (fun I X t kt => XT.lmul X.here I.1 rfl (hb I.2.2.1 hd) rfl kt) kk
theorem g_land (pc' : Nat) {x y : Int64} (hd : decode M.2.1 pc = .ok (.land, 1))  (hp : pc + 1 = pc') (kk : Go l Z n0 M R Q h kc ks pc' L (.long (x &&& y) :: S)) : Go l Z n0 M R Q h kc ks pc L (.long y :: .long x :: S) := by
  subst hp
  exact g_pure (fun I X t kt => XT.land X.here I.1 rfl (hb I.2.2.1 hd) rfl kt) kk
theorem g_lor (pc' : Nat) {x y : Int64} (hd : decode M.2.1 pc = .ok (.lor, 1))  (hp : pc + 1 = pc') (kk : Go l Z n0 M R Q h kc ks pc' L (.long (x ||| y) :: S)) : Go l Z n0 M R Q h kc ks pc L (.long y :: .long x :: S) := by
  subst hp
  exact g_pure (fun I X t kt => XT.lor X.here I.1 rfl (hb I.2.2.1 hd) rfl kt) kk
theorem g_lxor (pc' : Nat) {x y : Int64} (hd : decode M.2.1 pc = .ok (.lxor, 1))  (hp : pc + 1 = pc') (kk : Go l Z n0 M R Q h kc ks pc' L (.long (x ^^^ y) :: S)) : Go l Z n0 M R Q h kc ks pc L (.long y :: .long x :: S) := by
  subst hp
  exact g_pure (fun I X t kt => XT.lxor X.here I.1 rfl (hb I.2.2.1 hd) rfl kt) kk
theorem g_lrem (pc' : Nat) {x y : Int64} (hd : decode M.2.1 pc = .ok (.lrem, 1)) (hy : y ≠ 0) (hp : pc + 1 = pc') (kk : Go l Z n0 M R Q h kc ks pc' L (.long (x - (x / y) * y) :: S)) : Go l Z n0 M R Q h kc ks pc L (.long y :: .long x :: S) := by
  subst hp
  exact g_pure (fun I X t kt => XT.lrem X.here I.1 rfl (hb I.2.2.1 hd) rfl hy kt) kk
theorem g_lneg (pc' : Nat) {x : Int64} (hd : decode M.2.1 pc = .ok (.lneg, 1))  (hp : pc + 1 = pc') (kk : Go l Z n0 M R Q h kc ks pc' L (.long (-x) :: S)) : Go l Z n0 M R Q h kc ks pc L (.long x :: S) := by
  subst hp
  exact g_pure (fun I X t kt => XT.lneg X.here I.1 rfl (hb I.2.2.1 hd) rfl kt) kk
theorem g_lshl (pc' : Nat) {x : Int64} {y : Int32} (hd : decode M.2.1 pc = .ok (.lshl, 1))  (hp : pc + 1 = pc') (kk : Go l Z n0 M R Q h kc ks pc' L (.long (x <<< (y.toInt64 &&& 63)) :: S)) : Go l Z n0 M R Q h kc ks pc L (.int y :: .long x :: S) := by
  subst hp
  exact g_pure (fun I X t kt => XT.lshl X.here I.1 rfl (hb I.2.2.1 hd) rfl kt) kk
theorem g_lushr (pc' : Nat) {x : Int64} {y : Int32} (hd : decode M.2.1 pc = .ok (.lushr, 1))  (hp : pc + 1 = pc') (kk : Go l Z n0 M R Q h kc ks pc' L (.long (XT.ushrL x y) :: S)) : Go l Z n0 M R Q h kc ks pc L (.int y :: .long x :: S) := by
  subst hp
  exact g_pure (fun I X t kt => XT.lushr X.here I.1 rfl (hb I.2.2.1 hd) rfl kt) kk
theorem g_i2l (pc' : Nat) {x : Int32} (hd : decode M.2.1 pc = .ok (.i2l, 1))  (hp : pc + 1 = pc') (kk : Go l Z n0 M R Q h kc ks pc' L (.long x.toInt64 :: S)) : Go l Z n0 M R Q h kc ks pc L (.int x :: S) := by
  subst hp
  exact g_pure (fun I X t kt => XT.i2l X.here I.1 rfl (hb I.2.2.1 hd) rfl kt) kk
theorem g_l2i (pc' : Nat) {x : Int64} (hd : decode M.2.1 pc = .ok (.l2i, 1))  (hp : pc + 1 = pc') (kk : Go l Z n0 M R Q h kc ks pc' L (.int x.toInt32 :: S)) : Go l Z n0 M R Q h kc ks pc L (.long x :: S) := by
  subst hp
  exact g_pure (fun I X t kt => XT.l2i X.here I.1 rfl (hb I.2.2.1 hd) rfl kt) kk
theorem g_dload_n (pc' : Nat) {k : Fin 4} {v : UInt64} (hd : decode M.2.1 pc = .ok (.dload_n k, 1)) (hl : L[k.val]? = some (.val (.double v))) (hp : pc + 1 = pc') (kk : Go l Z n0 M R Q h kc ks pc' L (.double v :: S)) : Go l Z n0 M R Q h kc ks pc L (S) := by
  subst hp
  exact g_pure (fun I X t kt => XS.dloadN X.here I.1 rfl (hb I.2.2.1 hd) hl kt) kk
theorem g_ldc2D (pc' : Nat) {index : Nat} {w : UInt64} (hd : decode M.2.1 pc = .ok (.ldc2_w index, 3)) (hw : (Jvm.Cond.constantDouble M.1.cls index w).before a0 Z = true) (hp : pc + 3 = pc') (kk : Go l Z n0 M R Q h kc ks pc' L (.double w :: S)) : Go l Z n0 M R Q h kc ks pc L (S) := by
  subst hp
  exact g_pure (fun I X t kt => X.ldc2DoubleC I.1 I.2.2.2.2.1 (mvT I.2.1 hw) (g := mkF _ pc L S) rfl (hb I.2.2.1 hd) _ kt) kk
theorem g_dup (pc' : Nat) {v : Value} (hd : decode M.2.1 pc = .ok (.dup, 1)) (hv : v.category = 1) (hp : pc + 1 = pc') (kk : Go l Z n0 M R Q h kc ks pc' L (v :: v :: S)) : Go l Z n0 M R Q h kc ks pc L (v :: S) := by
  subst hp
  exact g_pure (fun I X t kt => XS.dup X.here I.1 rfl (hb I.2.2.1 hd) rfl hv kt) kk
theorem g_goto (pc' : Nat) {o : Int} (hd : decode M.2.1 pc = .ok (.goto o, 3)) (hp : (pc : Int) + o = (pc' : Int)) (kk : Go l Z n0 M R Q h kc ks pc' L S) : Go l Z n0 M R Q h kc ks pc L S :=
  g_pure (fun I X t kt => XS.goto X.here I.1 rfl (pc0 := pc) (pc' := pc') rfl (hb I.2.2.1 hd) (by omega) (by omega) kt) kk
theorem g_icmpT (pc' : Nat) {cd : ClassFile.Cond} {o : Int} {x y : Int32} (hd : decode M.2.1 pc = .ok (.if_icmp cd o, 3)) (hc : cP cd x y) (hp : (pc : Int) + o = (pc' : Int)) (kk : Go l Z n0 M R Q h kc ks pc' L S) : Go l Z n0 M R Q h kc ks pc L (.int y :: .int x :: S) :=
  g_pure (fun I X t kt => XS.icmpYes X.here I.1 rfl (pc0 := pc) (pc' := pc') rfl (hb I.2.2.1 hd) rfl (cP_t hc) (by omega) (by omega) kt) kk
theorem g_icmpF (pc' : Nat) {cd : ClassFile.Cond} {o : Int} {x y : Int32} (hd : decode M.2.1 pc = .ok (.if_icmp cd o, 3)) (hc : ¬ cP cd x y) (hp : pc + 3 = pc') (kk : Go l Z n0 M R Q h kc ks pc' L S) : Go l Z n0 M R Q h kc ks pc L (.int y :: .int x :: S) := by
  subst hp
  exact g_pure (fun I X t kt => XS.icmpNo X.here I.1 rfl (hb I.2.2.1 hd) rfl (cP_f hc) kt) kk
theorem g_ifT (pc' : Nat) {cd : ClassFile.Cond} {o : Int} {x : Int32} (hd : decode M.2.1 pc = .ok (.ifCond cd o, 3)) (hc : cP cd x 0) (hp : (pc : Int) + o = (pc' : Int)) (kk : Go l Z n0 M R Q h kc ks pc' L S) : Go l Z n0 M R Q h kc ks pc L (.int x :: S) :=
  g_pure (fun I X t kt => XS.ifYes X.here I.1 rfl (pc0 := pc) (pc' := pc') rfl (hb I.2.2.1 hd) rfl ((if0 cd x).trans (cP_t hc)) (by omega) (by omega) kt) kk
theorem g_ifF (pc' : Nat) {cd : ClassFile.Cond} {o : Int} {x : Int32} (hd : decode M.2.1 pc = .ok (.ifCond cd o, 3)) (hc : ¬ cP cd x 0) (hp : pc + 3 = pc') (kk : Go l Z n0 M R Q h kc ks pc' L S) : Go l Z n0 M R Q h kc ks pc L (.int x :: S) := by
  subst hp
  exact g_pure (fun I X t kt => XS.ifNo X.here I.1 rfl (hb I.2.2.1 hd) rfl ((if0 cd x).trans (cP_f hc)) kt) kk
theorem g_lcmpT (pc' : Nat) {cd : ClassFile.Cond} {o : Int} {x y : Int64} (hd : decode M.2.1 pc = .ok (.lcmp, 1)) (hd2 : decode M.2.1 (pc + 1) = .ok (.ifCond cd o, 3)) (hc : lP cd x y) (hp : ((pc + 1 : Nat) : Int) + o = (pc' : Int)) (kk : Go l Z n0 M R Q h kc ks pc' L S) : Go l Z n0 M R Q h kc ks pc L (.long y :: .long x :: S) :=
  g_pure (fun I X t kt => XT.lcmp X.here I.1 rfl (hb I.2.2.1 hd) rfl (XS.ifYes X.here I.1 rfl (pc0 := pc + 1) (pc' := pc') rfl (hb I.2.2.1 hd2) rfl (lP_t hc) (by omega) (by omega) kt)) kk
theorem g_lcmpF (pc' : Nat) {cd : ClassFile.Cond} {o : Int} {x y : Int64} (hd : decode M.2.1 pc = .ok (.lcmp, 1)) (hd2 : decode M.2.1 (pc + 1) = .ok (.ifCond cd o, 3)) (hc : ¬ lP cd x y) (hp : pc + 4 = pc') (kk : Go l Z n0 M R Q h kc ks pc' L S) : Go l Z n0 M R Q h kc ks pc L (.long y :: .long x :: S) := by
  subst hp
  exact g_pure (fun I X t kt => XT.lcmp X.here I.1 rfl (hb I.2.2.1 hd) rfl (XS.ifNo X.here I.1 rfl (hb I.2.2.1 hd2) rfl (lP_f hc) kt)) kk
theorem g_icmp (pcT pcF : Nat) {cd : ClassFile.Cond} {o : Int} {x y : Int32} (hd : decode M.2.1 pc = .ok (.if_icmp cd o, 3)) (hp : (pc : Int) + o = (pcT : Int)) (hp2 : pc + 3 = pcF) (k1 : cP cd x y → Go l Z n0 M R Q h kc ks pcT L S) (k2 : ¬ cP cd x y → Go l Z n0 M R Q h kc ks pcF L S) : Go l Z n0 M R Q h kc ks pc L (.int y :: .int x :: S) := by
  by_cases q : cP cd x y
  · exact g_icmpT pcT hd q hp (k1 q)
  · exact g_icmpF pcF hd q hp2 (k2 q)
theorem g_ifC (pcT pcF : Nat) {cd : ClassFile.Cond} {o : Int} {x : Int32} (hd : decode M.2.1 pc = .ok (.ifCond cd o, 3)) (hp : (pc : Int) + o = (pcT : Int)) (hp2 : pc + 3 = pcF) (k1 : cP cd x 0 → Go l Z n0 M R Q h kc ks pcT L S) (k2 : ¬ cP cd x 0 → Go l Z n0 M R Q h kc ks pcF L S) : Go l Z n0 M R Q h kc ks pc L (.int x :: S) := by
  by_cases q : cP cd x 0
  · exact g_ifT pcT hd q hp (k1 q)
  · exact g_ifF pcF hd q hp2 (k2 q)
theorem g_lcmp (pcT pcF : Nat) {cd : ClassFile.Cond} {o : Int} {x y : Int64} (hd : decode M.2.1 pc = .ok (.lcmp, 1)) (hd2 : decode M.2.1 (pc + 1) = .ok (.ifCond cd o, 3)) (hp : ((pc + 1 : Nat) : Int) + o = (pcT : Int)) (hp2 : pc + 4 = pcF) (k1 : lP cd x y → Go l Z n0 M R Q h kc ks pcT L S) (k2 : ¬ lP cd x y → Go l Z n0 M R Q h kc ks pcF L S) : Go l Z n0 M R Q h kc ks pc L (.long y :: .long x :: S) := by
  by_cases q : lP cd x y
  · exact g_lcmpT pcT hd hd2 q hp (k1 q)
  · exact g_lcmpF pcF hd hd2 q hp2 (k2 q)
theorem g_nullT (pc' : Nat) {o : Int} (hd : decode M.2.1 pc = .ok (.ifnull o, 3)) (hp : (pc : Int) + o = (pc' : Int)) (kk : Go l Z n0 M R Q h kc ks pc' L S) : Go l Z n0 M R Q h kc ks pc L (.null :: S) :=
  g_pure (fun I X t kt => XS.ifnullYes X.here I.1 rfl (pc0 := pc) (pc' := pc') rfl (hb I.2.2.1 hd) rfl (by omega) (by omega) kt) kk
theorem g_nullF (pc' : Nat) {o : Int} {a : Addr} (hd : decode M.2.1 pc = .ok (.ifnull o, 3)) (hp : pc + 3 = pc') (kk : Go l Z n0 M R Q h kc ks pc' L S) : Go l Z n0 M R Q h kc ks pc L (.ref a :: S) := by
  subst hp
  exact g_pure (fun I X t kt => XS.ifnullNo X.here I.1 rfl (hb I.2.2.1 hd) rfl kt) kk
theorem g_nonnullT (pc' : Nat) {o : Int} {a : Addr} (hd : decode M.2.1 pc = .ok (.ifnonnull o, 3)) (hp : (pc : Int) + o = (pc' : Int)) (kk : Go l Z n0 M R Q h kc ks pc' L S) : Go l Z n0 M R Q h kc ks pc L (.ref a :: S) :=
  g_pure (fun I X t kt => XT.ifnonnullYes X.here I.1 rfl (pc0 := pc) (pc' := pc') rfl (hb I.2.2.1 hd) rfl (by omega) (by omega) kt) kk
theorem g_nonnullF (pc' : Nat) {o : Int} (hd : decode M.2.1 pc = .ok (.ifnonnull o, 3)) (hp : pc + 3 = pc') (kk : Go l Z n0 M R Q h kc ks pc' L S) : Go l Z n0 M R Q h kc ks pc L (.null :: S) := by
  subst hp
  exact g_pure (fun I X t kt => XT.ifnonnullNo X.here I.1 rfl (hb I.2.2.1 hd) rfl kt) kk
-- RETURNS
theorem g_ret {w : Value} {t : FieldType} {i : Instr} (hd : decode M.2.1 pc = .ok (i, 1)) (hret : M.2.2.2 = some t) (hn : narrow t w = w)
    (hi : (i = .ireturn ∧ (t = .int ∨ t = .boolean ∨ t = .byte ∨ t = .char ∨ t = .short) ∧ ∃ z, w = .int z) ∨ (i = .lreturn ∧ t = .long ∧ ∃ z, w = .long z) ∨ (i = .dreturn ∧ t = .double ∧ ∃ z, w = .double z) ∨ (i = .freturn ∧ t = .float ∧ ∃ z, w = .float z) ∨ (i = .areturn ∧ t.isReference = true ∧ w.isRef = true))
    (hc : kc ≤ R.cells) (hs : ks ≤ R.slots) (hq : Q (some w) h) : Go l Z n0 M R Q h kc ks pc L (w :: S) := by
  intro p e s m args below meth c T locs I X eT N
  obtain ⟨hx, hZ, hby, hml, hown, hnm, hrt, hlk, hn0⟩ := I
  obtain ⟨fs, hr, hrun, hended, hW, hsame⟩ := X.leave (v := some w) (fun q => by rw [hrt, hret] at q; cases q) hlk
  refine ⟨_, _, retOut X hx (hrt.trans hret) hn hi (hb hby hd) hr, hrun, hended, _, _, rfl, ⟨?_, N⟩, ⟨_, rfl⟩, hW, hsame.mono hc hs⟩
  show Q (some w) T.heap
  rw [eT]
  exact hq
theorem g_retI {z : Int32} (hd : decode M.2.1 pc = .ok (.ireturn, 1)) (hret : M.2.2.2 = some .int) (hc : kc ≤ R.cells) (hs : ks ≤ R.slots) (hq : Q (some (.int z)) h) : Go l Z n0 M R Q h kc ks pc L (.int z :: S) :=
  g_ret hd hret rfl (Or.inl ⟨rfl, Or.inl rfl, _, rfl⟩) hc hs hq
theorem g_retZ {z : Int32} (hd : decode M.2.1 pc = .ok (.ireturn, 1)) (hret : M.2.2.2 = some .boolean) (hn : narrow .boolean (.int z) = .int z) (hc : kc ≤ R.cells) (hs : ks ≤ R.slots) (hq : Q (some (.int z)) h) : Go l Z n0 M R Q h kc ks pc L (.int z :: S) :=
  g_ret hd hret hn (Or.inl ⟨rfl, Or.inr (Or.inl rfl), _, rfl⟩) hc hs hq
theorem g_retJ {z : Int64} (hd : decode M.2.1 pc = .ok (.lreturn, 1)) (hret : M.2.2.2 = some .long) (hc : kc ≤ R.cells) (hs : ks ≤ R.slots) (hq : Q (some (.long z)) h) : Go l Z n0 M R Q h kc ks pc L (.long z :: S) :=
  g_ret hd hret rfl (Or.inr (Or.inl ⟨rfl, rfl, _, rfl⟩)) hc hs hq
theorem g_retV (hd : decode M.2.1 pc = .ok (.return_, 1)) (hret : M.2.2.2 = none) (hc : kc ≤ R.cells) (hs : ks ≤ R.slots) (hq : Q none h) : Go l Z n0 M R Q h kc ks pc L [] := by
  intro p e s m args below meth c T locs I X eT N
  obtain ⟨hx, hZ, hby, hml, hown, hnm, hrt, hlk, hn0⟩ := I
  obtain ⟨fs, hr, hrun, hended, hW, hsame⟩ := X.leave (v := none) (fun _ => rfl) hlk
  refine ⟨_, _, X.returnOut hx (hrt.trans hret) (hb hby hd) hr, hrun, hended, _, _, rfl, ⟨?_, N⟩, ⟨_, rfl⟩, hW, hsame.mono hc hs⟩
  show Q none T.heap
  rw [eT]
  exact hq
-- ENTRY
theorem con_intro {as' : Array Value} {h0 : Heap} {rm : Room} (hpl : plainFor M.1 = true) (L : Array Slot) (hL : ∀ m, entryFrame m as' M.2.2.1 = mkF m 0 L []) (body : n0 ≤ h0.size → Go l Z n0 M rm Q h0 0 0 0 L []) : Con l Z n0 M rm as' h0 Q := by
  intro Z0 ws
  refine MetFree.of_bodySF hpl hisR ?_
  intro p e s m args below meth c s₁ Bd hml0 hP hK
  obtain ⟨rfl, hZ, hh⟩ := hP
  have e0 : s₁.heap = h0 := by rw [← hh, Bd.state]; rfl
  have X0 : Stand p l e rm s m args below meth c s₁ [] 0 0 := Stand.of_body Bd
  obtain ⟨s₂, o, h1, r⟩ := body Z0 p e s m args below meth c s₁ [] ⟨Bd.exec, hZ, Bd.bytes, hml0, findClass_of_methodNamed Bd.named, (name_of_methodNamed Bd.named Bd.method).1, Bd.returns, Bd.notSynchronized, by rw [hh]; exact Z0⟩ X0 e0 (Fr.nil n0)
  exact ⟨s₂, o, castTop (hL m) h1, r⟩
-- HEAP
theorem g_getF (pc' : Nat) {index : Nat} {O n d : String} {a : Addr} {v : Value} (hd : decode M.2.1 pc = .ok (.getfield index, 3)) (w : (Jvm.Cond.fieldLink M.1.cls index O n d).before a0 Z = true) (F : Fld Z h a O n d v) (hp : pc + 3 = pc') (kk : Go l Z n0 M R Q h kc ks pc' L (v :: S)) : Go l Z n0 M R Q h kc ks pc L (.ref a :: S) := by
  subst hp
  exact g_via (fun I X eT => getF X I.1 I.2.1 I.2.2.2.2.1 (host := "") (Or.inl w) Via.refl eT F (g := mkF _ pc L (.ref a :: S)) rfl rfl (hb I.2.2.1 hd)) kk
theorem g_ex {pc' : Nat} {L' : Array Slot} {S' : List Value} {kc' ks' : Nat} {P : Heap → Prop}
    (st : ∀ {p : Program} {e : Env} {s : State} {m : MethodId} {args : Array Value} {below : List Frame} {meth : Method} {c : Code} {T : State} {locs : List Loc}, Inv Z n0 M p s m meth c → Stand p l e R s m args below meth c T locs kc ks → T.heap = h → Fr n0 locs →
      ∃ T' h' locs', Stand p l e R s m args below meth c T' locs' kc' ks' ∧ T'.heap = h' ∧ Fr n0 locs' ∧ P h' ∧ ∀ target, Steps p.tables e below (T'.setTop (mkF m pc' L' S')) target → Steps p.tables e below (T.setTop (mkF m pc L S)) target)
    (k : ∀ h', P h' → Go l Z n0 M R Q h' kc' ks' pc' L' S') : Go l Z n0 M R Q h kc ks pc L S := by
  intro p e s m args below meth c T locs I X eT N
  obtain ⟨T', h', locs', X', eT', N', hP, st'⟩ := st I X eT N
  obtain ⟨s₂, o, h1, r⟩ := k h' hP p e s m args below meth c T' locs' I X' eT' N'
  exact ⟨s₂, o, st' _ h1, r⟩
theorem g_sz (kk : n0 ≤ h.size → Go l Z n0 M R Q h kc ks pc L S) : Go l Z n0 M R Q h kc ks pc L S := by
  intro p e s m args below meth c T locs I X eT N
  have q : n0 ≤ h.size := by
    rw [← eT]
    exact Nat.le_trans I.2.2.2.2.2.2.2.2 X.same.2.1
  exact kk q p e s m args below meth c T locs I X eT N
theorem g_putF (pc' : Nat) {index kk' : Nat} {O n d C : String} {a : Addr} {v old : Value} {ty : FieldType} (hd : decode M.2.1 pc = .ok (.putfield index, 3)) (w : (Jvm.Cond.fieldLink M.1.cls index O n d).before a0 Z = true) (F : Fld Z h a O n d old) (E : Exa Z h a C)
    (Lw : (Jvm.Cond.lays C O n d).before a0 Z = true ∨ ((Jvm.Cond.laysFinal C O n d).before a0 Z = true ∧ M.1.cls = O ∧ M.1.name = "<init>")) (wi : (Jvm.Cond.instantiable C kk').before a0 Z = true) (hty : parseFieldDescriptor d = some ty) (hn : narrow ty v = v) (hf : fits ty v = true) (ga : n0 ≤ a) (hp : pc + 3 = pc')
    (kk : ∀ h', Wr h h' a (Jvm.RoadKit.slotOf Z O n d) v → Go l Z n0 M R Q h' kc ks pc' L S) : Go l Z n0 M R Q h kc ks pc L (v :: .ref a :: S) := by
  subst hp
  refine g_ex (P := fun h' => Wr h h' a (Jvm.RoadKit.slotOf Z O n d) v) (fun I X eT N => ?_) kk
  obtain ⟨T', h', X', e', W', st⟩ := putF X I.1 I.2.1 I.2.2.2.2.1 (host := "") (Or.inl w) Via.refl eT F E (Lw.imp id (fun q => ⟨q.1, q.2.1, I.2.2.2.2.2.1.trans q.2.2⟩)) wi hty hn hf (g := mkF _ pc L (v :: .ref a :: S)) rfl rfl (hb I.2.2.1 hd)
  exact ⟨T', h', _, X', e', Fr.snoc X' N ga, W', st⟩
theorem g_new (pc' : Nat) {index n : Nat} {C : String} (hd : decode M.2.1 pc = .ok (.new index, 3)) (w : (Jvm.Cond.classLink M.1.cls index C).before a0 Z = true) (wi : (Jvm.Cond.instantiable C n).before a0 Z = true) (wz : (Jvm.Cond.initialized C).before a0 Z = true) (hc : kc + 1 ≤ R.cells) (hs : ks + n ≤ R.slots) (hp : pc + 3 = pc')
    (kk : ∀ h', Ext h h' → Exa Z h' h.size C → (∀ {O nm d : String} {ty : FieldType}, Laid Z a0 C O nm d → parseFieldDescriptor d = some ty → Fld Z h' h.size O nm d (defaultValue ty)) → Go l Z n0 M R Q h' (kc + 1) (ks + n) pc' L (.ref h.size :: S)) : Go l Z n0 M R Q h kc ks pc L S := by
  subst hp
  refine g_ex (P := fun h' => Ext h h' ∧ Exa Z h' h.size C ∧ (∀ {O nm d : String} {ty : FieldType}, Laid Z a0 C O nm d → parseFieldDescriptor d = some ty → Fld Z h' h.size O nm d (defaultValue ty))) (fun I X eT N => ?_) (fun h' q => kk h' q.1 q.2.1 q.2.2)
  obtain ⟨T', h', X', e', E', A', D', -, st⟩ := newO X I.1 I.2.1 I.2.2.2.2.1 w wi wz eT (g := mkF _ pc L S) rfl (hb I.2.2.1 hd) hc hs
  exact ⟨T', h', _, X', e', N, ⟨E', A', D'⟩, st⟩
theorem g_init (pc' : Nat) {idx : Nat} {a : Addr} (hd : decode M.2.1 pc = .ok (.invokespecial idx, 3)) (w1 : (Jvm.Cond.methodLink M.1.cls idx Lib.objectInit).before a0 Z = true) (w2 : (Jvm.Cond.instanceMethod Lib.objectInit).before a0 Z = true) (w3 : (Jvm.Cond.code Lib.objectInit ⟨#[0xb1]⟩ 1 none).before a0 Z = true)
    (hsz : L.size = M.2.2.1) (hf : 1 ≤ R.frames) (hl : (S.map fun v => v.category).sum + 12 ≤ R.locals) (hp : pc + 3 = pc') (kk : Go l Z n0 M R Q h kc ks pc' L S) : Go l Z n0 M R Q h kc ks pc L (.ref a :: S) := by
  subst hp
  exact g_via (fun I X eT => initO X I.1 I.2.1 I.2.2.2.2.1 w1 w2 w3 eT (g := mkF _ pc L (.ref a :: S)) rfl (hsz.trans I.2.2.2.1.symm) rfl (hb I.2.2.1 hd) hf (W := (S.map fun v => v.category).sum) (by show 2 * 0 + _ ≤ _; omega) hl) kk
theorem g_mkA (pc' : Nat) {aty : ArrayType} {ty : FieldType} {n : Int32} (hd : decode M.2.1 pc = .ok (.newarray aty, 2)) (w : (Jvm.Cond.arrayClass ty).before a0 Z = true) (ht : newarray.typeOf aty = ty) (hn : ¬ n < 0) (cap : Nat) (hcap : n.toNatClampNeg ≤ cap) (hb8 : cap * 8 ≤ 536870912) (hc : kc + 1 ≤ R.cells) (hs : ks + cap ≤ R.slots) (hp : pc + 2 = pc')
    (kk : ∀ h' cA, Ext h h' → Arr Z h' h.size (newA cA ty n) ty → Go l Z n0 M R Q h' (kc + 1) (ks + cap) pc' L (.ref h.size :: S)) : Go l Z n0 M R Q h kc ks pc L (.int n :: S) := by
  subst hp ht
  refine g_ex (P := fun h' => ∃ cA, Ext h h' ∧ Arr Z h' h.size (newA cA (newarray.typeOf aty) n) (newarray.typeOf aty)) (fun I X eT N => ?_) (fun h' q => q.elim fun cA q => kk h' cA q.1 q.2)
  obtain ⟨T', h', cA, X', e', E', A', st⟩ := newP X I.1 I.2.1 w eT (g := mkF _ pc L (.int n :: S)) rfl (hb I.2.2.1 hd) rfl hn hcap hb8 hc hs
  exact ⟨T', h', _, X', e', N, ⟨cA, E', A'⟩, st⟩
-- ARRAYS, by the list of their values
def Ary (Z : State) (h : Heap) (a : Addr) (ty : FieldType) (vs : List Value) : Prop := ∃ c : Cell, Arr Z h a c ty ∧ c.slots = vs.toArray ∧ vs.length < 2147483648
theorem Ary.lt {a : Addr} {ty : FieldType} {vs : List Value} (A : Ary Z h a ty vs) : a < h.size := A.elim fun c q => q.1.lt
theorem Ary.ext {h' : Heap} {a : Addr} {ty : FieldType} {vs : List Value} (A : Ary Z h a ty vs) (E : Ext h h') : Ary Z h' a ty vs := A.elim fun c q => ⟨c, q.1.ext E, q.2⟩
theorem Ary.other {h' : Heap} {a b : Addr} {sl : Nat} {v : Value} {ty : FieldType} {vs : List Value} (A : Ary Z h a ty vs) (W : Wr h h' b sl v) (q : a ≠ b) : Ary Z h' a ty vs := A.elim fun c r => ⟨c, r.1.other W q, r.2⟩
theorem Ary.keep {h' : Heap} {a : Addr} {ws : List Addr} {ty : FieldType} {vs : List Value} (A : Ary Z h a ty vs) (K : Keep h h' ws) (q : a ∉ ws) : Ary Z h' a ty vs := A.elim fun c r => ⟨c, ⟨K.2.1 a c r.1.1 q, r.1.2⟩, r.2⟩
theorem Ary.set {h' : Heap} {a : Addr} {ty : FieldType} {vs : List Value} {i : Nat} {v : Value} (A : Ary Z h a ty vs) (W : Wr h h' a i v) : Ary Z h' a ty (vs.set i v) := by
  obtain ⟨c, r, e, hl⟩ := A
  refine ⟨_, r.same W, ?_, by simpa using hl⟩
  show c.slots.setIfInBounds i v = _
  rw [e]
  simp
theorem Ary.fresh {a : Addr} {ty : FieldType} {cA : ClassId} {n : Int32} (A : Arr Z h a (newA cA ty n) ty) (k : Nat) (hk : n.toInt = (k : Int)) : Ary Z h a ty (List.replicate k (defaultValue ty)) := by
  have e : n.toNatClampNeg = k := by
    show n.toInt.toNat = k
    omega
  refine ⟨_, A, ?_, ?_⟩
  · show Array.replicate n.toNatClampNeg (defaultValue ty) = _
    rw [e]; simp
  · have := n.toInt_lt
    rw [List.length_replicate]; omega
theorem ix_in {a : Addr} {c : Cell} {vs : List Value} {j : Int32} {i : Nat} (e : c.slots = vs.toArray) (hj : j.toInt = (i : Int)) (hi : i < vs.length) : (¬ (j < 0 ∨ c.slots.size ≤ j.toNatClampNeg)) ∧ j.toNatClampNeg = i := by
  have e2 : j.toNatClampNeg = i := by
    show j.toInt.toNat = i
    omega
  refine ⟨?_, e2⟩
  rw [e2, e, Int32.lt_iff_toInt_lt]
  have : (0 : Int32).toInt = 0 := rfl
  have : vs.toArray.size = vs.length := by simp
  omega
theorem g_aloadI (pc' : Nat) {a : Addr} {vs : List Value} {j : Int32} (i : Nat) {v : Value} (hd : decode M.2.1 pc = .ok (.iaload, 1)) (A : Ary Z h a .int vs) (hj : j.toInt = (i : Int)) (hv : vs[i]? = some v) (hp : pc + 1 = pc') (kk : Go l Z n0 M R Q h kc ks pc' L (v :: S)) : Go l Z n0 M R Q h kc ks pc L (.int j :: .ref a :: S) := by
  subst hp
  obtain ⟨c, Ar, e, hl⟩ := A
  obtain ⟨q1, q2⟩ := ix_in (a := a) e hj (List.getElem?_eq_some_iff.mp hv).1
  refine g_via (fun I X eT => ⟨_, X, eT, fun t kt => X.iaload I.1 (cell := c) (v := v) (by rw [eT]; exact Ar.1) (State.isArrayOf_alike I.2.1.alike Ar.2.1) Ar.2.2 q1 (by rw [q2, e]; simpa using hv) (g := mkF _ pc L (.int j :: .ref a :: S)) rfl rfl (hb I.2.2.1 hd) t kt⟩) kk
theorem g_aloadJ (pc' : Nat) {a : Addr} {vs : List Value} {j : Int32} (i : Nat) {v : Value} (hd : decode M.2.1 pc = .ok (.laload, 1)) (A : Ary Z h a .long vs) (hj : j.toInt = (i : Int)) (hv : vs[i]? = some v) (hp : pc + 1 = pc') (kk : Go l Z n0 M R Q h kc ks pc' L (v :: S)) : Go l Z n0 M R Q h kc ks pc L (.int j :: .ref a :: S) := by
  subst hp
  obtain ⟨c, Ar, e, hl⟩ := A
  obtain ⟨q1, q2⟩ := ix_in (a := a) e hj (List.getElem?_eq_some_iff.mp hv).1
  refine g_via (fun I X eT => ⟨_, X, eT, fun t kt => X.laload I.1 (cell := c) (v := v) (by rw [eT]; exact Ar.1) (State.isArrayOf_alike I.2.1.alike Ar.2.1) Ar.2.2 q1 (by rw [q2, e]; simpa using hv) (g := mkF _ pc L (.int j :: .ref a :: S)) rfl rfl (hb I.2.2.1 hd) t kt⟩) kk
theorem g_alen (pc' : Nat) {a : Addr} {ty : FieldType} {vs : List Value} (w : Int32) (hd : decode M.2.1 pc = .ok (.arraylength, 1)) (A : Ary Z h a ty vs) (hw : w = Int32.ofNat vs.length) (hp : pc + 1 = pc') (kk : Go l Z n0 M R Q h kc ks pc' L (.int w :: S)) : Go l Z n0 M R Q h kc ks pc L (.ref a :: S) := by
  subst hp hw
  obtain ⟨c, Ar, e, hl⟩ := A
  have e2 : c.slots.size.toInt32 = Int32.ofNat vs.length := by rw [e]; simp [Nat.toInt32]
  refine g_via (fun I X eT => ⟨_, X, eT, fun t kt => X.arraylength I.1 (cell := c) (by rw [eT]; exact Ar.1) (State.isArrayOf_alike I.2.1.alike Ar.2.1) (g := mkF _ pc L (.ref a :: S)) rfl rfl (hb I.2.2.1 hd) t (by rw [e2]; exact kt)⟩) kk
theorem g_astoreI (pc' : Nat) {a : Addr} {vs : List Value} {j x : Int32} (i : Nat) (hd : decode M.2.1 pc = .ok (.iastore, 1)) (A : Ary Z h a .int vs) (hj : j.toInt = (i : Int)) (hi : i < vs.length) (ga : n0 ≤ a) (hp : pc + 1 = pc')
    (kk : ∀ h', Wr h h' a i (.int x) → Go l Z n0 M R Q h' kc ks pc' L S) : Go l Z n0 M R Q h kc ks pc L (.int x :: .int j :: .ref a :: S) := by
  subst hp
  obtain ⟨c, Ar, e, hl⟩ := A
  obtain ⟨q1, q2⟩ := ix_in (a := a) e hj hi
  refine g_ex (P := fun h' => Wr h h' a i (.int x)) (fun I X eT N => ?_) kk
  obtain ⟨T', h', X', e', W', st⟩ := stI X I.1 I.2.1 eT Ar (x := x) q1 (g := mkF _ pc L (.int x :: .int j :: .ref a :: S)) rfl rfl (hb I.2.2.1 hd)
  exact ⟨T', h', _, X', e', Fr.snoc X' N ga, q2 ▸ W', st⟩
theorem g_astoreJ (pc' : Nat) {a : Addr} {vs : List Value} {j : Int32} {x : Int64} (i : Nat) (hd : decode M.2.1 pc = .ok (.lastore, 1)) (A : Ary Z h a .long vs) (hj : j.toInt = (i : Int)) (hi : i < vs.length) (ga : n0 ≤ a) (hp : pc + 1 = pc')
    (kk : ∀ h', Wr h h' a i (.long x) → Go l Z n0 M R Q h' kc ks pc' L S) : Go l Z n0 M R Q h kc ks pc L (.long x :: .int j :: .ref a :: S) := by
  subst hp
  obtain ⟨c, Ar, e, hl⟩ := A
  obtain ⟨q1, q2⟩ := ix_in (a := a) e hj hi
  refine g_ex (P := fun h' => Wr h h' a i (.long x)) (fun I X eT N => ?_) kk
  obtain ⟨T', h', X', e', W', st⟩ := stJ X I.1 I.2.1 eT Ar (x := x) q1 (g := mkF _ pc L (.long x :: .int j :: .ref a :: S)) rfl rfl (hb I.2.2.1 hd)
  exact ⟨T', h', _, X', e', Fr.snoc X' N ga, q2 ▸ W', st⟩
theorem g_astoreD (pc' : Nat) {a : Addr} {vs : List Value} {j : Int32} {x : UInt64} (i : Nat) (hd : decode M.2.1 pc = .ok (.dastore, 1)) (A : Ary Z h a .double vs) (hj : j.toInt = (i : Int)) (hi : i < vs.length) (ga : n0 ≤ a) (hp : pc + 1 = pc')
    (kk : ∀ h', Wr h h' a i (.double x) → Go l Z n0 M R Q h' kc ks pc' L S) : Go l Z n0 M R Q h kc ks pc L (.double x :: .int j :: .ref a :: S) := by
  subst hp
  obtain ⟨c, Ar, e, hl⟩ := A
  obtain ⟨q1, q2⟩ := ix_in (a := a) e hj hi
  refine g_ex (P := fun h' => Wr h h' a i (.double x)) (fun I X eT N => ?_) kk
  obtain ⟨T', h', X', e', W', st⟩ := stD X I.1 I.2.1 eT Ar (x := x) q1 (g := mkF _ pc L (.double x :: .int j :: .ref a :: S)) rfl rfl (hb I.2.2.1 hd)
  exact ⟨T', h', _, X', e', Fr.snoc X' N ga, q2 ▸ W', st⟩
-- TYPED ARRAYS
def AryI (Z : State) (h : Heap) (a : Addr) (vs : List Int32) : Prop := Ary Z h a .int (vs.map Value.int)
def AryJ (Z : State) (h : Heap) (a : Addr) (vs : List Int64) : Prop := Ary Z h a .long (vs.map Value.long)
theorem AryI.lt {a : Addr} {vs : List Int32} (A : AryI Z h a vs) : a < h.size := Ary.lt (show Ary Z h a .int (vs.map Value.int) from A)
theorem AryI.ext {h' : Heap} {a : Addr} {vs : List Int32} (A : AryI Z h a vs) (E : Ext h h') : AryI Z h' a vs := Ary.ext (show Ary Z h a .int (vs.map Value.int) from A) E
theorem AryI.other {h' : Heap} {a b : Addr} {sl : Nat} {v : Value} {vs : List Int32} (A : AryI Z h a vs) (W : Wr h h' b sl v) (q : a ≠ b) : AryI Z h' a vs := Ary.other (show Ary Z h a .int (vs.map Value.int) from A) W q
theorem AryI.keep {h' : Heap} {a : Addr} {ws : List Addr} {vs : List Int32} (A : AryI Z h a vs) (K : Keep h h' ws) (q : a ∉ ws) : AryI Z h' a vs := Ary.keep (show Ary Z h a .int (vs.map Value.int) from A) K q
theorem AryI.set {h' : Heap} {a : Addr} {vs : List Int32} {i : Nat} {x : Int32} (A : AryI Z h a vs) (W : Wr h h' a i (.int x)) : AryI Z h' a (vs.set i x) := by
  unfold AryI at *
  rw [List.map_set]
  exact A.set W
theorem AryI.fresh {a : Addr} {cA : ClassId} {n : Int32} (A : Arr Z h a (newA cA .int n) .int) (k : Nat) (hk : n.toInt = (k : Int)) : AryI Z h a (List.replicate k 0) := by
  unfold AryI
  rw [List.map_replicate]
  exact Ary.fresh A k hk
theorem g_ldI (pc' : Nat) {a : Addr} {vs : List Int32} {j : Int32} (i : Nat) {x : Int32} (hd : decode M.2.1 pc = .ok (.iaload, 1)) (A : AryI Z h a vs) (hj : j.toInt = (i : Int)) (hv : vs[i]? = some x) (hp : pc + 1 = pc') (kk : Go l Z n0 M R Q h kc ks pc' L (.int x :: S)) : Go l Z n0 M R Q h kc ks pc L (.int j :: .ref a :: S) :=
  g_aloadI pc' i hd (show Ary Z h a .int (vs.map Value.int) from A) hj (by rw [List.getElem?_map, hv]; rfl) hp kk
theorem g_stI (pc' : Nat) {a : Addr} {vs : List Int32} {j : Int32} {x : Int32} (i : Nat) (hd : decode M.2.1 pc = .ok (.iastore, 1)) (A : AryI Z h a vs) (hj : j.toInt = (i : Int)) (hi : i < vs.length) (ga : n0 ≤ a) (hp : pc + 1 = pc')
    (kk : ∀ h', Wr h h' a i (.int x) → Go l Z n0 M R Q h' kc ks pc' L S) : Go l Z n0 M R Q h kc ks pc L (.int x :: .int j :: .ref a :: S) :=
  g_astoreI pc' i hd (show Ary Z h a .int (vs.map Value.int) from A) hj (by rw [List.length_map]; exact hi) ga hp kk
theorem g_lenI (pc' : Nat) {a : Addr} {vs : List Int32} (w : Int32) (hd : decode M.2.1 pc = .ok (.arraylength, 1)) (A : AryI Z h a vs) (hw : w = Int32.ofNat vs.length) (hp : pc + 1 = pc') (kk : Go l Z n0 M R Q h kc ks pc' L (.int w :: S)) : Go l Z n0 M R Q h kc ks pc L (.ref a :: S) :=
  g_alen pc' w hd (show Ary Z h a .int (vs.map Value.int) from A) (by rw [List.length_map]; exact hw) hp kk
theorem AryJ.lt {a : Addr} {vs : List Int64} (A : AryJ Z h a vs) : a < h.size := Ary.lt (show Ary Z h a .long (vs.map Value.long) from A)
theorem AryJ.ext {h' : Heap} {a : Addr} {vs : List Int64} (A : AryJ Z h a vs) (E : Ext h h') : AryJ Z h' a vs := Ary.ext (show Ary Z h a .long (vs.map Value.long) from A) E
theorem AryJ.other {h' : Heap} {a b : Addr} {sl : Nat} {v : Value} {vs : List Int64} (A : AryJ Z h a vs) (W : Wr h h' b sl v) (q : a ≠ b) : AryJ Z h' a vs := Ary.other (show Ary Z h a .long (vs.map Value.long) from A) W q
theorem AryJ.keep {h' : Heap} {a : Addr} {ws : List Addr} {vs : List Int64} (A : AryJ Z h a vs) (K : Keep h h' ws) (q : a ∉ ws) : AryJ Z h' a vs := Ary.keep (show Ary Z h a .long (vs.map Value.long) from A) K q
theorem AryJ.set {h' : Heap} {a : Addr} {vs : List Int64} {i : Nat} {x : Int64} (A : AryJ Z h a vs) (W : Wr h h' a i (.long x)) : AryJ Z h' a (vs.set i x) := by
  unfold AryJ at *
  rw [List.map_set]
  exact A.set W
theorem AryJ.fresh {a : Addr} {cA : ClassId} {n : Int32} (A : Arr Z h a (newA cA .long n) .long) (k : Nat) (hk : n.toInt = (k : Int)) : AryJ Z h a (List.replicate k 0) := by
  unfold AryJ
  rw [List.map_replicate]
  exact Ary.fresh A k hk
theorem g_ldJ (pc' : Nat) {a : Addr} {vs : List Int64} {j : Int32} (i : Nat) {x : Int64} (hd : decode M.2.1 pc = .ok (.laload, 1)) (A : AryJ Z h a vs) (hj : j.toInt = (i : Int)) (hv : vs[i]? = some x) (hp : pc + 1 = pc') (kk : Go l Z n0 M R Q h kc ks pc' L (.long x :: S)) : Go l Z n0 M R Q h kc ks pc L (.int j :: .ref a :: S) :=
  g_aloadJ pc' i hd (show Ary Z h a .long (vs.map Value.long) from A) hj (by rw [List.getElem?_map, hv]; rfl) hp kk
theorem g_stJ (pc' : Nat) {a : Addr} {vs : List Int64} {j : Int32} {x : Int64} (i : Nat) (hd : decode M.2.1 pc = .ok (.lastore, 1)) (A : AryJ Z h a vs) (hj : j.toInt = (i : Int)) (hi : i < vs.length) (ga : n0 ≤ a) (hp : pc + 1 = pc')
    (kk : ∀ h', Wr h h' a i (.long x) → Go l Z n0 M R Q h' kc ks pc' L S) : Go l Z n0 M R Q h kc ks pc L (.long x :: .int j :: .ref a :: S) :=
  g_astoreJ pc' i hd (show Ary Z h a .long (vs.map Value.long) from A) hj (by rw [List.length_map]; exact hi) ga hp kk
theorem g_lenJ (pc' : Nat) {a : Addr} {vs : List Int64} (w : Int32) (hd : decode M.2.1 pc = .ok (.arraylength, 1)) (A : AryJ Z h a vs) (hw : w = Int32.ofNat vs.length) (hp : pc + 1 = pc') (kk : Go l Z n0 M R Q h kc ks pc' L (.int w :: S)) : Go l Z n0 M R Q h kc ks pc L (.ref a :: S) :=
  g_alen pc' w hd (show Ary Z h a .long (vs.map Value.long) from A) (by rw [List.length_map]; exact hw) hp kk
-- WHAT LIES BELOW IS KEPT
def Low (n1 : Nat) (h h' : Heap) : Prop := h.size ≤ h'.size ∧ ∀ (x : Addr) (c : Cell), x < n1 → h[x]? = some c → h'[x]? = some c
theorem con_low {n1 : Nat} {N : MD} {rm : Room} {as' : Array Value} {Q' : Option Value → Heap → Prop} (con : Con l Z n1 N rm as' h Q') (hn : n0 ≤ n1) (h1 : n1 ≤ h.size) : Con l Z n0 N rm as' h (fun v h' => Q' v h' ∧ Low n1 h h') := by
  intro _ ws p e ha hc hk s m args below hf happ hP hK
  obtain ⟨n, o, g1, g2, g3, v, L, rfl, ⟨hQ, hF⟩, hE⟩ := con h1 ws p e ha hc hk s m args below hf happ hP hK
  refine ⟨n, _, g1, g2, g3, v, L, rfl, ⟨⟨hQ, ?_⟩, fun y hy => Nat.le_trans hn (hF y hy)⟩, hE⟩
  obtain ⟨-, -, hh⟩ := hP
  obtain ⟨-, -, -, k1, -, -, -, k5⟩ := hE
  rw [hh] at k1 k5
  refine ⟨k1, fun x c hx hc => ?_⟩
  obtain ⟨c', q1, q2, q3, q4⟩ := k5 x c hc
  have e : c'.slots = c.slots := by
    apply Array.ext_getElem?
    intro i
    exact q4 i (fun hm => absurd (hF _ hm) (Nat.not_le.mpr hx))
  have e2 : c' = c := by rw [q2, e]
  exact e2 ▸ q1
theorem AryI.low {n1 : Nat} {h' : Heap} {a : Addr} {vs : List Int32} (A : AryI Z h a vs) (K : Low n1 h h') (q : a < n1) : AryI Z h' a vs := by
  obtain ⟨c, r, e⟩ := A
  exact ⟨c, ⟨K.2 a c q r.1, r.2⟩, e⟩
-- CALLS
theorem g_callS (pc' : Nat) {index : Nat} {N : MD} {rm : Room} {Q' : Option Value → Heap → Prop} {St : List Value} {ps : List FieldType} {r : Option FieldType} (as' S : List Value) (hd : decode M.2.1 pc = .ok (.invokestatic index, 3))
    (w1 : (Jvm.Cond.methodLink M.1.cls index N.1).before a0 Z = true) (w2 : (Jvm.Cond.static N.1).before a0 Z = true) (w3 : (Jvm.Cond.initialized N.1.cls).before a0 Z = true) (w4 : (Jvm.Cond.code N.1 N.2.1 N.2.2.1 N.2.2.2).before a0 Z = true) (hy : N.1.cls ≠ "java/lang/invoke/MethodHandle" ∧ N.1.cls ≠ "java/lang/invoke/VarHandle")
    (con : Con l Z n0 N rm as'.toArray h Q') (hsz : L.size = M.2.2.1) (hpd : parseMethodDescriptor N.1.desc = some ⟨ps, r⟩) (hlen : as'.length = ps.length) (hst : St = as'.reverse ++ S)
    (hf : rm.frames + 1 ≤ R.frames) (hl : (S.map fun v => v.category).sum + (N.2.2.1 + 11) + rm.locals ≤ R.locals) (hc : kc + rm.cells ≤ R.cells) (hs : ks + rm.slots ≤ R.slots) (hp : pc + 3 = pc')
    (kk : ∀ v h', Q' v h' → Go l Z n0 M R Q h' (kc + rm.cells) (ks + rm.slots) pc' L (v.toList ++ S)) : Go l Z n0 M R Q h kc ks pc L St := by
  subst hp hst
  intro p e s m args below meth c T locs I X eT N'
  have Z0 : n0 ≤ h.size := by
    rw [← eT]
    exact Nat.le_trans I.2.2.2.2.2.2.2.2 X.same.2.1
  obtain ⟨v, _, ⟨T1, L1, k1, m1⟩, -, X1, ⟨Lc, hQ, l1, y1, z1⟩, st⟩ := Jvm.LawKit.callS X I.1 (y := N.1) I.2.2.2.2.1 (mvT I.2.1 w1) (mvT I.2.1 w2) (mvT I.2.1 w3) (mvT I.2.1 w4) hy (backOf (W := (S.map fun v => v.category).sum) (Q := fun v h L => Q' v h ∧ Fr n0 L) (con Z0 []) I.2.1 w4 w3 hf hl) (g := mkF m pc L (as'.reverse ++ S)) rfl (hsz.trans I.2.2.2.1.symm) (argsL := as') (rest := S) (lenOf hpd hlen) rfl (by show 2 * 0 + _ ≤ _; omega) (hb I.2.2.1 hd) (fun _ _ => ⟨rfl, eT, hc, hs⟩)
  dsimp only [Pt.U, Pt.locs, Pt.cells, Pt.slots] at X1 l1 y1 z1 st hQ
  subst l1 y1 z1
  obtain ⟨s₂, o, h1, r⟩ := kk v T1.heap hQ.1 p e s m args below meth c T1 _ I X1 rfl (Fr.app N' hQ.2)
  exact ⟨s₂, o, st _ h1, r⟩
theorem g_callN (pc' : Nat) {index : Nat} {N : MD} {rm : Room} {Q' : Option Value → Heap → Prop} {St : List Value} {ps : List FieldType} {r : Option FieldType} {a : Addr} (as' S : List Value) (hd : decode M.2.1 pc = .ok (.invokespecial index, 3)) (hy1 : N.1.name = "<init>") (hrN : N.2.2.2 = none)
    (w1 : (Jvm.Cond.methodLink M.1.cls index N.1).before a0 Z = true) (w2 : (Jvm.Cond.instanceMethod N.1).before a0 Z = true) (w3 : (Jvm.Cond.initialized N.1.cls).before a0 Z = true) (w4 : (Jvm.Cond.code N.1 N.2.1 N.2.2.1 N.2.2.2).before a0 Z = true) (hy : N.1.cls ≠ "java/lang/invoke/MethodHandle" ∧ N.1.cls ≠ "java/lang/invoke/VarHandle")
    (con : Con l Z n0 N rm (.ref a :: as').toArray h Q') (hsz : L.size = M.2.2.1) (hpd : parseMethodDescriptor N.1.desc = some ⟨ps, r⟩) (hlen : as'.length = ps.length) (hst : St = as'.reverse ++ .ref a :: S)
    (hf : rm.frames + 1 ≤ R.frames) (hl : (S.map fun v => v.category).sum + (N.2.2.1 + 11) + rm.locals ≤ R.locals) (hc : kc + rm.cells ≤ R.cells) (hs : ks + rm.slots ≤ R.slots) (hp : pc + 3 = pc')
    (kk : ∀ v h', Q' v h' → Go l Z n0 M R Q h' (kc + rm.cells) (ks + rm.slots) pc' L (v.toList ++ S)) : Go l Z n0 M R Q h kc ks pc L St := by
  subst hp hst
  intro p e s m args below meth c T locs I X eT N'
  have Z0 : n0 ≤ h.size := by
    rw [← eT]
    exact Nat.le_trans I.2.2.2.2.2.2.2.2 X.same.2.1
  obtain ⟨v, _, ⟨T1, L1, k1, m1⟩, -, X1, ⟨Lc, hQ, l1, y1, z1⟩, st⟩ := X.specialBack I.1 (y := N.1) hy1 I.2.2.2.2.1 (mvT I.2.1 w1) (mvT I.2.1 w2) (hrN ▸ mvT I.2.1 w4) hy (backOf (W := (S.map fun v => v.category).sum) (Q := fun v h L => Q' v h ∧ Fr n0 L) (con Z0 []) I.2.1 w4 w3 hf hl) (g := mkF m pc L (as'.reverse ++ .ref a :: S)) rfl (hsz.trans I.2.2.2.1.symm) (Steps.refl _) (argsL := as') (rest := S) (lenOf hpd hlen) rfl (by show 2 * 0 + _ ≤ _; omega) (hb I.2.2.1 hd) (fun _ _ => ⟨rfl, eT, hc, hs⟩)
  dsimp only [Pt.U, Pt.locs, Pt.cells, Pt.slots] at X1 l1 y1 z1 st hQ
  subst l1 y1 z1
  obtain ⟨s₂, o, h1, r⟩ := kk v T1.heap hQ.1 p e s m args below meth c T1 _ I X1 rfl (Fr.app N' hQ.2)
  exact ⟨s₂, o, st.trans h1, r⟩
theorem g_callV (pc' : Nat) {index : Nat} {N : MD} {C : String} {rm : Room} {Q' : Option Value → Heap → Prop} {St : List Value} {ps : List FieldType} {r : Option FieldType} {a : Addr} (as' S : List Value) (hd : decode M.2.1 pc = .ok (.invokevirtual index, 3))
    (w1 : (Jvm.Cond.methodLink M.1.cls index N.1).before a0 Z = true) (w2 : (Jvm.Cond.instanceMethod N.1).before a0 Z = true) (w3 : (Jvm.Cond.initialized N.1.cls).before a0 Z = true) (w4 : (Jvm.Cond.code N.1 N.2.1 N.2.2.1 N.2.2.2).before a0 Z = true) (w5 : (Jvm.Cond.declares N.1).before a0 Z = true) (w6 : (Jvm.Cond.selects C N.1 N.1).before a0 Z = true) (E : Exa Z h a C) (hy : N.1.cls ≠ "java/lang/invoke/MethodHandle" ∧ N.1.cls ≠ "java/lang/invoke/VarHandle")
    (con : Con l Z n0 N rm (.ref a :: as').toArray h Q') (hsz : L.size = M.2.2.1) (hpd : parseMethodDescriptor N.1.desc = some ⟨ps, r⟩) (hlen : as'.length = ps.length) (hst : St = as'.reverse ++ .ref a :: S)
    (hf : rm.frames + 1 ≤ R.frames) (hl : (S.map fun v => v.category).sum + (N.2.2.1 + 11) + rm.locals ≤ R.locals) (hc : kc + rm.cells ≤ R.cells) (hs : ks + rm.slots ≤ R.slots) (hp : pc + 3 = pc')
    (kk : ∀ v h', Q' v h' → Go l Z n0 M R Q h' (kc + rm.cells) (ks + rm.slots) pc' L (v.toList ++ S)) : Go l Z n0 M R Q h kc ks pc L St := by
  subst hp hst
  intro p e s m args below meth c T locs I X eT N'
  have Z0 : n0 ≤ h.size := by
    rw [← eT]
    exact Nat.le_trans I.2.2.2.2.2.2.2.2 X.same.2.1
  obtain ⟨cq, kq, qa, qb, qc⟩ := isOf I.2.1 eT E
  obtain ⟨v, _, ⟨T1, L1, k1, m1⟩, -, X1, ⟨Lc, hQ, l1, y1, z1⟩, st⟩ := X.virtualBack I.1 (y := N.1) (z := N.1) I.2.2.2.2.1 (mvT I.2.1 w1) (mvT I.2.1 w5) (notFace_of_selects (args := #[]) (mvT I.2.1 w6)) (mvT I.2.1 w6) (mvT I.2.1 w2) hy (backOf (W := (S.map fun v => v.category).sum) (Q := fun v h L => Q' v h ∧ Fr n0 L) (con Z0 []) I.2.1 w4 w3 hf hl) qa qc (g := mkF m pc L (as'.reverse ++ .ref a :: S)) rfl (hsz.trans I.2.2.2.1.symm) (Steps.refl _) (argsL := as') (rest := S) (lenOf hpd hlen) rfl (by show 2 * 0 + _ ≤ _; omega) (hb I.2.2.1 hd) (fun _ _ => ⟨rfl, eT, hc, hs⟩)
  dsimp only [Pt.U, Pt.locs, Pt.cells, Pt.slots] at X1 l1 y1 z1 st hQ
  subst l1 y1 z1
  obtain ⟨s₂, o, h1, r⟩ := kk v T1.heap hQ.1 p e s m args below meth c T1 _ I X1 rfl (Fr.app N' hQ.2)
  exact ⟨s₂, o, st.trans h1, r⟩
theorem g_callP (pc' : Nat) {index kk' : Nat} {N : MD} {rm : Room} {Q' : Option Value → Heap → Prop} {St : List Value} {ps : List FieldType} {r : Option FieldType} {a : Addr} (as' S : List Value) (hd : decode M.2.1 pc = .ok (.invokevirtual index, 3))
    (w1 : (Jvm.Cond.methodLink M.1.cls index N.1).before a0 Z = true) (w2 : (Jvm.Cond.instanceMethod N.1).before a0 Z = true) (w3 : (Jvm.Cond.initialized N.1.cls).before a0 Z = true) (w4 : (Jvm.Cond.code N.1 N.2.1 N.2.2.1 N.2.2.2).before a0 Z = true) (w5 : (Jvm.Cond.privateMethod N.1).before a0 Z = true) (w6 : (Jvm.Cond.instantiable N.1.cls kk').before a0 Z = true) (E : Exa Z h a N.1.cls) (hy : N.1.cls ≠ "java/lang/invoke/MethodHandle" ∧ N.1.cls ≠ "java/lang/invoke/VarHandle")
    (con : Con l Z n0 N rm (.ref a :: as').toArray h Q') (hsz : L.size = M.2.2.1) (hpd : parseMethodDescriptor N.1.desc = some ⟨ps, r⟩) (hlen : as'.length = ps.length) (hst : St = as'.reverse ++ .ref a :: S)
    (hf : rm.frames + 1 ≤ R.frames) (hl : (S.map fun v => v.category).sum + (N.2.2.1 + 11) + rm.locals ≤ R.locals) (hc : kc + rm.cells ≤ R.cells) (hs : ks + rm.slots ≤ R.slots) (hp : pc + 3 = pc')
    (kk : ∀ v h', Q' v h' → Go l Z n0 M R Q h' (kc + rm.cells) (ks + rm.slots) pc' L (v.toList ++ S)) : Go l Z n0 M R Q h kc ks pc L St := by
  subst hp hst
  intro p e s m args below meth c T locs I X eT N'
  have Z0 : n0 ≤ h.size := by
    rw [← eT]
    exact Nat.le_trans I.2.2.2.2.2.2.2.2 X.same.2.1
  obtain ⟨cell, hcell, hobj⟩ := E.cell
  have u2 : (Jvm.Cond.instanceMethod N.1).before args s = true := mvT I.2.1 w2
  have u4 : (Jvm.Cond.code N.1 N.2.1 N.2.2.1 N.2.2.2).before args s = true := mvT I.2.1 w4
  have u6 : (Jvm.Cond.instantiable N.1.cls kk').before args s = true := mvT I.2.1 w6
  obtain ⟨mk, methM, hnamed, hmethM, hstM, habM⟩ := Cond.instanceMethod_spec u2
  obtain ⟨methM', cM, hmethM', -, -, -, -, -, -, hsigM⟩ := Cond.code_spec hnamed u4
  cases hmethM.symm.trans hmethM'
  obtain ⟨ck, kP, i1, hkP0, -, hni, -, -⟩ := Cond.instantiable_spec u6
  have hkP : s.vm.classes[mk.cls]? = some kP := by
    have q := findClass_of_methodNamed hnamed
    rw [i1] at q
    cases q
    exact hkP0
  have hkPi : kP.isInterface = false := (Bool.or_eq_false_iff.mp hni).1
  have hpriv := Cond.privateMethod_at (mvP (args := args) I.2.1 w5)
  have hselP : selectMethod e.platform s.vm cell.cls mk = .method mk := selectMethod_private hmethM (hpriv mk methM hnamed hmethM)
  obtain ⟨vm₁, X₁, hstep₁⟩ := X.invokevirtual I.1 I.2.2.2.2.1 (mvT I.2.1 w1) hnamed hmethM hstM hkP hkPi hy (a := a) (cell := cell) (by rw [eT]; exact hcell) hobj hselP hmethM habM hkP hkPi (g := mkF m pc L (as'.reverse ++ .ref a :: S)) rfl (argsL := as') (rest := S) (lenOf hpd hlen _ hsigM) rfl (hb I.2.2.1 hd)
  have hK := backOf (W := (S.map fun v => v.category).sum) (Q := fun v h L => Q' v h ∧ Fr n0 L) (p := p) (e := e) (below := below) (args := args) (len := 3) (con Z0 []) I.2.1 w4 w3 hf hl
  obtain ⟨v, ⟨T1, L1, k1, m1⟩, X1, ⟨Lc, hQ, l1, y1, z1⟩, st⟩ := hK m meth c ⟨T.setVm vm₁, locs, kc, ks⟩ (mkF m pc L S) (.invokevirtual index) mk (.ref a :: as').toArray X₁ rfl (hsz.trans I.2.2.2.1.symm) (hb I.2.2.1 hd) (by show 2 * 0 + (S.map fun v => v.category).sum ≤ _; omega) (X₁.named hnamed) ⟨rfl, eT, hc, hs⟩
  dsimp only [Pt.U, Pt.locs, Pt.cells, Pt.slots] at X1 l1 y1 z1 st hQ
  subst l1 y1 z1
  obtain ⟨s₂, o, h1, r⟩ := kk v T1.heap hQ.1 p e s m args below meth c T1 _ I X1 rfl (Fr.app N' hQ.2)
  exact ⟨s₂, o, (hstep₁ _ fun acts => by rw [doInvoke_state]; exact Steps.refl _).trans (st.trans h1), r⟩
theorem wd {tb : List Jvm.Cond} (hw : ∀ d ∈ tb, d.before a0 Z = true) (k : Nat) {d : Jvm.Cond} (q : tb[k]? = some d) : d.before a0 Z = true := hw _ (List.mem_of_getElem? q)
end Own
theorem dlu_0 : decode prog_109_method_16_code 0 = .ok (.iconst 1, 1) := by decide +kernel
theorem dlu_1 : decode prog_109_method_16_code 1 = .ok (.istore_n 1, 1) := by decide +kernel
theorem dlu_2 : decode prog_109_method_16_code 2 = .ok (.iconst 1, 1) := by decide +kernel
theorem dlu_3 : decode prog_109_method_16_code 3 = .ok (.istore_n 2, 1) := by decide +kernel
theorem dlu_4 : decode prog_109_method_16_code 4 = .ok (.iload_n 1, 1) := by decide +kernel
theorem dlu_5 : decode prog_109_method_16_code 5 = .ok (.iload_n 0, 1) := by decide +kernel
theorem dlu_6 : decode prog_109_method_16_code 6 = .ok (.if_icmp .ge 16, 3) := by decide +kernel
theorem dlu_9 : decode prog_109_method_16_code 9 = .ok (.iconst 2, 1) := by decide +kernel
theorem dlu_10 : decode prog_109_method_16_code 10 = .ok (.iload_n 1, 1) := by decide +kernel
theorem dlu_11 : decode prog_109_method_16_code 11 = .ok (.imul, 1) := by decide +kernel
theorem dlu_12 : decode prog_109_method_16_code 12 = .ok (.iconst 1, 1) := by decide +kernel
theorem dlu_13 : decode prog_109_method_16_code 13 = .ok (.iadd, 1) := by decide +kernel
theorem dlu_14 : decode prog_109_method_16_code 14 = .ok (.istore_n 1, 1) := by decide +kernel
theorem dlu_15 : decode prog_109_method_16_code 15 = .ok (.iload_n 2, 1) := by decide +kernel
theorem dlu_16 : decode prog_109_method_16_code 16 = .ok (.iconst 2, 1) := by decide +kernel
theorem dlu_17 : decode prog_109_method_16_code 17 = .ok (.imul, 1) := by decide +kernel
theorem dlu_18 : decode prog_109_method_16_code 18 = .ok (.istore_n 2, 1) := by decide +kernel
theorem dlu_19 : decode prog_109_method_16_code 19 = .ok (.goto (-15), 3) := by decide +kernel
theorem dlu_22 : decode prog_109_method_16_code 22 = .ok (.iload_n 0, 1) := by decide +kernel
theorem dlu_23 : decode prog_109_method_16_code 23 = .ok (.istore_n 3, 1) := by decide +kernel
theorem dlu_24 : decode prog_109_method_16_code 24 = .ok (.iload_n 1, 1) := by decide +kernel
theorem dlu_25 : decode prog_109_method_16_code 25 = .ok (.iload_n 3, 1) := by decide +kernel
theorem dlu_26 : decode prog_109_method_16_code 26 = .ok (.if_icmp .eq 23, 3) := by decide +kernel
theorem dlu_29 : decode prog_109_method_16_code 29 = .ok (.iload_n 1, 1) := by decide +kernel
theorem dlu_30 : decode prog_109_method_16_code 30 = .ok (.iconst 2, 1) := by decide +kernel
theorem dlu_31 : decode prog_109_method_16_code 31 = .ok (.idiv, 1) := by decide +kernel
theorem dlu_32 : decode prog_109_method_16_code 32 = .ok (.istore_n 1, 1) := by decide +kernel
theorem dlu_33 : decode prog_109_method_16_code 33 = .ok (.iload_n 2, 1) := by decide +kernel
theorem dlu_34 : decode prog_109_method_16_code 34 = .ok (.iconst 2, 1) := by decide +kernel
theorem dlu_35 : decode prog_109_method_16_code 35 = .ok (.idiv, 1) := by decide +kernel
theorem dlu_36 : decode prog_109_method_16_code 36 = .ok (.istore_n 2, 1) := by decide +kernel
theorem dlu_37 : decode prog_109_method_16_code 37 = .ok (.iload_n 3, 1) := by decide +kernel
theorem dlu_38 : decode prog_109_method_16_code 38 = .ok (.iload_n 1, 1) := by decide +kernel
theorem dlu_39 : decode prog_109_method_16_code 39 = .ok (.if_icmp .le (-15), 3) := by decide +kernel
theorem dlu_42 : decode prog_109_method_16_code 42 = .ok (.iload_n 3, 1) := by decide +kernel
theorem dlu_43 : decode prog_109_method_16_code 43 = .ok (.iload_n 1, 1) := by decide +kernel
theorem dlu_44 : decode prog_109_method_16_code 44 = .ok (.isub, 1) := by decide +kernel
theorem dlu_45 : decode prog_109_method_16_code 45 = .ok (.istore_n 3, 1) := by decide +kernel
theorem dlu_46 : decode prog_109_method_16_code 46 = .ok (.goto (-22), 3) := by decide +kernel
theorem dlu_49 : decode prog_109_method_16_code 49 = .ok (.iload_n 2, 1) := by decide +kernel
theorem dlu_50 : decode prog_109_method_16_code 50 = .ok (.ireturn, 1) := by decide +kernel
abbrev M_lu : MD := ((⟨"com/example/ruschlikon/ruschlikon/logic/Solver", "luby", "(I)I"⟩ : MethodName), prog_109_method_16_code, 4, (some .int))
theorem pl_lu : plainFor M_lu.1 = true := plainFor_of_name (by decide +kernel)
theorem pd_lu : parseMethodDescriptor "(I)I" = some ⟨[.int], (some .int)⟩ := by decide +kernel
abbrev M_law : MD := (x, code, maxLocals, ret)
theorem pl_law : plainFor M_law.1 = true := plainFor_of_name (by first | (simp [plainName, overriddenIn, x]; done) | decide +kernel)
-- numbers: small naturals as ints
theorem own_ti {n : Nat} (h : n < 2147483648) : (Int32.ofNat n).toInt = (n : Int) := Int32.toInt_ofNat_of_lt h
theorem own_eq {a b : Nat} (ha : a < 2147483648) (hb : b < 2147483648) : Int32.ofNat a = Int32.ofNat b ↔ a = b := by
  rw [← Int32.toInt_inj, own_ti ha, own_ti hb]
  omega
theorem own_lt {a b : Nat} (ha : a < 2147483648) (hb : b < 2147483648) : Int32.ofNat a < Int32.ofNat b ↔ a < b := by
  rw [Int32.lt_iff_toInt_lt, own_ti ha, own_ti hb]
  omega
theorem own_of {x : Int32} (h : 0 ≤ x.toInt) : ∃ n : Nat, x = Int32.ofNat n ∧ n < 2147483648 ∧ (n : Int) = x.toInt := by
  have r := rng32 x
  refine ⟨x.toInt.toNat, ?_, by omega, by omega⟩
  rw [← Int32.toInt_inj, own_ti (by omega)]
  omega
theorem own_div2 {a : Nat} (ha : a < 2147483648) : Int32.ofNat a / (2 : Int32) = Int32.ofNat (a / 2) := by
  rw [← Int32.toInt_inj, own_ti (by omega), (c_idiv (Int32.ofNat a) 2 2 rfl (by decide)).1 (by rw [own_ti ha]; omega), own_ti ha]
  omega
theorem own_sub {a b : Nat} (ha : a < 2147483648) (hb : b ≤ a) : Int32.ofNat a - Int32.ofNat b = Int32.ofNat (a - b) := by
  rw [← Int32.toInt_inj, own_ti (by omega)]
  have h := c_isub (Int32.ofNat a) (Int32.ofNat b)
  rw [own_ti ha, own_ti (by omega)] at h
  have r := rng32 (Int32.ofNat a - Int32.ofNat b)
  omega
theorem own_up (a : Nat) : (2 : Int32) * Int32.ofNat a + 1 = Int32.ofNat (2 * a + 1) := by
  rw [Int32.ofNat_add, Int32.ofNat_mul]; rfl
theorem own_dbl (a : Nat) : Int32.ofNat a * (2 : Int32) = Int32.ofNat (a * 2) := by
  rw [Int32.ofNat_mul]; rfl
theorem own_pow {t : Nat} (h : t ≤ 31) : 2 ^ t ≤ 2147483648 := Nat.pow_le_pow_right (n := 2) (by decide) h
theorem own_pos (t : Nat) : 0 < 2 ^ t := Nat.two_pow_pos t
-- the second loop's answer from (2^t - 1, 2^(t-1)) with term j
def lD : Nat → Nat → Nat
  | 0, _ => 0
  | t + 1, j => if 2 ^ (t + 1) - 1 = j then 2 ^ t else if 2 ^ t - 1 < j then lD t (j - (2 ^ t - 1)) else lD t j
theorem lD_lo (t : Nat) : ∀ j, 1 ≤ j → j < 2 ^ t → ∃ k, 1 ≤ k ∧ k ≤ t ∧ 2 ^ (k - 1) ≤ j ∧ j < 2 ^ k ∧ lD t j = lD k j := by
  induction t with
  | zero => intro j h1 h2; simp at h2; omega
  | succ t ih =>
    intro j h1 h2
    by_cases q : 2 ^ t ≤ j
    · exact ⟨t + 1, by omega, Nat.le_refl _, q, h2, rfl⟩
    · obtain ⟨k, a1, a2, a3, a4, a5⟩ := ih j h1 (by omega)
      refine ⟨k, a1, by omega, a3, a4, ?_⟩
      rw [← a5]
      have p := own_pos t
      have e : 2 ^ (t + 1) = 2 * 2 ^ t := by rw [Nat.pow_succ]; omega
      show (if 2 ^ (t + 1) - 1 = j then 2 ^ t else if 2 ^ t - 1 < j then lD t (j - (2 ^ t - 1)) else lD t j) = lD t j
      rw [if_neg (by omega), if_neg (by omega)]
set_option maxRecDepth 65536 in
set_option maxHeartbeats 40000000 in
theorem t24_out (l : Launch) (Z : State) (a0 : Array Value) (hw : ∀ d ∈ tables_1, d.before a0 Z = true) (n0 : Nat) (h0 : Heap) {Q : Option Value → Heap → Prop} (p s pw tm : Int32) (h26 : s = tm) (hq : Q (some (.int pw)) h0) : Go l Z n0 M_lu ({ frames := 0, cells := 0, slots := 0, locals := 0 } : Room) Q h0 0 0 24 #[.val (.int p), .val (.int s), .val (.int pw), .val (.int tm)] [] := by
  refine g_iload_n 25 dlu_24 rfl rfl ?_
  refine g_iload_n 26 dlu_25 rfl rfl ?_
  refine g_icmpT 49 dlu_26 h26 rfl ?_
  refine g_iload_n 50 dlu_49 rfl rfl ?_
  refine g_retI dlu_50 rfl (Nat.le_of_ble_eq_true rfl) (Nat.le_of_ble_eq_true rfl) ?_
  exact hq
set_option maxRecDepth 65536 in
set_option maxHeartbeats 40000000 in
theorem t24_a (l : Launch) (Z : State) (a0 : Array Value) (hw : ∀ d ∈ tables_1, d.before a0 Z = true) (n0 : Nat) (h0 : Heap) {Q : Option Value → Heap → Prop} (p s pw tm : Int32) (h26 : ¬ s = tm) (h39 : ¬ s / 2 < tm) (kk : Go l Z n0 M_lu ({ frames := 0, cells := 0, slots := 0, locals := 0 } : Room) Q h0 0 0 24 #[.val (.int p), .val (.int (s / 2)), .val (.int (pw / 2)), .val (.int tm)] []) : Go l Z n0 M_lu ({ frames := 0, cells := 0, slots := 0, locals := 0 } : Room) Q h0 0 0 24 #[.val (.int p), .val (.int s), .val (.int pw), .val (.int tm)] [] := by
  refine g_iload_n 25 dlu_24 rfl rfl ?_
  refine g_iload_n 26 dlu_25 rfl rfl ?_
  refine g_icmpF 29 dlu_26 h26 rfl ?_
  refine g_iload_n 30 dlu_29 rfl rfl ?_
  refine g_iconst 31 (2 : Int32) dlu_30 rfl rfl ?_
  refine g_idiv 32 dlu_31 (by decide) rfl ?_
  refine g_istore_n 33 #[.val (.int p), .val (.int (s / ((2 : Int32)))), .val (.int pw), .val (.int tm)] dlu_32 rfl rfl ?_
  refine g_iload_n 34 dlu_33 rfl rfl ?_
  refine g_iconst 35 (2 : Int32) dlu_34 rfl rfl ?_
  refine g_idiv 36 dlu_35 (by decide) rfl ?_
  refine g_istore_n 37 #[.val (.int p), .val (.int (s / ((2 : Int32)))), .val (.int (pw / ((2 : Int32)))), .val (.int tm)] dlu_36 rfl rfl ?_
  refine g_iload_n 38 dlu_37 rfl rfl ?_
  refine g_iload_n 39 dlu_38 rfl rfl ?_
  refine g_icmpT 24 dlu_39 h39 rfl ?_
  exact kk
set_option maxRecDepth 65536 in
set_option maxHeartbeats 40000000 in
theorem t24_b (l : Launch) (Z : State) (a0 : Array Value) (hw : ∀ d ∈ tables_1, d.before a0 Z = true) (n0 : Nat) (h0 : Heap) {Q : Option Value → Heap → Prop} (p s pw tm : Int32) (h26 : ¬ s = tm) (h39 : s / 2 < tm) (kk : Go l Z n0 M_lu ({ frames := 0, cells := 0, slots := 0, locals := 0 } : Room) Q h0 0 0 24 #[.val (.int p), .val (.int (s / 2)), .val (.int (pw / 2)), .val (.int (tm - (s / 2)))] []) : Go l Z n0 M_lu ({ frames := 0, cells := 0, slots := 0, locals := 0 } : Room) Q h0 0 0 24 #[.val (.int p), .val (.int s), .val (.int pw), .val (.int tm)] [] := by
  refine g_iload_n 25 dlu_24 rfl rfl ?_
  refine g_iload_n 26 dlu_25 rfl rfl ?_
  refine g_icmpF 29 dlu_26 h26 rfl ?_
  refine g_iload_n 30 dlu_29 rfl rfl ?_
  refine g_iconst 31 (2 : Int32) dlu_30 rfl rfl ?_
  refine g_idiv 32 dlu_31 (by decide) rfl ?_
  refine g_istore_n 33 #[.val (.int p), .val (.int (s / ((2 : Int32)))), .val (.int pw), .val (.int tm)] dlu_32 rfl rfl ?_
  refine g_iload_n 34 dlu_33 rfl rfl ?_
  refine g_iconst 35 (2 : Int32) dlu_34 rfl rfl ?_
  refine g_idiv 36 dlu_35 (by decide) rfl ?_
  refine g_istore_n 37 #[.val (.int p), .val (.int (s / ((2 : Int32)))), .val (.int (pw / ((2 : Int32)))), .val (.int tm)] dlu_36 rfl rfl ?_
  refine g_iload_n 38 dlu_37 rfl rfl ?_
  refine g_iload_n 39 dlu_38 rfl rfl ?_
  refine g_icmpF 42 dlu_39 (fun z => z h39) rfl ?_
  refine g_iload_n 43 dlu_42 rfl rfl ?_
  refine g_iload_n 44 dlu_43 rfl rfl ?_
  refine g_isub 45 dlu_44 rfl ?_
  refine g_istore_n 46 #[.val (.int p), .val (.int (s / ((2 : Int32)))), .val (.int (pw / ((2 : Int32)))), .val (.int (tm - ((s / ((2 : Int32))))))] dlu_45 rfl rfl ?_
  refine g_goto 24 dlu_46 rfl ?_
  exact kk
set_option maxRecDepth 65536 in
set_option maxHeartbeats 40000000 in
theorem loop24 (l : Launch) (Z : State) (a0 : Array Value) (hw : ∀ d ∈ tables_1, d.before a0 Z = true) (n0 : Nat) (h0 : Heap) {Q : Option Value → Heap → Prop} (p : Int32) (t : Nat) : ∀ (j : Nat), t < 31 → 1 ≤ j → j < 2 ^ (t + 1) → Q (some (.int (Int32.ofNat (lD (t + 1) j)))) h0 →
    Go l Z n0 M_lu ({ frames := 0, cells := 0, slots := 0, locals := 0 } : Room) Q h0 0 0 24 #[.val (.int p), .val (.int (Int32.ofNat (2 ^ (t + 1) - 1))), .val (.int (Int32.ofNat (2 ^ t))), .val (.int (Int32.ofNat j))] [] := by
  induction t with
  | zero =>
    intro j ht h1 h2 hq
    have e : j = 1 := by simp at h2; omega
    subst e
    exact t24_out l Z a0 hw n0 h0 _ _ _ _ rfl hq
  | succ t ih =>
    intro j ht h1 h2 hq
    have p1 := own_pos t
    have e1 : 2 ^ (t + 1) = 2 * 2 ^ t := by rw [Nat.pow_succ]; omega
    have e2 : 2 ^ (t + 1 + 1) = 4 * 2 ^ t := by rw [Nat.pow_succ, e1]; omega
    have b2 := own_pow (t := t + 1 + 1) (by omega)
    have hq' : Q (some (.int (Int32.ofNat (if 2 ^ (t + 1 + 1) - 1 = j then 2 ^ (t + 1) else if 2 ^ (t + 1) - 1 < j then lD (t + 1) (j - (2 ^ (t + 1) - 1)) else lD (t + 1) j)))) h0 := hq
    have d1 : Int32.ofNat (2 ^ (t + 1 + 1) - 1) / 2 = Int32.ofNat (2 ^ (t + 1) - 1) := by rw [own_div2 (by omega)]; congr 1; omega
    have d2 : Int32.ofNat (2 ^ (t + 1)) / 2 = Int32.ofNat (2 ^ t) := by rw [own_div2 (by omega)]; congr 1; omega
    by_cases q : 2 ^ (t + 1 + 1) - 1 = j
    · rw [if_pos q] at hq'
      exact t24_out l Z a0 hw n0 h0 _ _ _ _ (by rw [q]) hq'
    · rw [if_neg q] at hq'
      by_cases r : 2 ^ (t + 1) - 1 < j
      · rw [if_pos r] at hq'
        refine t24_b l Z a0 hw n0 h0 _ _ _ _ (fun z => q ((own_eq (by omega) (by omega)).mp z)) (by rw [d1]; exact (own_lt (by omega) (by omega)).mpr r) ?_
        rw [d1, d2, own_sub (by omega) (by omega)]
        exact ih (j - (2 ^ (t + 1) - 1)) (by omega) (by omega) (by omega) hq'
      · rw [if_neg r] at hq'
        refine t24_a l Z a0 hw n0 h0 _ _ _ _ (fun z => q ((own_eq (by omega) (by omega)).mp z)) (by rw [d1]; exact fun z => r ((own_lt (by omega) (by omega)).mp z)) ?_
        rw [d1, d2]
        exact ih j (by omega) h1 (by omega) hq'
set_option maxRecDepth 65536 in
set_option maxHeartbeats 40000000 in
theorem t4_turn (l : Launch) (Z : State) (a0 : Array Value) (hw : ∀ d ∈ tables_1, d.before a0 Z = true) (n0 : Nat) (h0 : Heap) {Q : Option Value → Heap → Prop} (p s pw : Int32) (h6 : s < p) (kk : Go l Z n0 M_lu ({ frames := 0, cells := 0, slots := 0, locals := 0 } : Room) Q h0 0 0 4 #[.val (.int p), .val (.int ((2 : Int32) * s + (1 : Int32))), .val (.int (pw * (2 : Int32))), .unset] []) : Go l Z n0 M_lu ({ frames := 0, cells := 0, slots := 0, locals := 0 } : Room) Q h0 0 0 4 #[.val (.int p), .val (.int s), .val (.int pw), .unset] [] := by
  refine g_iload_n 5 dlu_4 rfl rfl ?_
  refine g_iload_n 6 dlu_5 rfl rfl ?_
  refine g_icmpF 9 dlu_6 (fun z => z h6) rfl ?_
  refine g_iconst 10 (2 : Int32) dlu_9 rfl rfl ?_
  refine g_iload_n 11 dlu_10 rfl rfl ?_
  refine g_imul 12 dlu_11 rfl ?_
  refine g_iconst 13 (1 : Int32) dlu_12 rfl rfl ?_
  refine g_iadd 14 dlu_13 rfl ?_
  refine g_istore_n 15 #[.val (.int p), .val (.int (((((2 : Int32)) * s)) + ((1 : Int32)))), .val (.int pw), .unset] dlu_14 rfl rfl ?_
  refine g_iload_n 16 dlu_15 rfl rfl ?_
  refine g_iconst 17 (2 : Int32) dlu_16 rfl rfl ?_
  refine g_imul 18 dlu_17 rfl ?_
  refine g_istore_n 19 #[.val (.int p), .val (.int (((((2 : Int32)) * s)) + ((1 : Int32)))), .val (.int (pw * ((2 : Int32)))), .unset] dlu_18 rfl rfl ?_
  refine g_goto 4 dlu_19 rfl ?_
  exact kk
set_option maxRecDepth 65536 in
set_option maxHeartbeats 40000000 in
theorem t4_out (l : Launch) (Z : State) (a0 : Array Value) (hw : ∀ d ∈ tables_1, d.before a0 Z = true) (n0 : Nat) (h0 : Heap) {Q : Option Value → Heap → Prop} (p s pw : Int32) (h6 : ¬ s < p) (kk : Go l Z n0 M_lu ({ frames := 0, cells := 0, slots := 0, locals := 0 } : Room) Q h0 0 0 24 #[.val (.int p), .val (.int s), .val (.int pw), .val (.int p)] []) : Go l Z n0 M_lu ({ frames := 0, cells := 0, slots := 0, locals := 0 } : Room) Q h0 0 0 4 #[.val (.int p), .val (.int s), .val (.int pw), .unset] [] := by
  refine g_iload_n 5 dlu_4 rfl rfl ?_
  refine g_iload_n 6 dlu_5 rfl rfl ?_
  refine g_icmpT 22 dlu_6 h6 rfl ?_
  refine g_iload_n 23 dlu_22 rfl rfl ?_
  refine g_istore_n 24 #[.val (.int p), .val (.int s), .val (.int pw), .val (.int p)] dlu_23 rfl rfl ?_
  exact kk
set_option maxRecDepth 65536 in
set_option maxHeartbeats 40000000 in
theorem loop4 (l : Launch) (Z : State) (a0 : Array Value) (hw : ∀ d ∈ tables_1, d.before a0 Z = true) (n0 : Nat) (h0 : Heap) {Q : Option Value → Heap → Prop} (j k : Nat) (hk : k < 31) (h1 : 2 ^ k ≤ j) (h2 : j < 2 ^ (k + 1)) (hq : Q (some (.int (Int32.ofNat (lD (k + 1) j)))) h0) : ∀ (d t : Nat), t + d = k →
    Go l Z n0 M_lu ({ frames := 0, cells := 0, slots := 0, locals := 0 } : Room) Q h0 0 0 4 #[.val (.int (Int32.ofNat j)), .val (.int (Int32.ofNat (2 ^ (t + 1) - 1))), .val (.int (Int32.ofNat (2 ^ t))), .unset] [] := by
  intro d
  induction d with
  | zero =>
    intro t ht
    have e : t = k := by omega
    subst e
    have b2 := own_pow (t := t + 1) (by omega)
    have p1 := own_pos t
    refine t4_out l Z a0 hw n0 h0 _ _ _ (fun z => ?_) (loop24 l Z a0 hw n0 h0 _ t j hk (by omega) h2 hq)
    have := (own_lt (by omega) (by omega)).mp z
    omega
  | succ d ih =>
    intro t ht
    have b2 := own_pow (t := k + 1) (by omega)
    have p1 := own_pos t
    have m1 : 2 ^ (t + 1) ≤ 2 ^ k := Nat.pow_le_pow_right (by decide) (by omega)
    have e1 : 2 ^ (k + 1) = 2 * 2 ^ k := by rw [Nat.pow_succ]; omega
    have e2 : 2 ^ (t + 1) = 2 * 2 ^ t := by rw [Nat.pow_succ]; omega
    have e3 : 2 ^ (t + 1 + 1) = 4 * 2 ^ t := by rw [Nat.pow_succ, e2]; omega
    refine t4_turn l Z a0 hw n0 h0 _ _ _ ((own_lt (by omega) (by omega)).mpr (by omega)) ?_
    rw [own_up, own_dbl, show 2 * (2 ^ (t + 1) - 1) + 1 = 2 ^ (t + 1 + 1) - 1 from by omega, show 2 ^ t * 2 = 2 ^ (t + 1) from by omega]
    exact ih (t + 1) (by omega)
set_option maxRecDepth 65536 in
set_option maxHeartbeats 40000000 in
theorem c_lu (l : Launch) (Z : State) (a0 : Array Value) (hw : ∀ d ∈ tables_1, d.before a0 Z = true) (n0 : Nat) (h0 : Heap) (j k : Nat) (hk : k < 31) (h1 : 2 ^ k ≤ j) (h2 : j < 2 ^ (k + 1)) :
    Con l Z n0 M_lu ({ frames := 0, cells := 0, slots := 0, locals := 0 } : Room) #[(.int (Int32.ofNat j))] h0 (fun v h => v = some (.int (Int32.ofNat (lD (k + 1) j)))) := by
  refine con_intro pl_lu #[.val (.int (Int32.ofNat j)), .unset, .unset, .unset] (fun m => by first | rfl | (simp [entryFrame, mkF, argsToLocals, Value.category]; done)) (fun Zs_h0 => ?_)
  refine g_iconst 1 (1 : Int32) dlu_0 rfl rfl ?_
  refine g_istore_n 2 #[.val (.int (Int32.ofNat j)), .val (.int (1 : Int32)), .unset, .unset] dlu_1 rfl rfl ?_
  refine g_iconst 3 (1 : Int32) dlu_2 rfl rfl ?_
  refine g_istore_n 4 #[.val (.int (Int32.ofNat j)), .val (.int (1 : Int32)), .val (.int (1 : Int32)), .unset] dlu_3 rfl rfl ?_
  exact loop4 l Z a0 hw n0 h0 j k hk h1 h2 rfl k 0 (by omega)
set_option maxRecDepth 65536 in
set_option maxHeartbeats 40000000 in
theorem c_lu2 (l : Launch) (Z : State) (a0 : Array Value) (hw : ∀ d ∈ tables_1, d.before a0 Z = true) (n0 : Nat) (h0 : Heap) (j t : Nat) (ht : t ≤ 31) (h1 : 1 ≤ j) (h2 : j < 2 ^ t) : Con l Z n0 M_lu ({ frames := 0, cells := 0, slots := 0, locals := 0 } : Room) #[(.int (Int32.ofNat j))] h0 (fun v h => v = some (.int (Int32.ofNat (lD t j)))) := by
  obtain ⟨k, a1, a2, a3, a4, a5⟩ := lD_lo t j h1 h2
  rw [a5]
  have e : k = (k - 1) + 1 := by omega
  rw [e]
  rw [e] at a4
  exact c_lu l Z a0 hw n0 h0 j (k - 1) (by omega) a3 a4
theorem own_k (x : Int32) : ∃ k : Nat, k < 31 ∧ ((x &&& 2147483647) % 31) = Int32.ofNat k := by
  have h0 := (c_and x 2147483647 (by decide)).1
  have h1 := (c_irem (x &&& 2147483647) 31 31 rfl).1 h0
  obtain ⟨n, e1, e2, e3⟩ := own_of (x := (x &&& 2147483647) % 31) (by omega)
  exact ⟨n, by omega, e1⟩
theorem own_half : ∀ k : Nat, k < 31 → (1 : Int32) <<< (((Int32.ofNat k + 1) - 1) &&& 31) = Int32.ofNat (2 ^ k) := by decide
theorem own_r (x : Int32) (m : Nat) (hm : 1 ≤ m) (hm2 : m < 2147483648) : ∃ r : Nat, r < m ∧ ((x &&& 2147483647) % Int32.ofNat m) = Int32.ofNat r := by
  have h0 := (c_and x 2147483647 (by decide)).1
  have h1 := (c_irem (x &&& 2147483647) (Int32.ofNat m) m (own_ti hm2)).1 h0
  have h2 := Int.emod_nonneg (x &&& 2147483647).toInt (b := (m : Int)) (by omega)
  have h3 := Int.emod_lt_of_pos (x &&& 2147483647).toInt (b := (m : Int)) (by omega)
  obtain ⟨n, e1, e2, e3⟩ := own_of (x := (x &&& 2147483647) % Int32.ofNat m) (by omega)
  exact ⟨n, by omega, e1⟩
theorem own_top (a : Nat) (h : 1 ≤ a) (h2 : a < 2147483648) : (Int32.ofNat a - 1) + Int32.ofNat a = Int32.ofNat (2 * a - 1) := by
  rw [show (1 : Int32) = Int32.ofNat 1 from rfl, own_sub h2 h, ← Int32.ofNat_add]
  congr 1
  omega
theorem own_add (a b : Nat) : Int32.ofNat a + Int32.ofNat b = Int32.ofNat (a + b) := (Int32.ofNat_add a b).symm
theorem own_lDtop (k : Nat) : lD (k + 1) (2 * 2 ^ k - 1) = 2 ^ k := if_pos (by rw [Nat.pow_succ]; omega)
theorem own_lDr (k r : Nat) (h : r < 2 ^ k - 1) : lD (k + 1) (2 ^ k + r) = lD k (r + 1) := by
  show (if 2 ^ (k + 1) - 1 = 2 ^ k + r then 2 ^ k else if 2 ^ k - 1 < 2 ^ k + r then lD k (2 ^ k + r - (2 ^ k - 1)) else lD k (2 ^ k + r)) = _
  have e1 : 2 ^ (k + 1) = 2 * 2 ^ k := by rw [Nat.pow_succ]; omega
  rw [if_neg (by omega), if_pos (by omega)]
  congr 1
  omega
set_option maxRecDepth 65536 in
set_option maxHeartbeats 40000000 in
theorem c_law (l : Launch) (Z : State) (a0 : Array Value) (hw : ∀ d ∈ tables_1, d.before a0 Z = true) (n0 : Nat) (h0 : Heap) (p0 p1 : Int32) :
    Con l Z n0 M_law room_1 #[(.int p0), (.int p1)] h0 (fun v _ => v = some (.int 1)) := by
  refine con_intro pl_law #[.val (.int p0), .val (.int p1), .unset, .unset, .unset, .unset] (fun m => by first | rfl | (simp [entryFrame, mkF, argsToLocals, Value.category]; done)) (fun Zs_h0 => ?_)
  refine g_iload_n 1 at_0 rfl rfl ?_
  refine g_ldcI (w := 2147483647) 3 at_1 (wd hw 0 rfl) rfl ?_
  refine g_iand 4 at_3 rfl ?_
  refine g_bipush 6 (31 : Int32) at_4 rfl rfl ?_
  refine g_irem 7 at_6 (by decide) rfl ?_
  obtain ⟨k, hk, ek⟩ := own_k p0
  rw [ek]
  have pk := own_pos k
  have bk := own_pow (t := k + 1) (by omega)
  have ek2 : 2 ^ (k + 1) = 2 * 2 ^ k := by rw [Nat.pow_succ]; omega
  refine g_iconst 8 (1 : Int32) at_7 rfl rfl ?_
  refine g_iadd 9 at_8 rfl ?_
  refine g_istore_n 10 #[.val (.int p0), .val (.int p1), .val (.int (((Int32.ofNat k)) + ((1 : Int32)))), .unset, .unset, .unset] at_9 rfl rfl ?_
  refine g_iconst 11 (1 : Int32) at_10 rfl rfl ?_
  refine g_iload_n 12 at_11 rfl rfl ?_
  refine g_iconst 13 (1 : Int32) at_12 rfl rfl ?_
  refine g_isub 14 at_13 rfl ?_
  refine g_ishl 15 at_14 rfl ?_
  rw [own_half k hk]
  refine g_istore_n 16 #[.val (.int p0), .val (.int p1), .val (.int (((Int32.ofNat k)) + ((1 : Int32)))), .val (.int (Int32.ofNat (2 ^ k))), .unset, .unset] at_15 rfl rfl ?_
  refine g_iload_n 17 at_16 rfl rfl ?_
  refine g_iconst 18 (1 : Int32) at_17 rfl rfl ?_
  refine g_isub 19 at_18 rfl ?_
  refine g_iload_n 20 at_19 rfl rfl ?_
  refine g_iadd 21 at_20 rfl ?_
  rw [own_top (2 ^ k) (by omega) (by omega)]
  refine g_istore 23 #[.val (.int p0), .val (.int p1), .val (.int (((Int32.ofNat k)) + ((1 : Int32)))), .val (.int (Int32.ofNat (2 ^ k))), .val (.int (Int32.ofNat (2 * 2 ^ k - 1))), .unset] at_21 rfl rfl ?_
  refine g_iload 25 at_23 rfl rfl ?_
  refine g_callS 28 (N := M_lu) [(.int (Int32.ofNat (2 * 2 ^ k - 1)))] [] at_25 (wd hw 1 rfl) (wd hw 2 rfl) (wd hw 3 rfl) (wd hw 4 rfl) (by decide) (c_lu2 l Z a0 hw n0 h0 (2 * 2 ^ k - 1) (k + 1) (by omega) (by omega) (by omega)) rfl pd_lu rfl rfl (Nat.le_of_ble_eq_true rfl) (Nat.le_of_ble_eq_true rfl) (Nat.le_of_ble_eq_true rfl) (Nat.le_of_ble_eq_true rfl) rfl ?_
  rintro v hx rfl
  rw [own_lDtop]
  show Go _ _ _ _ _ _ _ _ _ 28 #[.val (.int p0), .val (.int p1), .val (.int (((Int32.ofNat k)) + ((1 : Int32)))), .val (.int (Int32.ofNat (2 ^ k))), .val (.int (Int32.ofNat (2 * 2 ^ k - 1))), .unset] [(.int (Int32.ofNat (2 ^ k)))]
  refine g_iload_n 29 at_28 rfl rfl ?_
  refine g_icmpT 34 at_29 rfl rfl ?_
  refine g_iload_n 35 at_34 rfl rfl ?_
  refine g_iconst 36 (1 : Int32) at_35 rfl rfl ?_
  refine g_icmp 41 39 at_36 rfl rfl (fun q36 => ?_) (fun q36 => ?_)
  · refine g_iload_n 42 at_41 rfl rfl ?_
    refine g_iload_n 43 at_42 rfl rfl ?_
    refine g_ldcI (w := 2147483647) 45 at_43 (wd hw 0 rfl) rfl ?_
    refine g_iand 46 at_45 rfl ?_
    refine g_iload_n 47 at_46 rfl rfl ?_
    refine g_iconst 48 (1 : Int32) at_47 rfl rfl ?_
    refine g_isub 49 at_48 rfl ?_
    rw [show Int32.ofNat (2 ^ k) - (1 : Int32) = Int32.ofNat (2 ^ k - 1) from own_sub (a := 2 ^ k) (b := 1) (by omega) (by omega)]
    have k1 : 2 ≤ 2 ^ k := by
      have : k ≠ 0 := fun z => q36 (by rw [z]; rfl)
      obtain ⟨j, rfl⟩ : ∃ j, k = j + 1 := ⟨k - 1, by omega⟩
      have := own_pos j
      rw [Nat.pow_succ]; omega
    obtain ⟨r, hr, er⟩ := own_r p1 (2 ^ k - 1) (by omega) (by omega)
    refine g_irem 50 at_49 (fun z => absurd ((own_eq (b := 0) (by omega) (by omega)).mp z) (by omega)) rfl ?_
    rw [er]
    refine g_iadd 51 at_50 rfl ?_
    rw [own_add (2 ^ k) r]
    refine g_istore 53 #[.val (.int p0), .val (.int p1), .val (.int (((Int32.ofNat k)) + ((1 : Int32)))), .val (.int (Int32.ofNat (2 ^ k))), .val (.int (Int32.ofNat (2 * 2 ^ k - 1))), .val (.int (Int32.ofNat (2 ^ k + r)))] at_51 rfl rfl ?_
    refine g_iload 55 at_53 rfl rfl ?_
    refine g_callS 58 (N := M_lu) [(.int (Int32.ofNat (2 ^ k + r)))] [] at_55 (wd hw 1 rfl) (wd hw 2 rfl) (wd hw 3 rfl) (wd hw 4 rfl) (by decide) (c_lu2 l Z a0 hw n0 _ (2 ^ k + r) (k + 1) (by omega) (by omega) (by omega)) rfl pd_lu rfl rfl (Nat.le_of_ble_eq_true rfl) (Nat.le_of_ble_eq_true rfl) (Nat.le_of_ble_eq_true rfl) (Nat.le_of_ble_eq_true rfl) rfl ?_
    rintro v hy rfl
    rw [own_lDr k r hr]
    show Go _ _ _ _ _ _ _ _ _ 58 #[.val (.int p0), .val (.int p1), .val (.int (((Int32.ofNat k)) + ((1 : Int32)))), .val (.int (Int32.ofNat (2 ^ k))), .val (.int (Int32.ofNat (2 * 2 ^ k - 1))), .val (.int (Int32.ofNat (2 ^ k + r)))] [(.int (Int32.ofNat (lD k (r + 1))))]
    refine g_iload 60 at_58 rfl rfl ?_
    refine g_iload_n 61 at_60 rfl rfl ?_
    refine g_isub 62 at_61 rfl ?_
    refine g_iconst 63 (1 : Int32) at_62 rfl rfl ?_
    refine g_iadd 64 at_63 rfl ?_
    rw [own_sub (a := 2 ^ k + r) (b := 2 ^ k) (by omega) (by omega), show 2 ^ k + r - 2 ^ k = r from by omega, show Int32.ofNat r + (1 : Int32) = Int32.ofNat (r + 1) from own_add r 1]
    refine g_callS 67 (N := M_lu) [(.int (Int32.ofNat (r + 1)))] [(.int (Int32.ofNat (lD k (r + 1))))] at_64 (wd hw 1 rfl) (wd hw 2 rfl) (wd hw 3 rfl) (wd hw 4 rfl) (by decide) (c_lu2 l Z a0 hw n0 _ (r + 1) k (by omega) (by omega) (by omega)) rfl pd_lu rfl rfl (Nat.le_of_ble_eq_true rfl) (Nat.le_of_ble_eq_true rfl) (Nat.le_of_ble_eq_true rfl) (Nat.le_of_ble_eq_true rfl) rfl ?_
    rintro v hz rfl
    show Go _ _ _ _ _ _ _ _ _ 67 #[.val (.int p0), .val (.int p1), .val (.int (((Int32.ofNat k)) + ((1 : Int32)))), .val (.int (Int32.ofNat (2 ^ k))), .val (.int (Int32.ofNat (2 * 2 ^ k - 1))), .val (.int (Int32.ofNat (2 ^ k + r)))] [(.int (Int32.ofNat (lD k (r + 1)))), (.int (Int32.ofNat (lD k (r + 1))))]
    refine g_icmpF 70 at_67 (fun z => z rfl) rfl ?_
    refine g_iconst 71 (1 : Int32) at_70 rfl rfl ?_
    refine g_goto 75 at_71 rfl ?_
    refine g_retZ at_75 rfl rfl (Nat.le_of_ble_eq_true rfl) (Nat.le_of_ble_eq_true rfl) ?_
    rfl
  · refine g_iconst 40 (1 : Int32) at_39 rfl rfl ?_
    refine g_retZ at_40 rfl rfl (Nat.le_of_ble_eq_true rfl) (Nat.le_of_ble_eq_true rfl) ?_
    rfl
set_option maxRecDepth 65536 in
set_option maxHeartbeats 40000000 in
theorem comes_1 {Post : Tables → Env → Array Value → State → Outcome → State → Prop} (hpost : ∀ tb e args s v u, (limb_1_1.after args s (.returned v) u = true ∧ limb_1_2.after args s (.returned v) u = true ∧ True) → FrameEnd s (.returned v) u (Jvm.fieldLocs frame_1_writes args s ++ Jvm.arrayLocs frame_1_arrays args s ++ Jvm.staticLocs frame_1_statics s) 0 0 → Post tb e args s (.returned v) u) :
    ArmFor flags0 classFile x code maxLocals ret World_1 tables_1 room_1 Calls_1 rest_1 Pre_1 Post := by
  intro l hfl _ _ p e ha hc hk s m args below hf hA hF happ hP
  obtain ⟨hcalls, hrest, hpre⟩ := hP
  obtain ⟨-, -, -, hnamed, -, -, -, hat⟩ := (Spec.applies_iff hf).mp happ
  obtain ⟨hg, hn⟩ := and_e (Cond.before_iff.mp (show (Jvm.Cond.and given_1 narrow_1).before args s = true from hpre))
  obtain ⟨h1, k0⟩ := and_e hg
  obtain ⟨j0, k1⟩ := and_e k0
  obtain ⟨w0, w1, rfl⟩ : ∃ w0 w1 : Value, args = #[w0, w1] := by
    have hs : args.size = 2 := by simpa [Cond.value, given_1] using h1
    obtain ⟨L⟩ := args
    match L, hs with
    | [w0, w1], _ => exact ⟨w0, w1, rfl⟩
  have hw := fun d (hd : d ∈ tables_1) => atoms_spec (ws := Jvm.Cond.code x code maxLocals ret :: tables_1) hat d (List.mem_cons_of_mem _ hd)
  obtain ⟨i0, e0⟩ := is_v j0
  obtain rfl : w0 = (.int i0) := Option.some.inj e0
  obtain ⟨i1, e1⟩ := is_v k1
  obtain rfl : w1 = (.int i1) := Option.some.inj e1
  obtain ⟨n, o, h1, h2, h3, _, L, rfl, ⟨rfl, N⟩, hq⟩ := c_law l s _ hw s.heap.size s.heap i0 i1 (Nat.le_refl _) tables_1 p e ha hc hk s m _ below hf ((Spec.applies_iff_loose hf).mp happ).1 ⟨rfl, State.Warmed39.refl s, rfl⟩ trivial
  refine ⟨n, _, h1, h2, h3, hpost _ _ _ _ _ _ ⟨Cond.after_iff.mpr rfl, Cond.after_iff.mpr (eq_i res_at (Term.int_eval (1)) rfl), trivial⟩ ⟨hq.1, hq.2.1, (hq.2.2.sift fun y hy => Or.inr (N y hy)).mono (by decide) (by decide)⟩⟩
theorem main_1_1 : Claimed_1_1 := comes_1 fun _ _ _ _ _ _ h hF => ⟨h.1, hF⟩
theorem main_1_2 : Claimed_1_2 := comes_1 fun _ _ _ _ _ _ h hF => ⟨h.2.1, hF⟩
end Jvm.Pilot.@@N@@
namespace Jvm.Pilot.@@N@@
open Jvm Jvm.ClassFile Sem Op Lib Jvm.Free Jvm.Stand Jvm.Pilot.@@N@@.Jvm.D
/-! MADE BY PROGRAM (witnessworld.py) out of the Statement's table words and the real class files: 9 classes; the members and pool entries that the words name. The judged class is class 1, her method 1. -/
namespace start1
open Jvm.ClassFile
def u (s : String) : CpInfo := .utf8 (stringToUtf16 s)
/-- a pool by its gaps: so many unusable entries, then the entry; so many at the end -/
def gap : Nat → List CpInfo → List CpInfo
  | 0, r => r
  | n + 1, r => .unusable :: gap n r
def poolList (es : List (Nat × CpInfo)) (last : Nat) : List CpInfo := es.foldr (fun e r => gap e.1 (e.2 :: r)) (gap last [])
def pool (es : List (Nat × CpInfo)) (last : Nat) : Array CpInfo := ⟨poolList es last⟩
def fileOf (pool : Array CpInfo) (this : Nat) (attrs : Array Attribute := #[]) (ms : Array MethodInfo := #[]) (fl : Nat := 33) (sup : Nat := 0) (ifs : Array Nat := #[]) (fds : Array FieldInfo := #[]) : ClassFile where
  minorVersion := 0
  majorVersion := 65
  constantPool := pool
  accessFlags := fl
  thisClass := this
  superClass := sup
  interfaces := ifs
  fields := fds
  methods := ms
  attributes := attrs
def plain (name : String) (sup : Option ClassId) : Class where
  name := name
  kind := .ordinary
  loader := none
  accessFlags := 33
  super := sup
  interfaces := #[]
  cf := none
  fields := #[]
  methods := #[]
  instanceTypes := #[]
  staticTypes := #[]
  resolved := #[]
  callSites := []
  init := .initialized
  statics := none
  mirror := none

def pool0 : Array CpInfo := pool [(5, u "<init>"), (0, u "()V"), (1, .class_ 10), (1, u "java/lang/Object")] 113

def k0m0 : Method := { name := "<init>", desc := "()V", sig := { parameters := [], returnType := none }, accessFlags := 1, code := none }
/-- java/lang/Object -/
def k0 : Class := { plain "java/lang/Object" none with
  accessFlags := 33
  interfaces := #[]
  cf := some (fileOf pool0 8 #[] #[{ accessFlags := 1, nameIndex := 5, descriptorIndex := 6, attributes := #[] }] 33 0 #[] #[])
  fields := #[]
  methods := #[k0m0]
  instanceTypes := #[]
  staticTypes := #[]
  resolved := Array.replicate 124 none
  statics := none }

def pool1 : Array CpInfo := pool [(2, .class_ 4), (1, u "java/lang/Object"), (0, u "<init>"), (0, u "()V"), (0, .integer 2147483647), (0, .methodref 9 10), (0, .class_ 11), (0, .nameAndType 12 13), (0, u "com/example/ruschlikon/ruschlikon/logic/Solver"), (0, u "luby"), (0, u "(I)I"), (0, .class_ 15), (0, u "com/example/ruschlikon/ruschlikon/logic/SolverLubyPinLaw"), (2, u "law"), (0, u "(II)Z")] 3

def k1m0 : Method := { name := "<init>", desc := "()V", sig := { parameters := [], returnType := none }, accessFlags := 1, code := none }
def k1c1 : Code := { maxStack := 4, maxLocals := 6, code := code, exceptionTable := #[], attributes := #[] }
def k1m1 : Method := { name := "law", desc := "(II)Z", sig := { parameters := [.int, .int], returnType := some .boolean }, accessFlags := 9, code := some k1c1 }
/-- com/example/ruschlikon/ruschlikon/logic/SolverLubyPinLaw -/
def k1 : Class := { plain "com/example/ruschlikon/ruschlikon/logic/SolverLubyPinLaw" (some 0) with
  accessFlags := 49
  interfaces := #[]
  cf := some (fileOf pool1 14 #[] #[{ accessFlags := 1, nameIndex := 5, descriptorIndex := 6, attributes := #[] }, { accessFlags := 9, nameIndex := 18, descriptorIndex := 19, attributes := #[] }] 49 2 #[] #[])
  fields := #[]
  methods := #[k1m0, k1m1]
  instanceTypes := #[]
  staticTypes := #[]
  resolved := Array.replicate 23 none
  statics := none }

def pool2 : Array CpInfo := pool [(2, .class_ 4), (1, u "java/lang/Object"), (6, .class_ 13), (1, u "com/example/ruschlikon/ruschlikon/logic/Solver"), (0, u "clauses"), (0, u "Ljava/util/List;"), (2, u "watches"), (2, u "bump"), (0, u "D"), (2, u "levelStarts"), (8, u "variables"), (0, u "I"), (2, u "values"), (0, u "[I"), (2, u "levels"), (2, u "reasons"), (2, u "phases"), (0, u "[Z"), (2, u "activities"), (0, u "[D"), (2, u "trail"), (2, u "seen"), (6, .class_ 67), (0, u "com/example/ruschlikon/ruschlikon/logic/Solver$VariableHeap"), (5, u "heap"), (0, u "Lcom/example/ruschlikon/ruschlikon/logic/Solver$VariableHeap;"), (24, u "contradictory"), (0, u "Z"), (4, .class_ 107), (1, u "com/example/ruschlikon/ruschlikon/logic/Solver$Verdict"), (14, u "luby"), (0, u "(I)I"), (11, u "assigned"), (61, u "propagated"), (37, u "RESTART_INTERVAL"), (2, u "ACTIVITY_DECAY")] 19

def k2c0 : Code := { maxStack := 2, maxLocals := 4, code := prog_109_method_16_code, exceptionTable := #[], attributes := #[] }
def k2m0 : Method := { name := "luby", desc := "(I)I", sig := { parameters := [.int], returnType := some .int }, accessFlags := 8, code := some k2c0 }
/-- com/example/ruschlikon/ruschlikon/logic/Solver -/
def k2 : Class := { plain "com/example/ruschlikon/ruschlikon/logic/Solver" (some 0) with
  accessFlags := 33
  interfaces := #[]
  cf := some (fileOf pool2 11 #[.nestMembers #[66, 105]] #[{ accessFlags := 8, nameIndex := 122, descriptorIndex := 123, attributes := #[] }] 33 2 #[] #[{ accessFlags := 26, nameIndex := 235, descriptorIndex := 35, attributes := #[] }, { accessFlags := 26, nameIndex := 238, descriptorIndex := 22, attributes := #[] }, { accessFlags := 18, nameIndex := 34, descriptorIndex := 35, attributes := #[] }, { accessFlags := 18, nameIndex := 14, descriptorIndex := 15, attributes := #[] }, { accessFlags := 18, nameIndex := 18, descriptorIndex := 15, attributes := #[] }, { accessFlags := 18, nameIndex := 38, descriptorIndex := 39, attributes := #[] }, { accessFlags := 18, nameIndex := 42, descriptorIndex := 39, attributes := #[] }, { accessFlags := 18, nameIndex := 45, descriptorIndex := 39, attributes := #[] }, { accessFlags := 18, nameIndex := 48, descriptorIndex := 49, attributes := #[] }, { accessFlags := 18, nameIndex := 52, descriptorIndex := 53, attributes := #[] }, { accessFlags := 2, nameIndex := 21, descriptorIndex := 22, attributes := #[] }, { accessFlags := 18, nameIndex := 73, descriptorIndex := 74, attributes := #[] }, { accessFlags := 18, nameIndex := 56, descriptorIndex := 39, attributes := #[] }, { accessFlags := 2, nameIndex := 135, descriptorIndex := 35, attributes := #[] }, { accessFlags := 2, nameIndex := 197, descriptorIndex := 35, attributes := #[] }, { accessFlags := 18, nameIndex := 25, descriptorIndex := 15, attributes := #[] }, { accessFlags := 18, nameIndex := 59, descriptorIndex := 49, attributes := #[] }, { accessFlags := 2, nameIndex := 99, descriptorIndex := 100, attributes := #[] }])
  fields := #[{ name := "RESTART_INTERVAL", type := .int, accessFlags := 26, slot := 0, constantValue := 0 }, { name := "ACTIVITY_DECAY", type := .double, accessFlags := 26, slot := 1, constantValue := 0 }, { name := "variables", type := .int, accessFlags := 18, slot := 0, constantValue := 0 }, { name := "clauses", type := (.object "java/util/List"), accessFlags := 18, slot := 1, constantValue := 0 }, { name := "watches", type := (.object "java/util/List"), accessFlags := 18, slot := 2, constantValue := 0 }, { name := "values", type := (.array .int), accessFlags := 18, slot := 3, constantValue := 0 }, { name := "levels", type := (.array .int), accessFlags := 18, slot := 4, constantValue := 0 }, { name := "reasons", type := (.array .int), accessFlags := 18, slot := 5, constantValue := 0 }, { name := "phases", type := (.array .boolean), accessFlags := 18, slot := 6, constantValue := 0 }, { name := "activities", type := (.array .double), accessFlags := 18, slot := 7, constantValue := 0 }, { name := "bump", type := .double, accessFlags := 2, slot := 8, constantValue := 0 }, { name := "heap", type := (.object "com/example/ruschlikon/ruschlikon/logic/Solver$VariableHeap"), accessFlags := 18, slot := 9, constantValue := 0 }, { name := "trail", type := (.array .int), accessFlags := 18, slot := 10, constantValue := 0 }, { name := "assigned", type := .int, accessFlags := 2, slot := 11, constantValue := 0 }, { name := "propagated", type := .int, accessFlags := 2, slot := 12, constantValue := 0 }, { name := "levelStarts", type := (.object "java/util/List"), accessFlags := 18, slot := 13, constantValue := 0 }, { name := "seen", type := (.array .boolean), accessFlags := 18, slot := 14, constantValue := 0 }, { name := "contradictory", type := .boolean, accessFlags := 2, slot := 15, constantValue := 0 }]
  methods := #[k2m0]
  instanceTypes := #[.int, (.object "java/util/List"), (.object "java/util/List"), (.array .int), (.array .int), (.array .int), (.array .boolean), (.array .double), .double, (.object "com/example/ruschlikon/ruschlikon/logic/Solver$VariableHeap"), (.array .int), .int, .int, (.object "java/util/List"), (.array .boolean), .boolean]
  staticTypes := #[.int, .double]
  resolved := Array.replicate 258 none
  statics := none }

def pool3 : Array CpInfo := pool [(1, u "java/lang/Cloneable"), (0, .class_ 1), (0, u "java/lang/Object"), (0, .class_ 3)] 3

/-- java/lang/Cloneable -/
def k3 : Class := { plain "java/lang/Cloneable" (some 0) with
  accessFlags := 1537
  interfaces := #[]
  cf := some (fileOf pool3 2 #[] #[] 1537 4 #[] #[])
  fields := #[]
  methods := #[]
  instanceTypes := #[]
  staticTypes := #[]
  resolved := Array.replicate 8 none
  statics := none }

def pool4 : Array CpInfo := pool [(1, u "java/io/Serializable"), (0, .class_ 1), (0, u "java/lang/Object"), (0, .class_ 3)] 3

/-- java/io/Serializable -/
def k4 : Class := { plain "java/io/Serializable" (some 0) with
  accessFlags := 1537
  interfaces := #[]
  cf := some (fileOf pool4 2 #[] #[] 1537 4 #[] #[])
  fields := #[]
  methods := #[]
  instanceTypes := #[]
  staticTypes := #[]
  resolved := Array.replicate 8 none
  statics := none }

/-- the primitive byte -/
def k5 : Class := { plain "byte" none with kind := .primitive 'B', accessFlags := 0x411 }
/-- [B -/
def k6 : Class := { plain "[B" (some 0) with kind := .array 5 .byte, interfaces := #[3, 4], accessFlags := 1041 }

/-- the primitive int -/
def k7 : Class := { plain "int" none with kind := .primitive 'I', accessFlags := 0x411 }
/-- [I -/
def k8 : Class := { plain "[I" (some 0) with kind := .array 7 .int, interfaces := #[3, 4], accessFlags := 1041 }

def heap : Heap := #[]
def classes : Array Class := #[k0, k1, k2, k3, k4, k5, k6, k7, k8]
def interned : List (Array UInt16 × Addr) := []
def slotsUsed : Nat := 0
def theMethod : MethodId := ⟨1, 1⟩
def args0 : Array Value := #[.int 5, .int 9]
def aboutOver (below : List Frame) : State where
  vm := { classes := classes, interned := interned.toArray }
  heap := heap
  slotsUsed := slotsUsed
  threads := #[{ frames := .invoking theMethod args0 :: below }]
def below0 : List Frame := [.native { method := ⟨0, 0⟩, args := #[] }]
def about1 : State := aboutOver below0
def p0 : Program := .bare "" "" ""
def e0 : Env := launch0.env 0 0 0
theorem w_frames : about1.frames = Frame.invoking theMethod args0 :: below0 := rfl
set_option maxRecDepth 65536 in
theorem w_args : argsFit about1.vm theMethod args0 = true := by decide +kernel
set_option maxRecDepth 65536 in
theorem w_heap : heapFits about1 = true := by decide +kernel
set_option maxRecDepth 65536 in
theorem w_runnable : about1.curStatus? = some .runnable := by decide +kernel
set_option maxRecDepth 65536 in
theorem w_alone : about1.alone = true := by decide +kernel
set_option maxRecDepth 65536 in
theorem w_named : about1.methodNamed? x = some theMethod := by decide +kernel
set_option maxRecDepth 65536 in
theorem w_hears : about1.hears theMethod below0 = true := by decide +kernel
set_option maxRecDepth 65536 in
theorem w_ripe : about1.ripe theMethod args0 below0 = true := by decide +kernel
theorem w_running : about1.status = .running := rfl
set_option maxRecDepth 65536 in
theorem w_room : about1.hasRoom e0.platform room_1 = true :=
  launch0.hasRoom_least _ room_1 (by decide +kernel) (by decide +kernel) (by decide +kernel) (by decide +kernel) (by decide +kernel) (by decide +kernel)
theorem allAtoms_all (ts : List Jvm.Cond) (a : Array Jvm.Value) (st : Jvm.State) : (allAtoms ts).before a st = ts.all (fun c => c.before a st) := by
  induction ts with
  | nil => rfl
  | cons c t ih =>
    show (Jvm.Cond.and c (allAtoms t)).before a st = _
    rw [Jvm.Cond.before_and, ih, List.all_cons]
def words1 : List Jvm.Cond := Jvm.Cond.code x code maxLocals ret :: tables_1
/-- a 'code' word, met by the world's own term for the bytes: nothing is compared byte by byte -/
theorem code_word {y : MethodName} {bytes : ByteArray} {mx : Nat} {rt : Option FieldType} {a : Array Value} {s : State} {m : MethodId} {meth : Method} {c : Code} (h1 : s.methodNamed? y = some m) (h2 : s.vm.method? m = some meth) (h3 : meth.code = some c) (h4 : c.code = bytes)
    (h5 : (c.maxLocals == mx && c.exceptionTable.isEmpty && decide (c.maxStack ≤ mostOperands) && decide (meth.sig.returnType = rt) && !meth.locks && decide (parseMethodDescriptor y.desc = some meth.sig)) = true) : (Jvm.Cond.code y bytes mx rt).before a s = true := by
  simp only [Bool.and_eq_true, beq_iff_eq, Bool.not_eq_true', decide_eq_true_eq] at h5
  obtain ⟨⟨⟨⟨⟨g1, g2⟩, g3⟩, g4⟩, g5⟩, g6⟩ := h5
  simp [Cond.before, Cond.holds, Cond.value, h1, h2, h3, h4, g1, g2, g3, g4, g5, g6]
def isCode : Jvm.Cond → Bool
  | .code _ _ _ _ => true
  | _ => false
theorem all_split {L : List Jvm.Cond} {P : Jvm.Cond → Bool} (h1 : L.all (fun c => isCode c || P c) = true) (h2 : ∀ c ∈ L.filter isCode, P c = true) : L.all P = true := by
  refine List.all_eq_true.mpr fun c hc => ?_
  have h := List.all_eq_true.mp h1 c hc
  rcases Bool.eq_false_or_eq_true (isCode c) with hi | hi
  · exact h2 c (List.mem_filter.mpr ⟨hc, hi⟩)
  · simpa [hi] using h
set_option maxRecDepth 65536 in
theorem w_c0 : (Jvm.Cond.code x code maxLocals ret).before args0 about1 = true := code_word (m := ⟨1, 1⟩) (meth := k1m1) (c := k1c1) (by decide +kernel) rfl rfl rfl (by decide +kernel)
set_option maxRecDepth 65536 in
theorem w_c1 : (Jvm.Cond.code ({ cls := "com/example/ruschlikon/ruschlikon/logic/Solver", name := "luby", desc := "(I)I" } : Jvm.MethodName) prog_109_method_16_code (4 : Nat) (Option.some Jvm.ClassFile.FieldType.int)).before args0 about1 = true := code_word (m := ⟨2, 0⟩) (meth := k2m0) (c := k2c0) (by decide +kernel) rfl rfl rfl (by decide +kernel)
def codes1 : List Jvm.Cond := [Jvm.Cond.code x code maxLocals ret, Jvm.Cond.code ({ cls := "com/example/ruschlikon/ruschlikon/logic/Solver", name := "luby", desc := "(I)I" } : Jvm.MethodName) prog_109_method_16_code (4 : Nat) (Option.some Jvm.ClassFile.FieldType.int)]
set_option maxRecDepth 65536 in
theorem codes_eq : words1.filter isCode = codes1 := rfl
theorem w_codes : ∀ c ∈ words1.filter isCode, c.before args0 about1 = true := by
  rw [codes_eq]
  intro c hc
  simp only [codes1, List.mem_cons, List.not_mem_nil, or_false] at hc
  rcases hc with rfl | rfl
  · exact w_c0
  · exact w_c1
set_option maxRecDepth 65536 in
theorem w_t1 : words1.all (fun c => isCode c || c.before args0 about1) = true := by decide +kernel
theorem w_tables : (allAtoms (Jvm.Cond.code x code maxLocals ret :: tables_1)).before args0 about1 = true := by
  rw [allAtoms_all]
  show words1.all (fun c => c.before args0 about1) = true
  refine all_split ?_ w_codes
  rw [w_t1]
set_option maxRecDepth 65536 in
theorem w_case : (Jvm.Cond.and given_1 narrow_1).before args0 about1 = true := by decide +kernel
theorem w_applies : (headSpec (Jvm.Cond.code x code maxLocals ret :: tables_1) room_1).applies x e0.platform about1 = true :=
  (Spec.applies_iff w_frames).mpr ⟨w_running, w_runnable, w_alone, w_named, w_hears, w_ripe, w_room, w_tables⟩
theorem atStart : AtStart classFile x code maxLocals ret World_1 tables_1 room_1 Calls_1 rest_1 Pre_1 launch0 p0 e0 about1 theMethod args0 below0 :=
  ⟨lists_1, trivial, launch0.admits_env _ _ _, launch0.least_env, fairChoices_fair.cas, fairChoices_fair.clock, w_frames, w_args, w_heap, w_applies, trivial, trivial, w_case⟩
end start1
theorem witness_1 : WitnessClaimed_1 := ⟨start1.p0, start1.e0, start1.about1, start1.theMethod, start1.args0, start1.below0, start1.atStart⟩
end Jvm.Pilot.@@N@@
