import JvmDerived
import JvmDerived.Pilot.@@N@@Statement
import JvmDerived.Pilot.@@N@@Code
set_option linter.unusedVariables false
set_option linter.unusedSimpArgs false
namespace Jvm.Pilot.@@N@@
open Jvm Jvm.ClassFile Sem Op Lib Jvm.Free Jvm.Stand Jvm.LawKit Jvm.RoadKit Bundle Jvm.Pilot.@@N@@.Jvm.D
-- OWN PRELUDE: a small logic over lawnew's family. Go .. h kc ks pc L S: from every state in which this body stands at pc with locals L, stack S, heap h (kc cells, ks slots made so far), it returns with Q.
abbrev MD := MethodName × ByteArray × Nat × Option FieldType
def Inv (Z : State) (n0 : Nat) (M : MD) (p : Program) (s : State) (m : MethodId) (meth : Method) (c : Code) : Prop :=
  p.tables.exec = Jvm.exec ∧ Z.Warmed39 s.vm ∧ c.code = M.2.1 ∧ c.maxLocals = M.2.2.1 ∧ s.vm.findClass M.1.cls = some m.cls ∧ meth.name = M.1.name ∧ meth.sig.returnType = M.2.2.2 ∧ meth.locks = false ∧ n0 ≤ s.heap.size
def Goes (p : Program) (e : Env) (below : List Frame) (s : State) (n0 kc ks : Nat) (Q : Option Value → Heap → Prop) (T : State) (g : JFrame) : Prop :=
  ∃ s₂ o, Steps p.tables e below (T.setTop g) s₂ ∧ s₂.status = .running ∧ Ended s₂ below o ∧ ∃ v L, o = .returned v ∧ (Q v s₂.heap ∧ Fr n0 L) ∧ FrameEnd s o s₂ L kc ks
def Go (l : Launch) (Z : State) (n0 : Nat) (M : MD) (R : Room) (Q : Option Value → Heap → Prop) (h : Heap) (kc ks pc : Nat) (L : Array Slot) (S : List Value) : Prop :=
  ∀ (p : Program) (e : Env) (s : State) (m : MethodId) (args : Array Value) (below : List Frame) (meth : Method) (c : Code) (T : State) (locs : List Loc),
    Inv Z n0 M p s m meth c → Stand p l e R s m args below meth c T locs kc ks → T.heap = h → Fr n0 locs → Goes p e below s n0 R.cells R.slots Q T (mkF m pc L S)
def Con (l : Launch) (Z : State) (n0 : Nat) (M : MD) (rm : Room) (as' : Array Value) (h0 : Heap) (Q : Option Value → Heap → Prop) : Prop :=
  n0 ≤ h0.size → ∀ ws : List Jvm.Cond, MetFree l M.1 (head1 (Jvm.Cond.code M.1 M.2.1 M.2.2.1 M.2.2.2 :: ws) rm) (fun a U => a = as' ∧ Z.Warmed39 U.vm ∧ U.heap = h0) (fun _ _ _ _ _ => True)
    (fun _ U o U' => ∃ v L, o = .returned v ∧ (Q v U'.heap ∧ Fr n0 L) ∧ FrameEnd U o U' L rm.cells rm.slots)
def cP : ClassFile.Cond → Int32 → Int32 → Prop
  | .eq, x, y => x = y
  | .ne, x, y => ¬ x = y
  | .lt, x, y => x < y
  | .ge, x, y => ¬ x < y
  | .gt, x, y => y < x
  | .le, x, y => ¬ y < x
theorem cP_t {cd : ClassFile.Cond} {x y : Int32} (h : cP cd x y) : if_icmp.holds cd x y = true := by
  cases cd
  · exact (teq h).1
  · exact (feq h).2
  · exact (tlt h).1
  · exact (flt h).2.1
  · exact (tlt h).2.2.1
  · exact (flt h).2.2.2
theorem cP_f {cd : ClassFile.Cond} {x y : Int32} (h : ¬ cP cd x y) : if_icmp.holds cd x y = false := by
  cases cd
  · exact (feq h).1
  · exact (teq (Classical.not_not.mp h)).2
  · exact (flt h).1
  · exact (tlt (Classical.not_not.mp h)).2.1
  · exact (flt h).2.2.1
  · exact (tlt (Classical.not_not.mp h)).2.2.2
def lP : ClassFile.Cond → Int64 → Int64 → Prop
  | .eq, x, y => x = y
  | .ne, x, y => ¬ x = y
  | .lt, x, y => x < y
  | .ge, x, y => ¬ x < y
  | .gt, x, y => y < x
  | .le, x, y => ¬ y < x
theorem lP_t {cd : ClassFile.Cond} {x y : Int64} (h : lP cd x y) : ifCond.holds cd (XT.cmpL x y) = true := by
  cases cd
  · exact XT.ll_eq_t h
  · exact XT.ll_ne_t h
  · exact XT.ll_lt_t h
  · exact XT.ll_ge_t h
  · exact XT.ll_gt_t h
  · exact XT.ll_le_t h
theorem lP_f {cd : ClassFile.Cond} {x y : Int64} (h : ¬ lP cd x y) : ifCond.holds cd (XT.cmpL x y) = false := by
  cases cd
  · exact XT.ll_eq_f h
  · exact XT.ll_ne_f (Classical.not_not.mp h)
  · exact XT.ll_lt_f h
  · exact XT.ll_ge_f (Classical.not_not.mp h)
  · exact XT.ll_gt_f h
  · exact XT.ll_le_f (Classical.not_not.mp h)
section Own
variable {l : Launch} {Z : State} {n0 : Nat} {M : MD} {R : Room} {Q : Option Value → Heap → Prop} {h : Heap} {kc ks pc : Nat} {L : Array Slot} {S : List Value} {a0 : Array Value}
theorem g_via {h' : Heap} {kc' ks' pc' : Nat} {L' : Array Slot} {S' : List Value}
    (st : ∀ {p : Program} {e : Env} {s : State} {m : MethodId} {args : Array Value} {below : List Frame} {meth : Method} {c : Code} {T : State} {locs : List Loc}, Inv Z n0 M p s m meth c → Stand p l e R s m args below meth c T locs kc ks → T.heap = h →
      ∃ T', Stand p l e R s m args below meth c T' locs kc' ks' ∧ T'.heap = h' ∧ ∀ target, Steps p.tables e below (T'.setTop (mkF m pc' L' S')) target → Steps p.tables e below (T.setTop (mkF m pc L S)) target)
    (k : Go l Z n0 M R Q h' kc' ks' pc' L' S') : Go l Z n0 M R Q h kc ks pc L S := by
  intro p e s m args below meth c T locs I X eT N
  obtain ⟨T', X', eT', st'⟩ := st I X eT
  obtain ⟨s₂, o, h1, r⟩ := k p e s m args below meth c T' locs I X' eT' N
  exact ⟨s₂, o, st' _ h1, r⟩
theorem g_pure {pc' : Nat} {L' : Array Slot} {S' : List Value}
    (st : ∀ {p : Program} {e : Env} {s : State} {m : MethodId} {args : Array Value} {below : List Frame} {meth : Method} {c : Code} {T : State} {locs : List Loc}, Inv Z n0 M p s m meth c → Stand p l e R s m args below meth c T locs kc ks →
      ∀ target, Steps p.tables e below (T.setTop (mkF m pc' L' S')) target → Steps p.tables e below (T.setTop (mkF m pc L S)) target)
    (k : Go l Z n0 M R Q h kc ks pc' L' S') : Go l Z n0 M R Q h kc ks pc L S :=
  g_via (fun I X eT => ⟨_, X, eT, st I X⟩) k
theorem g_iload_n (pc' : Nat) {k : Fin 4} {v : Int32} (hd : decode M.2.1 pc = .ok (.iload_n k, 1)) (hl : L[k.val]? = some (.val (.int v))) (hp : pc + 1 = pc') (kk : Go l Z n0 M R Q h kc ks pc' L (.int v :: S)) : Go l Z n0 M R Q h kc ks pc L (S) := by
  subst hp
  exact g_pure (fun I X t kt => XS.iloadN X.here I.1 rfl (hb I.2.2.1 hd) hl kt) kk
theorem g_iload (pc' : Nat) {k : Nat} {v : Int32} (hd : decode M.2.1 pc = .ok (.iload k, 2)) (hl : L[k]? = some (.val (.int v))) (hp : pc + 2 = pc') (kk : Go l Z n0 M R Q h kc ks pc' L (.int v :: S)) : Go l Z n0 M R Q h kc ks pc L (S) := by
  subst hp
  exact g_pure (fun I X t kt => XS.iload X.here I.1 rfl (hb I.2.2.1 hd) hl kt) kk
theorem g_lload_n (pc' : Nat) {k : Fin 4} {v : Int64} (hd : decode M.2.1 pc = .ok (.lload_n k, 1)) (hl : L[k.val]? = some (.val (.long v))) (hp : pc + 1 = pc') (kk : Go l Z n0 M R Q h kc ks pc' L (.long v :: S)) : Go l Z n0 M R Q h kc ks pc L (S) := by
  subst hp
  exact g_pure (fun I X t kt => XT.lloadN X.here I.1 rfl (hb I.2.2.1 hd) hl kt) kk
theorem g_lload (pc' : Nat) {k : Nat} {v : Int64} (hd : decode M.2.1 pc = .ok (.lload k, 2)) (hl : L[k]? = some (.val (.long v))) (hp : pc + 2 = pc') (kk : Go l Z n0 M R Q h kc ks pc' L (.long v :: S)) : Go l Z n0 M R Q h kc ks pc L (S) := by
  subst hp
  exact g_pure (fun I X t kt => XT.lload X.here I.1 rfl (hb I.2.2.1 hd) hl kt) kk
theorem g_aload_n (pc' : Nat) {k : Fin 4} {v : Value} (hd : decode M.2.1 pc = .ok (.aload_n k, 1)) (hl : L[k.val]? = some (.val v)) (hv : v.isRef = true) (hp : pc + 1 = pc') (kk : Go l Z n0 M R Q h kc ks pc' L (v :: S)) : Go l Z n0 M R Q h kc ks pc L (S) := by
  subst hp
  exact g_pure (fun I X t kt => XS.aloadN X.here I.1 rfl (hb I.2.2.1 hd) hl hv kt) kk
theorem g_aload (pc' : Nat) {k : Nat} {v : Value} (hd : decode M.2.1 pc = .ok (.aload k, 2)) (hl : L[k]? = some (.val v)) (hv : v.isRef = true) (hp : pc + 2 = pc') (kk : Go l Z n0 M R Q h kc ks pc' L (v :: S)) : Go l Z n0 M R Q h kc ks pc L (S) := by
  subst hp
  exact g_pure (fun I X t kt => XS.aload X.here I.1 rfl (hb I.2.2.1 hd) hl hv kt) kk
theorem g_istore_n (pc' : Nat) {k : Fin 4} {x : Int32} (L' : Array Slot) (hd : decode M.2.1 pc = .ok (.istore_n k, 1)) (hl : storeLocals L k.val (.int x) = some L') (hp : pc + 1 = pc') (kk : Go l Z n0 M R Q h kc ks pc' L' (S)) : Go l Z n0 M R Q h kc ks pc L (.int x :: S) := by
  subst hp
  exact g_pure (fun I X t kt => XS.istoreN X.here I.1 rfl (hb I.2.2.1 hd) rfl hl kt) kk
theorem g_istore (pc' : Nat) {k : Nat} {x : Int32} (L' : Array Slot) (hd : decode M.2.1 pc = .ok (.istore k, 2)) (hl : storeLocals L k (.int x) = some L') (hp : pc + 2 = pc') (kk : Go l Z n0 M R Q h kc ks pc' L' (S)) : Go l Z n0 M R Q h kc ks pc L (.int x :: S) := by
  subst hp
  exact g_pure (fun I X t kt => XS.istore X.here I.1 rfl (hb I.2.2.1 hd) rfl hl kt) kk
theorem g_lstore_n (pc' : Nat) {k : Fin 4} {x : Int64} (L' : Array Slot) (hd : decode M.2.1 pc = .ok (.lstore_n k, 1)) (hl : storeLocals L k.val (.long x) = some L') (hp : pc + 1 = pc') (kk : Go l Z n0 M R Q h kc ks pc' L' (S)) : Go l Z n0 M R Q h kc ks pc L (.long x :: S) := by
  subst hp
  exact g_pure (fun I X t kt => XT.lstoreN X.here I.1 rfl (hb I.2.2.1 hd) rfl hl kt) kk
theorem g_lstore (pc' : Nat) {k : Nat} {x : Int64} (L' : Array Slot) (hd : decode M.2.1 pc = .ok (.lstore k, 2)) (hl : storeLocals L k (.long x) = some L') (hp : pc + 2 = pc') (kk : Go l Z n0 M R Q h kc ks pc' L' (S)) : Go l Z n0 M R Q h kc ks pc L (.long x :: S) := by
  subst hp
  exact g_pure (fun I X t kt => XT.lstore X.here I.1 rfl (hb I.2.2.1 hd) rfl hl kt) kk
theorem g_astore_n (pc' : Nat) {k : Fin 4} {x : Value} (L' : Array Slot) (hd : decode M.2.1 pc = .ok (.astore_n k, 1)) (hv : x.isRef = true) (hl : storeLocals L k.val x = some L') (hp : pc + 1 = pc') (kk : Go l Z n0 M R Q h kc ks pc' L' (S)) : Go l Z n0 M R Q h kc ks pc L (x :: S) := by
  subst hp
  exact g_pure (fun I X t kt => XS.astoreN X.here I.1 rfl (hb I.2.2.1 hd) rfl hv hl kt) kk
theorem g_astore (pc' : Nat) {k : Nat} {x : Value} (L' : Array Slot) (hd : decode M.2.1 pc = .ok (.astore k, 2)) (hv : x.isRef = true) (hl : storeLocals L k x = some L') (hp : pc + 2 = pc') (kk : Go l Z n0 M R Q h kc ks pc' L' (S)) : Go l Z n0 M R Q h kc ks pc L (x :: S) := by
  subst hp
  exact g_pure (fun I X t kt => XS.astore X.here I.1 rfl (hb I.2.2.1 hd) rfl hv hl kt) kk
theorem g_iinc (pc' : Nat) {k : Nat} {cst : Int} {x : Int32} (L' : Array Slot) (hd : decode M.2.1 pc = .ok (.iinc k cst, 3)) (hl : L[k]? = some (.val (.int x))) (hl2 : storeLocals L k (.int (x + Int32.ofInt cst)) = some L') (hp : pc + 3 = pc') (kk : Go l Z n0 M R Q h kc ks pc' L' (S)) : Go l Z n0 M R Q h kc ks pc L (S) := by
  subst hp
  exact g_pure (fun I X t kt => XS.iinc X.here I.1 rfl (hb I.2.2.1 hd) hl hl2 kt) kk
theorem g_iconst (pc' : Nat) {i : Int} (w : Int32) (hd : decode M.2.1 pc = .ok (.iconst i, 1)) (hv : w = Int32.ofInt i) (hp : pc + 1 = pc') (kk : Go l Z n0 M R Q h kc ks pc' L (.int w :: S)) : Go l Z n0 M R Q h kc ks pc L (S) := by
  subst hp
  exact g_pure (fun I X t kt => XS.iconst X.here I.1 rfl (hb I.2.2.1 hd) (hv ▸ kt)) kk
theorem g_bipush (pc' : Nat) {i : Int} (w : Int32) (hd : decode M.2.1 pc = .ok (.bipush i, 2)) (hv : w = (Int8.ofInt i).toInt32) (hp : pc + 2 = pc') (kk : Go l Z n0 M R Q h kc ks pc' L (.int w :: S)) : Go l Z n0 M R Q h kc ks pc L (S) := by
  subst hp
  exact g_pure (fun I X t kt => XS.bipush X.here I.1 rfl (hb I.2.2.1 hd) (hv ▸ kt)) kk
theorem g_sipush (pc' : Nat) {i : Int} (w : Int32) (hd : decode M.2.1 pc = .ok (.sipush i, 3)) (hv : w = (Int16.ofInt i).toInt32) (hp : pc + 3 = pc') (kk : Go l Z n0 M R Q h kc ks pc' L (.int w :: S)) : Go l Z n0 M R Q h kc ks pc L (S) := by
  subst hp
  exact g_pure (fun I X t kt => XS.sipush X.here I.1 rfl (hb I.2.2.1 hd) (hv ▸ kt)) kk
theorem g_lconst (pc' : Nat) {k : Fin 2} (w : Int64) (hd : decode M.2.1 pc = .ok (.lconst k, 1)) (hv : w = Int64.ofNat k) (hp : pc + 1 = pc') (kk : Go l Z n0 M R Q h kc ks pc' L (.long w :: S)) : Go l Z n0 M R Q h kc ks pc L (S) := by
  subst hp
  exact g_pure (fun I X t kt => XT.lconst X.here I.1 rfl (hb I.2.2.1 hd) (hv ▸ kt)) kk
theorem g_aconst_null (pc' : Nat)  (hd : decode M.2.1 pc = .ok (.aconst_null, 1))  (hp : pc + 1 = pc') (kk : Go l Z n0 M R Q h kc ks pc' L (.null :: S)) : Go l Z n0 M R Q h kc ks pc L (S) := by
  subst hp
  exact g_pure (fun I X t kt => XS.aconstNull X.here I.1 rfl (hb I.2.2.1 hd) kt) kk
theorem g_ldcI (pc' : Nat) {index : Nat} {w : Int32} (hd : decode M.2.1 pc = .ok (.ldc index, 2)) (hw : (Jvm.Cond.constant M.1.cls index w).before a0 Z = true) (hp : pc + 2 = pc') (kk : Go l Z n0 M R Q h kc ks pc' L (.int w :: S)) : Go l Z n0 M R Q h kc ks pc L (S) := by
  subst hp
  exact g_pure (fun I X t kt => X.ldcI I.1 I.2.2.2.2.1 (mvT I.2.1 hw) rfl (hb I.2.2.1 hd) kt) kk
theorem g_ldcWI (pc' : Nat) {index : Nat} {w : Int32} (hd : decode M.2.1 pc = .ok (.ldc_w index, 3)) (hw : (Jvm.Cond.constant M.1.cls index w).before a0 Z = true) (hp : pc + 3 = pc') (kk : Go l Z n0 M R Q h kc ks pc' L (.int w :: S)) : Go l Z n0 M R Q h kc ks pc L (S) := by
  subst hp
  exact g_pure (fun I X t kt => X.ldcWI I.1 I.2.2.2.2.1 (mvT I.2.1 hw) rfl (hb I.2.2.1 hd) kt) kk
theorem g_ldc2J (pc' : Nat) {index : Nat} {w : Int64} (hd : decode M.2.1 pc = .ok (.ldc2_w index, 3)) (hw : (Jvm.Cond.constantLong M.1.cls index w).before a0 Z = true) (hp : pc + 3 = pc') (kk : Go l Z n0 M R Q h kc ks pc' L (.long w :: S)) : Go l Z n0 M R Q h kc ks pc L (S) := by
  subst hp
  exact g_pure (fun I X t kt => X.ldc2J I.1 I.2.2.2.2.1 (mvT I.2.1 hw) rfl (hb I.2.2.1 hd) kt) kk
theorem g_iadd (pc' : Nat) {x y : Int32} (hd : decode M.2.1 pc = .ok (.iadd, 1))  (hp : pc + 1 = pc') (kk : Go l Z n0 M R Q h kc ks pc' L (.int (x + y) :: S)) : Go l Z n0 M R Q h kc ks pc L (.int y :: .int x :: S) := by
  subst hp
  exact g_pure (fun I X t kt => XS.iadd X.here I.1 rfl (hb I.2.2.1 hd) rfl kt) kk
theorem g_isub (pc' : Nat) {x y : Int32} (hd : decode M.2.1 pc = .ok (.isub, 1))  (hp : pc + 1 = pc') (kk : Go l Z n0 M R Q h kc ks pc' L (.int (x - y) :: S)) : Go l Z n0 M R Q h kc ks pc L (.int y :: .int x :: S) := by
  subst hp
  exact g_pure (fun I X t kt => XS.isub X.here I.1 rfl (hb I.2.2.1 hd) rfl kt) kk
theorem g_imul (pc' : Nat) {x y : Int32} (hd : decode M.2.1 pc = .ok (.imul, 1))  (hp : pc + 1 = pc') (kk : Go l Z n0 M R Q h kc ks pc' L (.int (x * y) :: S)) : Go l Z n0 M R Q h kc ks pc L (.int y :: .int x :: S) := by
  subst hp
  exact g_pure (fun I X t kt => XS.imul X.here I.1 rfl (hb I.2.2.1 hd) rfl kt) kk
theorem g_iand (pc' : Nat) {x y : Int32} (hd : decode M.2.1 pc = .ok (.iand, 1))  (hp : pc + 1 = pc') (kk : Go l Z n0 M R Q h kc ks pc' L (.int (x &&& y) :: S)) : Go l Z n0 M R Q h kc ks pc L (.int y :: .int x :: S) := by
  subst hp
  exact g_pure (fun I X t kt => XS.iand X.here I.1 rfl (hb I.2.2.1 hd) rfl kt) kk
theorem g_ior (pc' : Nat) {x y : Int32} (hd : decode M.2.1 pc = .ok (.ior, 1))  (hp : pc + 1 = pc') (kk : Go l Z n0 M R Q h kc ks pc' L (.int (x ||| y) :: S)) : Go l Z n0 M R Q h kc ks pc L (.int y :: .int x :: S) := by
  subst hp
  exact g_pure (fun I X t kt => XT.ior X.here I.1 rfl (hb I.2.2.1 hd) rfl kt) kk
theorem g_ixor (pc' : Nat) {x y : Int32} (hd : decode M.2.1 pc = .ok (.ixor, 1))  (hp : pc + 1 = pc') (kk : Go l Z n0 M R Q h kc ks pc' L (.int (x ^^^ y) :: S)) : Go l Z n0 M R Q h kc ks pc L (.int y :: .int x :: S) := by
  subst hp
  exact g_pure (fun I X t kt => XT.ixor X.here I.1 rfl (hb I.2.2.1 hd) rfl kt) kk
theorem g_ishl (pc' : Nat) {x y : Int32} (hd : decode M.2.1 pc = .ok (.ishl, 1))  (hp : pc + 1 = pc') (kk : Go l Z n0 M R Q h kc ks pc' L (.int (x <<< (y &&& 31)) :: S)) : Go l Z n0 M R Q h kc ks pc L (.int y :: .int x :: S) := by
  subst hp
  exact g_pure (fun I X t kt => XT.ishl X.here I.1 rfl (hb I.2.2.1 hd) rfl kt) kk
theorem g_ishr (pc' : Nat) {x y : Int32} (hd : decode M.2.1 pc = .ok (.ishr, 1))  (hp : pc + 1 = pc') (kk : Go l Z n0 M R Q h kc ks pc' L (.int (x >>> (y &&& 31)) :: S)) : Go l Z n0 M R Q h kc ks pc L (.int y :: .int x :: S) := by
  subst hp
  exact g_pure (fun I X t kt => XT.ishr X.here I.1 rfl (hb I.2.2.1 hd) rfl kt) kk
theorem g_iushr (pc' : Nat) {x y : Int32} (hd : decode M.2.1 pc = .ok (.iushr, 1))  (hp : pc + 1 = pc') (kk : Go l Z n0 M R Q h kc ks pc' L (.int (XT.ushr x y) :: S)) : Go l Z n0 M R Q h kc ks pc L (.int y :: .int x :: S) := by
  subst hp
  exact g_pure (fun I X t kt => XT.iushr X.here I.1 rfl (hb I.2.2.1 hd) rfl kt) kk
theorem g_idiv (pc' : Nat) {x y : Int32} (hd : decode M.2.1 pc = .ok (.idiv, 1)) (hy : y ≠ 0) (hp : pc + 1 = pc') (kk : Go l Z n0 M R Q h kc ks pc' L (.int (x / y) :: S)) : Go l Z n0 M R Q h kc ks pc L (.int y :: .int x :: S) := by
  subst hp
  exact g_pure (fun I X t kt => XS.idiv X.here I.1 rfl (hb I.2.2.1 hd) rfl hy kt) kk
theorem g_irem (pc' : Nat) {x y : Int32} (hd : decode M.2.1 pc = .ok (.irem, 1)) (hy : y ≠ 0) (hp : pc + 1 = pc') (kk : Go l Z n0 M R Q h kc ks pc' L (.int (x % y) :: S)) : Go l Z n0 M R Q h kc ks pc L (.int y :: .int x :: S) := by
  subst hp
  exact g_pure (fun I X t kt => iremM X I.1 rfl (hb I.2.2.1 hd) rfl hy kt) kk
theorem g_ineg (pc' : Nat) {x : Int32} (hd : decode M.2.1 pc = .ok (.ineg, 1))  (hp : pc + 1 = pc') (kk : Go l Z n0 M R Q h kc ks pc' L (.int (-x) :: S)) : Go l Z n0 M R Q h kc ks pc L (.int x :: S) := by
  subst hp
  exact g_pure (fun I X t kt => XS.ineg X.here I.1 rfl (hb I.2.2.1 hd) rfl kt) kk
theorem g_ladd (pc' : Nat) {x y : Int64} (hd : decode M.2.1 pc = .ok (.ladd, 1))  (hp : pc + 1 = pc') (kk : Go l Z n0 M R Q h kc ks pc' L (.long (x + y) :: S)) : Go l Z n0 M R Q h kc ks pc L (.long y :: .long x :: S) := by
  subst hp
  exact g_pure (fun I X t kt => XT.ladd X.here I.1 rfl (hb I.2.2.1 hd) rfl kt) kk
theorem g_lsub (pc' : Nat) {x y : Int64} (hd : decode M.2.1 pc = .ok (.lsub, 1))  (hp : pc + 1 = pc') (kk : Go l Z n0 M R Q h kc ks pc' L (.long (x - y) :: S)) : Go l Z n0 M R Q h kc ks pc L (.long y :: .long x :: S) := by
  subst hp
  exact g_pure (fun I X t kt => XT.lsub X.here I.1 rfl (hb I.2.2.1 hd) rfl kt) kk
theorem g_lmul (pc' : Nat) {x y : Int64} (hd : decode M.2.1 pc = .ok (.lmul, 1))  (hp : pc + 1 = pc') (kk : Go l Z n0 M R Q h kc ks pc' L (.long (x * y) :: S)) : Go l Z n0 M R Q h kc ks pc L (.long y :: .long x :: S) := by
  subst hp
  exact g_pure (fun I X t kt => XT.lmul X.here I.1 rfl (hb I.2.2.1 hd) rfl kt) kk
theorem g_land (pc' : Nat) {x y : Int64} (hd : decode M.2.1 pc = .ok (.land, 1))  (hp : pc + 1 = pc') (kk : Go l Z n0 M R Q h kc ks pc' L (.long (x &&& y) :: S)) : Go l Z n0 M R Q h kc ks pc L (.long y :: .long x :: S) := by
  subst hp
  exact g_pure (fun I X t kt => XT.land X.here I.1 rfl (hb I.2.2.1 hd) rfl kt) kk
theorem g_lor (pc' : Nat) {x y : Int64} (hd : decode M.2.1 pc = .ok (.lor, 1))  (hp : pc + 1 = pc') (kk : Go l Z n0 M R Q h kc ks pc' L (.long (x ||| y) :: S)) : Go l Z n0 M R Q h kc ks pc L (.long y :: .long x :: S) := by
  subst hp
  exact g_pure (fun I X t kt => XT.lor X.here I.1 rfl (hb I.2.2.1 hd) rfl kt) kk
theorem g_lxor (pc' : Nat) {x y : Int64} (hd : decode M.2.1 pc = .ok (.lxor, 1))  (hp : pc + 1 = pc') (kk : Go l Z n0 M R Q h kc ks pc' L (.long (x ^^^ y) :: S)) : Go l Z n0 M R Q h kc ks pc L (.long y :: .long x :: S) := by
  subst hp
  exact g_pure (fun I X t kt => XT.lxor X.here I.1 rfl (hb I.2.2.1 hd) rfl kt) kk
theorem g_lrem (pc' : Nat) {x y : Int64} (hd : decode M.2.1 pc = .ok (.lrem, 1)) (hy : y ≠ 0) (hp : pc + 1 = pc') (kk : Go l Z n0 M R Q h kc ks pc' L (.long (x - (x / y) * y) :: S)) : Go l Z n0 M R Q h kc ks pc L (.long y :: .long x :: S) := by
  subst hp
  exact g_pure (fun I X t kt => XT.lrem X.here I.1 rfl (hb I.2.2.1 hd) rfl hy kt) kk
theorem g_lneg (pc' : Nat) {x : Int64} (hd : decode M.2.1 pc = .ok (.lneg, 1))  (hp : pc + 1 = pc') (kk : Go l Z n0 M R Q h kc ks pc' L (.long (-x) :: S)) : Go l Z n0 M R Q h kc ks pc L (.long x :: S) := by
  subst hp
  exact g_pure (fun I X t kt => XT.lneg X.here I.1 rfl (hb I.2.2.1 hd) rfl kt) kk
theorem g_lshl (pc' : Nat) {x : Int64} {y : Int32} (hd : decode M.2.1 pc = .ok (.lshl, 1))  (hp : pc + 1 = pc') (kk : Go l Z n0 M R Q h kc ks pc' L (.long (x <<< (y.toInt64 &&& 63)) :: S)) : Go l Z n0 M R Q h kc ks pc L (.int y :: .long x :: S) := by
  subst hp
  exact g_pure (fun I X t kt => XT.lshl X.here I.1 rfl (hb I.2.2.1 hd) rfl kt) kk
theorem g_lushr (pc' : Nat) {x : Int64} {y : Int32} (hd : decode M.2.1 pc = .ok (.lushr, 1))  (hp : pc + 1 = pc') (kk : Go l Z n0 M R Q h kc ks pc' L (.long (XT.ushrL x y) :: S)) : Go l Z n0 M R Q h kc ks pc L (.int y :: .long x :: S) := by
  subst hp
  exact g_pure (fun I X t kt => XT.lushr X.here I.1 rfl (hb I.2.2.1 hd) rfl kt) kk
theorem g_i2l (pc' : Nat) {x : Int32} (hd : decode M.2.1 pc = .ok (.i2l, 1))  (hp : pc + 1 = pc') (kk : Go l Z n0 M R Q h kc ks pc' L (.long x.toInt64 :: S)) : Go l Z n0 M R Q h kc ks pc L (.int x :: S) := by
  subst hp
  exact g_pure (fun I X t kt => XT.i2l X.here I.1 rfl (hb I.2.2.1 hd) rfl kt) kk
theorem g_l2i (pc' : Nat) {x : Int64} (hd : decode M.2.1 pc = .ok (.l2i, 1))  (hp : pc + 1 = pc') (kk : Go l Z n0 M R Q h kc ks pc' L (.int x.toInt32 :: S)) : Go l Z n0 M R Q h kc ks pc L (.long x :: S) := by
  subst hp
  exact g_pure (fun I X t kt => XT.l2i X.here I.1 rfl (hb I.2.2.1 hd) rfl kt) kk
theorem g_dload_n (pc' : Nat) {k : Fin 4} {v : UInt64} (hd : decode M.2.1 pc = .ok (.dload_n k, 1)) (hl : L[k.val]? = some (.val (.double v))) (hp : pc + 1 = pc') (kk : Go l Z n0 M R Q h kc ks pc' L (.double v :: S)) : Go l Z n0 M R Q h kc ks pc L (S) := by
  subst hp
  exact g_pure (fun I X t kt => XS.dloadN X.here I.1 rfl (hb I.2.2.1 hd) hl kt) kk
theorem g_ldc2D (pc' : Nat) {index : Nat} {w : UInt64} (hd : decode M.2.1 pc = .ok (.ldc2_w index, 3)) (hw : (Jvm.Cond.constantDouble M.1.cls index w).before a0 Z = true) (hp : pc + 3 = pc') (kk : Go l Z n0 M R Q h kc ks pc' L (.double w :: S)) : Go l Z n0 M R Q h kc ks pc L (S) := by
  subst hp
  exact g_pure (fun I X t kt => X.ldc2DoubleC I.1 I.2.2.2.2.1 (mvT I.2.1 hw) (g := mkF _ pc L S) rfl (hb I.2.2.1 hd) _ kt) kk
theorem g_dup (pc' : Nat) {v : Value} (hd : decode M.2.1 pc = .ok (.dup, 1)) (hv : v.category = 1) (hp : pc + 1 = pc') (kk : Go l Z n0 M R Q h kc ks pc' L (v :: v :: S)) : Go l Z n0 M R Q h kc ks pc L (v :: S) := by
  subst hp
  exact g_pure (fun I X t kt => XS.dup X.here I.1 rfl (hb I.2.2.1 hd) rfl hv kt) kk
theorem g_goto (pc' : Nat) {o : Int} (hd : decode M.2.1 pc = .ok (.goto o, 3)) (hp : (pc : Int) + o = (pc' : Int)) (kk : Go l Z n0 M R Q h kc ks pc' L S) : Go l Z n0 M R Q h kc ks pc L S :=
  g_pure (fun I X t kt => XS.goto X.here I.1 rfl (pc0 := pc) (pc' := pc') rfl (hb I.2.2.1 hd) (by omega) (by omega) kt) kk
theorem g_icmpT (pc' : Nat) {cd : ClassFile.Cond} {o : Int} {x y : Int32} (hd : decode M.2.1 pc = .ok (.if_icmp cd o, 3)) (hc : cP cd x y) (hp : (pc : Int) + o = (pc' : Int)) (kk : Go l Z n0 M R Q h kc ks pc' L S) : Go l Z n0 M R Q h kc ks pc L (.int y :: .int x :: S) :=
  g_pure (fun I X t kt => XS.icmpYes X.here I.1 rfl (pc0 := pc) (pc' := pc') rfl (hb I.2.2.1 hd) rfl (cP_t hc) (by omega) (by omega) kt) kk
theorem g_icmpF (pc' : Nat) {cd : ClassFile.Cond} {o : Int} {x y : Int32} (hd : decode M.2.1 pc = .ok (.if_icmp cd o, 3)) (hc : ¬ cP cd x y) (hp : pc + 3 = pc') (kk : Go l Z n0 M R Q h kc ks pc' L S) : Go l Z n0 M R Q h kc ks pc L (.int y :: .int x :: S) := by
  subst hp
  exact g_pure (fun I X t kt => XS.icmpNo X.here I.1 rfl (hb I.2.2.1 hd) rfl (cP_f hc) kt) kk
theorem g_ifT (pc' : Nat) {cd : ClassFile.Cond} {o : Int} {x : Int32} (hd : decode M.2.1 pc = .ok (.ifCond cd o, 3)) (hc : cP cd x 0) (hp : (pc : Int) + o = (pc' : Int)) (kk : Go l Z n0 M R Q h kc ks pc' L S) : Go l Z n0 M R Q h kc ks pc L (.int x :: S) :=
  g_pure (fun I X t kt => XS.ifYes X.here I.1 rfl (pc0 := pc) (pc' := pc') rfl (hb I.2.2.1 hd) rfl ((if0 cd x).trans (cP_t hc)) (by omega) (by omega) kt) kk
theorem g_ifF (pc' : Nat) {cd : ClassFile.Cond} {o : Int} {x : Int32} (hd : decode M.2.1 pc = .ok (.ifCond cd o, 3)) (hc : ¬ cP cd x 0) (hp : pc + 3 = pc') (kk : Go l Z n0 M R Q h kc ks pc' L S) : Go l Z n0 M R Q h kc ks pc L (.int x :: S) := by
  subst hp
  exact g_pure (fun I X t kt => XS.ifNo X.here I.1 rfl (hb I.2.2.1 hd) rfl ((if0 cd x).trans (cP_f hc)) kt) kk
theorem g_lcmpT (pc' : Nat) {cd : ClassFile.Cond} {o : Int} {x y : Int64} (hd : decode M.2.1 pc = .ok (.lcmp, 1)) (hd2 : decode M.2.1 (pc + 1) = .ok (.ifCond cd o, 3)) (hc : lP cd x y) (hp : ((pc + 1 : Nat) : Int) + o = (pc' : Int)) (kk : Go l Z n0 M R Q h kc ks pc' L S) : Go l Z n0 M R Q h kc ks pc L (.long y :: .long x :: S) :=
  g_pure (fun I X t kt => XT.lcmp X.here I.1 rfl (hb I.2.2.1 hd) rfl (XS.ifYes X.here I.1 rfl (pc0 := pc + 1) (pc' := pc') rfl (hb I.2.2.1 hd2) rfl (lP_t hc) (by omega) (by omega) kt)) kk
theorem g_lcmpF (pc' : Nat) {cd : ClassFile.Cond} {o : Int} {x y : Int64} (hd : decode M.2.1 pc = .ok (.lcmp, 1)) (hd2 : decode M.2.1 (pc + 1) = .ok (.ifCond cd o, 3)) (hc : ¬ lP cd x y) (hp : pc + 4 = pc') (kk : Go l Z n0 M R Q h kc ks pc' L S) : Go l Z n0 M R Q h kc ks pc L (.long y :: .long x :: S) := by
  subst hp
  exact g_pure (fun I X t kt => XT.lcmp X.here I.1 rfl (hb I.2.2.1 hd) rfl (XS.ifNo X.here I.1 rfl (hb I.2.2.1 hd2) rfl (lP_f hc) kt)) kk
theorem g_icmp (pcT pcF : Nat) {cd : ClassFile.Cond} {o : Int} {x y : Int32} (hd : decode M.2.1 pc = .ok (.if_icmp cd o, 3)) (hp : (pc : Int) + o = (pcT : Int)) (hp2 : pc + 3 = pcF) (k1 : cP cd x y → Go l Z n0 M R Q h kc ks pcT L S) (k2 : ¬ cP cd x y → Go l Z n0 M R Q h kc ks pcF L S) : Go l Z n0 M R Q h kc ks pc L (.int y :: .int x :: S) := by
  by_cases q : cP cd x y
  · exact g_icmpT pcT hd q hp (k1 q)
  · exact g_icmpF pcF hd q hp2 (k2 q)
theorem g_ifC (pcT pcF : Nat) {cd : ClassFile.Cond} {o : Int} {x : Int32} (hd : decode M.2.1 pc = .ok (.ifCond cd o, 3)) (hp : (pc : Int) + o = (pcT : Int)) (hp2 : pc + 3 = pcF) (k1 : cP cd x 0 → Go l Z n0 M R Q h kc ks pcT L S) (k2 : ¬ cP cd x 0 → Go l Z n0 M R Q h kc ks pcF L S) : Go l Z n0 M R Q h kc ks pc L (.int x :: S) := by
  by_cases q : cP cd x 0
  · exact g_ifT pcT hd q hp (k1 q)
  · exact g_ifF pcF hd q hp2 (k2 q)
theorem g_lcmp (pcT pcF : Nat) {cd : ClassFile.Cond} {o : Int} {x y : Int64} (hd : decode M.2.1 pc = .ok (.lcmp, 1)) (hd2 : decode M.2.1 (pc + 1) = .ok (.ifCond cd o, 3)) (hp : ((pc + 1 : Nat) : Int) + o = (pcT : Int)) (hp2 : pc + 4 = pcF) (k1 : lP cd x y → Go l Z n0 M R Q h kc ks pcT L S) (k2 : ¬ lP cd x y → Go l Z n0 M R Q h kc ks pcF L S) : Go l Z n0 M R Q h kc ks pc L (.long y :: .long x :: S) := by
  by_cases q : lP cd x y
  · exact g_lcmpT pcT hd hd2 q hp (k1 q)
  · exact g_lcmpF pcF hd hd2 q hp2 (k2 q)
theorem g_nullT (pc' : Nat) {o : Int} (hd : decode M.2.1 pc = .ok (.ifnull o, 3)) (hp : (pc : Int) + o = (pc' : Int)) (kk : Go l Z n0 M R Q h kc ks pc' L S) : Go l Z n0 M R Q h kc ks pc L (.null :: S) :=
  g_pure (fun I X t kt => XS.ifnullYes X.here I.1 rfl (pc0 := pc) (pc' := pc') rfl (hb I.2.2.1 hd) rfl (by omega) (by omega) kt) kk
theorem g_nullF (pc' : Nat) {o : Int} {a : Addr} (hd : decode M.2.1 pc = .ok (.ifnull o, 3)) (hp : pc + 3 = pc') (kk : Go l Z n0 M R Q h kc ks pc' L S) : Go l Z n0 M R Q h kc ks pc L (.ref a :: S) := by
  subst hp
  exact g_pure (fun I X t kt => XS.ifnullNo X.here I.1 rfl (hb I.2.2.1 hd) rfl kt) kk
theorem g_nonnullT (pc' : Nat) {o : Int} {a : Addr} (hd : decode M.2.1 pc = .ok (.ifnonnull o, 3)) (hp : (pc : Int) + o = (pc' : Int)) (kk : Go l Z n0 M R Q h kc ks pc' L S) : Go l Z n0 M R Q h kc ks pc L (.ref a :: S) :=
  g_pure (fun I X t kt => XT.ifnonnullYes X.here I.1 rfl (pc0 := pc) (pc' := pc') rfl (hb I.2.2.1 hd) rfl (by omega) (by omega) kt) kk
theorem g_nonnullF (pc' : Nat) {o : Int} (hd : decode M.2.1 pc = .ok (.ifnonnull o, 3)) (hp : pc + 3 = pc') (kk : Go l Z n0 M R Q h kc ks pc' L S) : Go l Z n0 M R Q h kc ks pc L (.null :: S) := by
  subst hp
  exact g_pure (fun I X t kt => XT.ifnonnullNo X.here I.1 rfl (hb I.2.2.1 hd) rfl kt) kk
-- RETURNS
theorem g_ret {w : Value} {t : FieldType} {i : Instr} (hd : decode M.2.1 pc = .ok (i, 1)) (hret : M.2.2.2 = some t) (hn : narrow t w = w)
    (hi : (i = .ireturn ∧ (t = .int ∨ t = .boolean ∨ t = .byte ∨ t = .char ∨ t = .short) ∧ ∃ z, w = .int z) ∨ (i = .lreturn ∧ t = .long ∧ ∃ z, w = .long z) ∨ (i = .dreturn ∧ t = .double ∧ ∃ z, w = .double z) ∨ (i = .freturn ∧ t = .float ∧ ∃ z, w = .float z) ∨ (i = .areturn ∧ t.isReference = true ∧ w.isRef = true))
    (hc : kc ≤ R.cells) (hs : ks ≤ R.slots) (hq : Q (some w) h) : Go l Z n0 M R Q h kc ks pc L (w :: S) := by
  intro p e s m args below meth c T locs I X eT N
  obtain ⟨hx, hZ, hby, hml, hown, hnm, hrt, hlk, hn0⟩ := I
  obtain ⟨fs, hr, hrun, hended, hW, hsame⟩ := X.leave (v := some w) (fun q => by rw [hrt, hret] at q; cases q) hlk
  refine ⟨_, _, retOut X hx (hrt.trans hret) hn hi (hb hby hd) hr, hrun, hended, _, _, rfl, ⟨?_, N⟩, ⟨_, rfl⟩, hW, hsame.mono hc hs⟩
  show Q (some w) T.heap
  rw [eT]
  exact hq
theorem g_retI {z : Int32} (hd : decode M.2.1 pc = .ok (.ireturn, 1)) (hret : M.2.2.2 = some .int) (hc : kc ≤ R.cells) (hs : ks ≤ R.slots) (hq : Q (some (.int z)) h) : Go l Z n0 M R Q h kc ks pc L (.int z :: S) :=
  g_ret hd hret rfl (Or.inl ⟨rfl, Or.inl rfl, _, rfl⟩) hc hs hq
theorem g_retZ {z : Int32} (hd : decode M.2.1 pc = .ok (.ireturn, 1)) (hret : M.2.2.2 = some .boolean) (hn : narrow .boolean (.int z) = .int z) (hc : kc ≤ R.cells) (hs : ks ≤ R.slots) (hq : Q (some (.int z)) h) : Go l Z n0 M R Q h kc ks pc L (.int z :: S) :=
  g_ret hd hret hn (Or.inl ⟨rfl, Or.inr (Or.inl rfl), _, rfl⟩) hc hs hq
theorem g_retJ {z : Int64} (hd : decode M.2.1 pc = .ok (.lreturn, 1)) (hret : M.2.2.2 = some .long) (hc : kc ≤ R.cells) (hs : ks ≤ R.slots) (hq : Q (some (.long z)) h) : Go l Z n0 M R Q h kc ks pc L (.long z :: S) :=
  g_ret hd hret rfl (Or.inr (Or.inl ⟨rfl, rfl, _, rfl⟩)) hc hs hq
theorem g_retV (hd : decode M.2.1 pc = .ok (.return_, 1)) (hret : M.2.2.2 = none) (hc : kc ≤ R.cells) (hs : ks ≤ R.slots) (hq : Q none h) : Go l Z n0 M R Q h kc ks pc L [] := by
  intro p e s m args below meth c T locs I X eT N
  obtain ⟨hx, hZ, hby, hml, hown, hnm, hrt, hlk, hn0⟩ := I
  obtain ⟨fs, hr, hrun, hended, hW, hsame⟩ := X.leave (v := none) (fun _ => rfl) hlk
  refine ⟨_, _, X.returnOut hx (hrt.trans hret) (hb hby hd) hr, hrun, hended, _, _, rfl, ⟨?_, N⟩, ⟨_, rfl⟩, hW, hsame.mono hc hs⟩
  show Q none T.heap
  rw [eT]
  exact hq
-- ENTRY
theorem con_intro {as' : Array Value} {h0 : Heap} {rm : Room} (hpl : plainFor M.1 = true) (L : Array Slot) (hL : ∀ m, entryFrame m as' M.2.2.1 = mkF m 0 L []) (body : n0 ≤ h0.size → Go l Z n0 M rm Q h0 0 0 0 L []) : Con l Z n0 M rm as' h0 Q := by
  intro Z0 ws
  refine MetFree.of_bodySF hpl hisR ?_
  intro p e s m args below meth c s₁ Bd hml0 hP hK
  obtain ⟨rfl, hZ, hh⟩ := hP
  have e0 : s₁.heap = h0 := by rw [← hh, Bd.state]; rfl
  have X0 : Stand p l e rm s m args below meth c s₁ [] 0 0 := Stand.of_body Bd
  obtain ⟨s₂, o, h1, r⟩ := body Z0 p e s m args below meth c s₁ [] ⟨Bd.exec, hZ, Bd.bytes, hml0, findClass_of_methodNamed Bd.named, (name_of_methodNamed Bd.named Bd.method).1, Bd.returns, Bd.notSynchronized, by rw [hh]; exact Z0⟩ X0 e0 (Fr.nil n0)
  exact ⟨s₂, o, castTop (hL m) h1, r⟩
-- HEAP
theorem g_getF (pc' : Nat) {index : Nat} {O n d : String} {a : Addr} {v : Value} (hd : decode M.2.1 pc = .ok (.getfield index, 3)) (w : (Jvm.Cond.fieldLink M.1.cls index O n d).before a0 Z = true) (F : Fld Z h a O n d v) (hp : pc + 3 = pc') (kk : Go l Z n0 M R Q h kc ks pc' L (v :: S)) : Go l Z n0 M R Q h kc ks pc L (.ref a :: S) := by
  subst hp
  exact g_via (fun I X eT => getF X I.1 I.2.1 I.2.2.2.2.1 (host := "") (Or.inl w) Via.refl eT F (g := mkF _ pc L (.ref a :: S)) rfl rfl (hb I.2.2.1 hd)) kk
theorem g_ex {pc' : Nat} {L' : Array Slot} {S' : List Value} {kc' ks' : Nat} {P : Heap → Prop}
    (st : ∀ {p : Program} {e : Env} {s : State} {m : MethodId} {args : Array Value} {below : List Frame} {meth : Method} {c : Code} {T : State} {locs : List Loc}, Inv Z n0 M p s m meth c → Stand p l e R s m args below meth c T locs kc ks → T.heap = h → Fr n0 locs →
      ∃ T' h' locs', Stand p l e R s m args below meth c T' locs' kc' ks' ∧ T'.heap = h' ∧ Fr n0 locs' ∧ P h' ∧ ∀ target, Steps p.tables e below (T'.setTop (mkF m pc' L' S')) target → Steps p.tables e below (T.setTop (mkF m pc L S)) target)
    (k : ∀ h', P h' → Go l Z n0 M R Q h' kc' ks' pc' L' S') : Go l Z n0 M R Q h kc ks pc L S := by
  intro p e s m args below meth c T locs I X eT N
  obtain ⟨T', h', locs', X', eT', N', hP, st'⟩ := st I X eT N
  obtain ⟨s₂, o, h1, r⟩ := k h' hP p e s m args below meth c T' locs' I X' eT' N'
  exact ⟨s₂, o, st' _ h1, r⟩
theorem g_sz (kk : n0 ≤ h.size → Go l Z n0 M R Q h kc ks pc L S) : Go l Z n0 M R Q h kc ks pc L S := by
  intro p e s m args below meth c T locs I X eT N
  have q : n0 ≤ h.size := by
    rw [← eT]
    exact Nat.le_trans I.2.2.2.2.2.2.2.2 X.same.2.1
  exact kk q p e s m args below meth c T locs I X eT N
theorem g_putF (pc' : Nat) {index kk' : Nat} {O n d C : String} {a : Addr} {v old : Value} {ty : FieldType} (hd : decode M.2.1 pc = .ok (.putfield index, 3)) (w : (Jvm.Cond.fieldLink M.1.cls index O n d).before a0 Z = true) (F : Fld Z h a O n d old) (E : Exa Z h a C)
    (Lw : (Jvm.Cond.lays C O n d).before a0 Z = true ∨ ((Jvm.Cond.laysFinal C O n d).before a0 Z = true ∧ M.1.cls = O ∧ M.1.name = "<init>")) (wi : (Jvm.Cond.instantiable C kk').before a0 Z = true) (hty : parseFieldDescriptor d = some ty) (hn : narrow ty v = v) (hf : fits ty v = true) (ga : n0 ≤ a) (hp : pc + 3 = pc')
    (kk : ∀ h', Wr h h' a (Jvm.RoadKit.slotOf Z O n d) v → Go l Z n0 M R Q h' kc ks pc' L S) : Go l Z n0 M R Q h kc ks pc L (v :: .ref a :: S) := by
  subst hp
  refine g_ex (P := fun h' => Wr h h' a (Jvm.RoadKit.slotOf Z O n d) v) (fun I X eT N => ?_) kk
  obtain ⟨T', h', X', e', W', st⟩ := putF X I.1 I.2.1 I.2.2.2.2.1 (host := "") (Or.inl w) Via.refl eT F E (Lw.imp id (fun q => ⟨q.1, q.2.1, I.2.2.2.2.2.1.trans q.2.2⟩)) wi hty hn hf (g := mkF _ pc L (v :: .ref a :: S)) rfl rfl (hb I.2.2.1 hd)
  exact ⟨T', h', _, X', e', Fr.snoc X' N ga, W', st⟩
theorem g_new (pc' : Nat) {index n : Nat} {C : String} (hd : decode M.2.1 pc = .ok (.new index, 3)) (w : (Jvm.Cond.classLink M.1.cls index C).before a0 Z = true) (wi : (Jvm.Cond.instantiable C n).before a0 Z = true) (wz : (Jvm.Cond.initialized C).before a0 Z = true) (hc : kc + 1 ≤ R.cells) (hs : ks + n ≤ R.slots) (hp : pc + 3 = pc')
    (kk : ∀ h', Ext h h' → Exa Z h' h.size C → (∀ {O nm d : String} {ty : FieldType}, Laid Z a0 C O nm d → parseFieldDescriptor d = some ty → Fld Z h' h.size O nm d (defaultValue ty)) → Go l Z n0 M R Q h' (kc + 1) (ks + n) pc' L (.ref h.size :: S)) : Go l Z n0 M R Q h kc ks pc L S := by
  subst hp
  refine g_ex (P := fun h' => Ext h h' ∧ Exa Z h' h.size C ∧ (∀ {O nm d : String} {ty : FieldType}, Laid Z a0 C O nm d → parseFieldDescriptor d = some ty → Fld Z h' h.size O nm d (defaultValue ty))) (fun I X eT N => ?_) (fun h' q => kk h' q.1 q.2.1 q.2.2)
  obtain ⟨T', h', X', e', E', A', D', -, st⟩ := newO X I.1 I.2.1 I.2.2.2.2.1 w wi wz eT (g := mkF _ pc L S) rfl (hb I.2.2.1 hd) hc hs
  exact ⟨T', h', _, X', e', N, ⟨E', A', D'⟩, st⟩
theorem g_init (pc' : Nat) {idx : Nat} {a : Addr} (hd : decode M.2.1 pc = .ok (.invokespecial idx, 3)) (w1 : (Jvm.Cond.methodLink M.1.cls idx Lib.objectInit).before a0 Z = true) (w2 : (Jvm.Cond.instanceMethod Lib.objectInit).before a0 Z = true) (w3 : (Jvm.Cond.code Lib.objectInit ⟨#[0xb1]⟩ 1 none).before a0 Z = true)
    (hsz : L.size = M.2.2.1) (hf : 1 ≤ R.frames) (hl : (S.map fun v => v.category).sum + 12 ≤ R.locals) (hp : pc + 3 = pc') (kk : Go l Z n0 M R Q h kc ks pc' L S) : Go l Z n0 M R Q h kc ks pc L (.ref a :: S) := by
  subst hp
  exact g_via (fun I X eT => initO X I.1 I.2.1 I.2.2.2.2.1 w1 w2 w3 eT (g := mkF _ pc L (.ref a :: S)) rfl (hsz.trans I.2.2.2.1.symm) rfl (hb I.2.2.1 hd) hf (W := (S.map fun v => v.category).sum) (by show 2 * 0 + _ ≤ _; omega) hl) kk
theorem g_mkA (pc' : Nat) {aty : ArrayType} {ty : FieldType} {n : Int32} (hd : decode M.2.1 pc = .ok (.newarray aty, 2)) (w : (Jvm.Cond.arrayClass ty).before a0 Z = true) (ht : newarray.typeOf aty = ty) (hn : ¬ n < 0) (cap : Nat) (hcap : n.toNatClampNeg ≤ cap) (hb8 : cap * 8 ≤ 536870912) (hc : kc + 1 ≤ R.cells) (hs : ks + cap ≤ R.slots) (hp : pc + 2 = pc')
    (kk : ∀ h' cA, Ext h h' → Arr Z h' h.size (newA cA ty n) ty → Go l Z n0 M R Q h' (kc + 1) (ks + cap) pc' L (.ref h.size :: S)) : Go l Z n0 M R Q h kc ks pc L (.int n :: S) := by
  subst hp ht
  refine g_ex (P := fun h' => ∃ cA, Ext h h' ∧ Arr Z h' h.size (newA cA (newarray.typeOf aty) n) (newarray.typeOf aty)) (fun I X eT N => ?_) (fun h' q => q.elim fun cA q => kk h' cA q.1 q.2)
  obtain ⟨T', h', cA, X', e', E', A', st⟩ := newP X I.1 I.2.1 w eT (g := mkF _ pc L (.int n :: S)) rfl (hb I.2.2.1 hd) rfl hn hcap hb8 hc hs
  exact ⟨T', h', _, X', e', N, ⟨cA, E', A'⟩, st⟩
-- ARRAYS, by the list of their values
def Ary (Z : State) (h : Heap) (a : Addr) (ty : FieldType) (vs : List Value) : Prop := ∃ c : Cell, Arr Z h a c ty ∧ c.slots = vs.toArray ∧ vs.length < 2147483648
theorem Ary.lt {a : Addr} {ty : FieldType} {vs : List Value} (A : Ary Z h a ty vs) : a < h.size := A.elim fun c q => q.1.lt
theorem Ary.ext {h' : Heap} {a : Addr} {ty : FieldType} {vs : List Value} (A : Ary Z h a ty vs) (E : Ext h h') : Ary Z h' a ty vs := A.elim fun c q => ⟨c, q.1.ext E, q.2⟩
theorem Ary.other {h' : Heap} {a b : Addr} {sl : Nat} {v : Value} {ty : FieldType} {vs : List Value} (A : Ary Z h a ty vs) (W : Wr h h' b sl v) (q : a ≠ b) : Ary Z h' a ty vs := A.elim fun c r => ⟨c, r.1.other W q, r.2⟩
theorem Ary.keep {h' : Heap} {a : Addr} {ws : List Addr} {ty : FieldType} {vs : List Value} (A : Ary Z h a ty vs) (K : Keep h h' ws) (q : a ∉ ws) : Ary Z h' a ty vs := A.elim fun c r => ⟨c, ⟨K.2.1 a c r.1.1 q, r.1.2⟩, r.2⟩
theorem Ary.set {h' : Heap} {a : Addr} {ty : FieldType} {vs : List Value} {i : Nat} {v : Value} (A : Ary Z h a ty vs) (W : Wr h h' a i v) : Ary Z h' a ty (vs.set i v) := by
  obtain ⟨c, r, e, hl⟩ := A
  refine ⟨_, r.same W, ?_, by simpa using hl⟩
  show c.slots.setIfInBounds i v = _
  rw [e]
  simp
theorem Ary.fresh {a : Addr} {ty : FieldType} {cA : ClassId} {n : Int32} (A : Arr Z h a (newA cA ty n) ty) (k : Nat) (hk : n.toInt = (k : Int)) : Ary Z h a ty (List.replicate k (defaultValue ty)) := by
  have e : n.toNatClampNeg = k := by
    show n.toInt.toNat = k
    omega
  refine ⟨_, A, ?_, ?_⟩
  · show Array.replicate n.toNatClampNeg (defaultValue ty) = _
    rw [e]; simp
  · have := n.toInt_lt
    rw [List.length_replicate]; omega
theorem ix_in {a : Addr} {c : Cell} {vs : List Value} {j : Int32} {i : Nat} (e : c.slots = vs.toArray) (hj : j.toInt = (i : Int)) (hi : i < vs.length) : (¬ (j < 0 ∨ c.slots.size ≤ j.toNatClampNeg)) ∧ j.toNatClampNeg = i := by
  have e2 : j.toNatClampNeg = i := by
    show j.toInt.toNat = i
    omega
  refine ⟨?_, e2⟩
  rw [e2, e, Int32.lt_iff_toInt_lt]
  have : (0 : Int32).toInt = 0 := rfl
  have : vs.toArray.size = vs.length := by simp
  omega
theorem g_aloadI (pc' : Nat) {a : Addr} {vs : List Value} {j : Int32} (i : Nat) {v : Value} (hd : decode M.2.1 pc = .ok (.iaload, 1)) (A : Ary Z h a .int vs) (hj : j.toInt = (i : Int)) (hv : vs[i]? = some v) (hp : pc + 1 = pc') (kk : Go l Z n0 M R Q h kc ks pc' L (v :: S)) : Go l Z n0 M R Q h kc ks pc L (.int j :: .ref a :: S) := by
  subst hp
  obtain ⟨c, Ar, e, hl⟩ := A
  obtain ⟨q1, q2⟩ := ix_in (a := a) e hj (List.getElem?_eq_some_iff.mp hv).1
  refine g_via (fun I X eT => ⟨_, X, eT, fun t kt => X.iaload I.1 (cell := c) (v := v) (by rw [eT]; exact Ar.1) (State.isArrayOf_alike I.2.1.alike Ar.2.1) Ar.2.2 q1 (by rw [q2, e]; simpa using hv) (g := mkF _ pc L (.int j :: .ref a :: S)) rfl rfl (hb I.2.2.1 hd) t kt⟩) kk
theorem g_aloadJ (pc' : Nat) {a : Addr} {vs : List Value} {j : Int32} (i : Nat) {v : Value} (hd : decode M.2.1 pc = .ok (.laload, 1)) (A : Ary Z h a .long vs) (hj : j.toInt = (i : Int)) (hv : vs[i]? = some v) (hp : pc + 1 = pc') (kk : Go l Z n0 M R Q h kc ks pc' L (v :: S)) : Go l Z n0 M R Q h kc ks pc L (.int j :: .ref a :: S) := by
  subst hp
  obtain ⟨c, Ar, e, hl⟩ := A
  obtain ⟨q1, q2⟩ := ix_in (a := a) e hj (List.getElem?_eq_some_iff.mp hv).1
  refine g_via (fun I X eT => ⟨_, X, eT, fun t kt => X.laload I.1 (cell := c) (v := v) (by rw [eT]; exact Ar.1) (State.isArrayOf_alike I.2.1.alike Ar.2.1) Ar.2.2 q1 (by rw [q2, e]; simpa using hv) (g := mkF _ pc L (.int j :: .ref a :: S)) rfl rfl (hb I.2.2.1 hd) t kt⟩) kk
theorem g_alen (pc' : Nat) {a : Addr} {ty : FieldType} {vs : List Value} (w : Int32) (hd : decode M.2.1 pc = .ok (.arraylength, 1)) (A : Ary Z h a ty vs) (hw : w = Int32.ofNat vs.length) (hp : pc + 1 = pc') (kk : Go l Z n0 M R Q h kc ks pc' L (.int w :: S)) : Go l Z n0 M R Q h kc ks pc L (.ref a :: S) := by
  subst hp hw
  obtain ⟨c, Ar, e, hl⟩ := A
  have e2 : c.slots.size.toInt32 = Int32.ofNat vs.length := by rw [e]; simp [Nat.toInt32]
  refine g_via (fun I X eT => ⟨_, X, eT, fun t kt => X.arraylength I.1 (cell := c) (by rw [eT]; exact Ar.1) (State.isArrayOf_alike I.2.1.alike Ar.2.1) (g := mkF _ pc L (.ref a :: S)) rfl rfl (hb I.2.2.1 hd) t (by rw [e2]; exact kt)⟩) kk
theorem g_astoreI (pc' : Nat) {a : Addr} {vs : List Value} {j x : Int32} (i : Nat) (hd : decode M.2.1 pc = .ok (.iastore, 1)) (A : Ary Z h a .int vs) (hj : j.toInt = (i : Int)) (hi : i < vs.length) (ga : n0 ≤ a) (hp : pc + 1 = pc')
    (kk : ∀ h', Wr h h' a i (.int x) → Go l Z n0 M R Q h' kc ks pc' L S) : Go l Z n0 M R Q h kc ks pc L (.int x :: .int j :: .ref a :: S) := by
  subst hp
  obtain ⟨c, Ar, e, hl⟩ := A
  obtain ⟨q1, q2⟩ := ix_in (a := a) e hj hi
  refine g_ex (P := fun h' => Wr h h' a i (.int x)) (fun I X eT N => ?_) kk
  obtain ⟨T', h', X', e', W', st⟩ := stI X I.1 I.2.1 eT Ar (x := x) q1 (g := mkF _ pc L (.int x :: .int j :: .ref a :: S)) rfl rfl (hb I.2.2.1 hd)
  exact ⟨T', h', _, X', e', Fr.snoc X' N ga, q2 ▸ W', st⟩
theorem g_astoreJ (pc' : Nat) {a : Addr} {vs : List Value} {j : Int32} {x : Int64} (i : Nat) (hd : decode M.2.1 pc = .ok (.lastore, 1)) (A : Ary Z h a .long vs) (hj : j.toInt = (i : Int)) (hi : i < vs.length) (ga : n0 ≤ a) (hp : pc + 1 = pc')
    (kk : ∀ h', Wr h h' a i (.long x) → Go l Z n0 M R Q h' kc ks pc' L S) : Go l Z n0 M R Q h kc ks pc L (.long x :: .int j :: .ref a :: S) := by
  subst hp
  obtain ⟨c, Ar, e, hl⟩ := A
  obtain ⟨q1, q2⟩ := ix_in (a := a) e hj hi
  refine g_ex (P := fun h' => Wr h h' a i (.long x)) (fun I X eT N => ?_) kk
  obtain ⟨T', h', X', e', W', st⟩ := stJ X I.1 I.2.1 eT Ar (x := x) q1 (g := mkF _ pc L (.long x :: .int j :: .ref a :: S)) rfl rfl (hb I.2.2.1 hd)
  exact ⟨T', h', _, X', e', Fr.snoc X' N ga, q2 ▸ W', st⟩
theorem g_astoreD (pc' : Nat) {a : Addr} {vs : List Value} {j : Int32} {x : UInt64} (i : Nat) (hd : decode M.2.1 pc = .ok (.dastore, 1)) (A : Ary Z h a .double vs) (hj : j.toInt = (i : Int)) (hi : i < vs.length) (ga : n0 ≤ a) (hp : pc + 1 = pc')
    (kk : ∀ h', Wr h h' a i (.double x) → Go l Z n0 M R Q h' kc ks pc' L S) : Go l Z n0 M R Q h kc ks pc L (.double x :: .int j :: .ref a :: S) := by
  subst hp
  obtain ⟨c, Ar, e, hl⟩ := A
  obtain ⟨q1, q2⟩ := ix_in (a := a) e hj hi
  refine g_ex (P := fun h' => Wr h h' a i (.double x)) (fun I X eT N => ?_) kk
  obtain ⟨T', h', X', e', W', st⟩ := stD X I.1 I.2.1 eT Ar (x := x) q1 (g := mkF _ pc L (.double x :: .int j :: .ref a :: S)) rfl rfl (hb I.2.2.1 hd)
  exact ⟨T', h', _, X', e', Fr.snoc X' N ga, q2 ▸ W', st⟩
-- TYPED ARRAYS
def AryI (Z : State) (h : Heap) (a : Addr) (vs : List Int32) : Prop := Ary Z h a .int (vs.map Value.int)
def AryJ (Z : State) (h : Heap) (a : Addr) (vs : List Int64) : Prop := Ary Z h a .long (vs.map Value.long)
theorem AryI.lt {a : Addr} {vs : List Int32} (A : AryI Z h a vs) : a < h.size := Ary.lt (show Ary Z h a .int (vs.map Value.int) from A)
theorem AryI.ext {h' : Heap} {a : Addr} {vs : List Int32} (A : AryI Z h a vs) (E : Ext h h') : AryI Z h' a vs := Ary.ext (show Ary Z h a .int (vs.map Value.int) from A) E
theorem AryI.other {h' : Heap} {a b : Addr} {sl : Nat} {v : Value} {vs : List Int32} (A : AryI Z h a vs) (W : Wr h h' b sl v) (q : a ≠ b) : AryI Z h' a vs := Ary.other (show Ary Z h a .int (vs.map Value.int) from A) W q
theorem AryI.keep {h' : Heap} {a : Addr} {ws : List Addr} {vs : List Int32} (A : AryI Z h a vs) (K : Keep h h' ws) (q : a ∉ ws) : AryI Z h' a vs := Ary.keep (show Ary Z h a .int (vs.map Value.int) from A) K q
theorem AryI.set {h' : Heap} {a : Addr} {vs : List Int32} {i : Nat} {x : Int32} (A : AryI Z h a vs) (W : Wr h h' a i (.int x)) : AryI Z h' a (vs.set i x) := by
  unfold AryI at *
  rw [List.map_set]
  exact A.set W
theorem AryI.fresh {a : Addr} {cA : ClassId} {n : Int32} (A : Arr Z h a (newA cA .int n) .int) (k : Nat) (hk : n.toInt = (k : Int)) : AryI Z h a (List.replicate k 0) := by
  unfold AryI
  rw [List.map_replicate]
  exact Ary.fresh A k hk
theorem g_ldI (pc' : Nat) {a : Addr} {vs : List Int32} {j : Int32} (i : Nat) {x : Int32} (hd : decode M.2.1 pc = .ok (.iaload, 1)) (A : AryI Z h a vs) (hj : j.toInt = (i : Int)) (hv : vs[i]? = some x) (hp : pc + 1 = pc') (kk : Go l Z n0 M R Q h kc ks pc' L (.int x :: S)) : Go l Z n0 M R Q h kc ks pc L (.int j :: .ref a :: S) :=
  g_aloadI pc' i hd (show Ary Z h a .int (vs.map Value.int) from A) hj (by rw [List.getElem?_map, hv]; rfl) hp kk
theorem g_stI (pc' : Nat) {a : Addr} {vs : List Int32} {j : Int32} {x : Int32} (i : Nat) (hd : decode M.2.1 pc = .ok (.iastore, 1)) (A : AryI Z h a vs) (hj : j.toInt = (i : Int)) (hi : i < vs.length) (ga : n0 ≤ a) (hp : pc + 1 = pc')
    (kk : ∀ h', Wr h h' a i (.int x) → Go l Z n0 M R Q h' kc ks pc' L S) : Go l Z n0 M R Q h kc ks pc L (.int x :: .int j :: .ref a :: S) :=
  g_astoreI pc' i hd (show Ary Z h a .int (vs.map Value.int) from A) hj (by rw [List.length_map]; exact hi) ga hp kk
theorem g_lenI (pc' : Nat) {a : Addr} {vs : List Int32} (w : Int32) (hd : decode M.2.1 pc = .ok (.arraylength, 1)) (A : AryI Z h a vs) (hw : w = Int32.ofNat vs.length) (hp : pc + 1 = pc') (kk : Go l Z n0 M R Q h kc ks pc' L (.int w :: S)) : Go l Z n0 M R Q h kc ks pc L (.ref a :: S) :=
  g_alen pc' w hd (show Ary Z h a .int (vs.map Value.int) from A) (by rw [List.length_map]; exact hw) hp kk
theorem AryJ.lt {a : Addr} {vs : List Int64} (A : AryJ Z h a vs) : a < h.size := Ary.lt (show Ary Z h a .long (vs.map Value.long) from A)
theorem AryJ.ext {h' : Heap} {a : Addr} {vs : List Int64} (A : AryJ Z h a vs) (E : Ext h h') : AryJ Z h' a vs := Ary.ext (show Ary Z h a .long (vs.map Value.long) from A) E
theorem AryJ.other {h' : Heap} {a b : Addr} {sl : Nat} {v : Value} {vs : List Int64} (A : AryJ Z h a vs) (W : Wr h h' b sl v) (q : a ≠ b) : AryJ Z h' a vs := Ary.other (show Ary Z h a .long (vs.map Value.long) from A) W q
theorem AryJ.keep {h' : Heap} {a : Addr} {ws : List Addr} {vs : List Int64} (A : AryJ Z h a vs) (K : Keep h h' ws) (q : a ∉ ws) : AryJ Z h' a vs := Ary.keep (show Ary Z h a .long (vs.map Value.long) from A) K q
theorem AryJ.set {h' : Heap} {a : Addr} {vs : List Int64} {i : Nat} {x : Int64} (A : AryJ Z h a vs) (W : Wr h h' a i (.long x)) : AryJ Z h' a (vs.set i x) := by
  unfold AryJ at *
  rw [List.map_set]
  exact A.set W
theorem AryJ.fresh {a : Addr} {cA : ClassId} {n : Int32} (A : Arr Z h a (newA cA .long n) .long) (k : Nat) (hk : n.toInt = (k : Int)) : AryJ Z h a (List.replicate k 0) := by
  unfold AryJ
  rw [List.map_replicate]
  exact Ary.fresh A k hk
theorem g_ldJ (pc' : Nat) {a : Addr} {vs : List Int64} {j : Int32} (i : Nat) {x : Int64} (hd : decode M.2.1 pc = .ok (.laload, 1)) (A : AryJ Z h a vs) (hj : j.toInt = (i : Int)) (hv : vs[i]? = some x) (hp : pc + 1 = pc') (kk : Go l Z n0 M R Q h kc ks pc' L (.long x :: S)) : Go l Z n0 M R Q h kc ks pc L (.int j :: .ref a :: S) :=
  g_aloadJ pc' i hd (show Ary Z h a .long (vs.map Value.long) from A) hj (by rw [List.getElem?_map, hv]; rfl) hp kk
theorem g_stJ (pc' : Nat) {a : Addr} {vs : List Int64} {j : Int32} {x : Int64} (i : Nat) (hd : decode M.2.1 pc = .ok (.lastore, 1)) (A : AryJ Z h a vs) (hj : j.toInt = (i : Int)) (hi : i < vs.length) (ga : n0 ≤ a) (hp : pc + 1 = pc')
    (kk : ∀ h', Wr h h' a i (.long x) → Go l Z n0 M R Q h' kc ks pc' L S) : Go l Z n0 M R Q h kc ks pc L (.long x :: .int j :: .ref a :: S) :=
  g_astoreJ pc' i hd (show Ary Z h a .long (vs.map Value.long) from A) hj (by rw [List.length_map]; exact hi) ga hp kk
theorem g_lenJ (pc' : Nat) {a : Addr} {vs : List Int64} (w : Int32) (hd : decode M.2.1 pc = .ok (.arraylength, 1)) (A : AryJ Z h a vs) (hw : w = Int32.ofNat vs.length) (hp : pc + 1 = pc') (kk : Go l Z n0 M R Q h kc ks pc' L (.int w :: S)) : Go l Z n0 M R Q h kc ks pc L (.ref a :: S) :=
  g_alen pc' w hd (show Ary Z h a .long (vs.map Value.long) from A) (by rw [List.length_map]; exact hw) hp kk
-- WHAT LIES BELOW IS KEPT
def Low (n1 : Nat) (h h' : Heap) : Prop := h.size ≤ h'.size ∧ ∀ (x : Addr) (c : Cell), x < n1 → h[x]? = some c → h'[x]? = some c
theorem con_low {n1 : Nat} {N : MD} {rm : Room} {as' : Array Value} {Q' : Option Value → Heap → Prop} (con : Con l Z n1 N rm as' h Q') (hn : n0 ≤ n1) (h1 : n1 ≤ h.size) : Con l Z n0 N rm as' h (fun v h' => Q' v h' ∧ Low n1 h h') := by
  intro _ ws p e ha hc hk s m args below hf happ hP hK
  obtain ⟨n, o, g1, g2, g3, v, L, rfl, ⟨hQ, hF⟩, hE⟩ := con h1 ws p e ha hc hk s m args below hf happ hP hK
  refine ⟨n, _, g1, g2, g3, v, L, rfl, ⟨⟨hQ, ?_⟩, fun y hy => Nat.le_trans hn (hF y hy)⟩, hE⟩
  obtain ⟨-, -, hh⟩ := hP
  obtain ⟨-, -, -, k1, -, -, -, k5⟩ := hE
  rw [hh] at k1 k5
  refine ⟨k1, fun x c hx hc => ?_⟩
  obtain ⟨c', q1, q2, q3, q4⟩ := k5 x c hc
  have e : c'.slots = c.slots := by
    apply Array.ext_getElem?
    intro i
    exact q4 i (fun hm => absurd (hF _ hm) (Nat.not_le.mpr hx))
  have e2 : c' = c := by rw [q2, e]
  exact e2 ▸ q1
theorem AryI.low {n1 : Nat} {h' : Heap} {a : Addr} {vs : List Int32} (A : AryI Z h a vs) (K : Low n1 h h') (q : a < n1) : AryI Z h' a vs := by
  obtain ⟨c, r, e⟩ := A
  exact ⟨c, ⟨K.2 a c q r.1, r.2⟩, e⟩
-- CALLS
theorem g_callS (pc' : Nat) {index : Nat} {N : MD} {rm : Room} {Q' : Option Value → Heap → Prop} {St : List Value} {ps : List FieldType} {r : Option FieldType} (as' S : List Value) (hd : decode M.2.1 pc = .ok (.invokestatic index, 3))
    (w1 : (Jvm.Cond.methodLink M.1.cls index N.1).before a0 Z = true) (w2 : (Jvm.Cond.static N.1).before a0 Z = true) (w3 : (Jvm.Cond.initialized N.1.cls).before a0 Z = true) (w4 : (Jvm.Cond.code N.1 N.2.1 N.2.2.1 N.2.2.2).before a0 Z = true) (hy : N.1.cls ≠ "java/lang/invoke/MethodHandle" ∧ N.1.cls ≠ "java/lang/invoke/VarHandle")
    (con : Con l Z n0 N rm as'.toArray h Q') (hsz : L.size = M.2.2.1) (hpd : parseMethodDescriptor N.1.desc = some ⟨ps, r⟩) (hlen : as'.length = ps.length) (hst : St = as'.reverse ++ S)
    (hf : rm.frames + 1 ≤ R.frames) (hl : (S.map fun v => v.category).sum + (N.2.2.1 + 11) + rm.locals ≤ R.locals) (hc : kc + rm.cells ≤ R.cells) (hs : ks + rm.slots ≤ R.slots) (hp : pc + 3 = pc')
    (kk : ∀ v h', Q' v h' → Go l Z n0 M R Q h' (kc + rm.cells) (ks + rm.slots) pc' L (v.toList ++ S)) : Go l Z n0 M R Q h kc ks pc L St := by
  subst hp hst
  intro p e s m args below meth c T locs I X eT N'
  have Z0 : n0 ≤ h.size := by
    rw [← eT]
    exact Nat.le_trans I.2.2.2.2.2.2.2.2 X.same.2.1
  obtain ⟨v, _, ⟨T1, L1, k1, m1⟩, -, X1, ⟨Lc, hQ, l1, y1, z1⟩, st⟩ := Jvm.LawKit.callS X I.1 (y := N.1) I.2.2.2.2.1 (mvT I.2.1 w1) (mvT I.2.1 w2) (mvT I.2.1 w3) (mvT I.2.1 w4) hy (backOf (W := (S.map fun v => v.category).sum) (Q := fun v h L => Q' v h ∧ Fr n0 L) (con Z0 []) I.2.1 w4 w3 hf hl) (g := mkF m pc L (as'.reverse ++ S)) rfl (hsz.trans I.2.2.2.1.symm) (argsL := as') (rest := S) (lenOf hpd hlen) rfl (by show 2 * 0 + _ ≤ _; omega) (hb I.2.2.1 hd) (fun _ _ => ⟨rfl, eT, hc, hs⟩)
  dsimp only [Pt.U, Pt.locs, Pt.cells, Pt.slots] at X1 l1 y1 z1 st hQ
  subst l1 y1 z1
  obtain ⟨s₂, o, h1, r⟩ := kk v T1.heap hQ.1 p e s m args below meth c T1 _ I X1 rfl (Fr.app N' hQ.2)
  exact ⟨s₂, o, st _ h1, r⟩
theorem g_callN (pc' : Nat) {index : Nat} {N : MD} {rm : Room} {Q' : Option Value → Heap → Prop} {St : List Value} {ps : List FieldType} {r : Option FieldType} {a : Addr} (as' S : List Value) (hd : decode M.2.1 pc = .ok (.invokespecial index, 3)) (hy1 : N.1.name = "<init>") (hrN : N.2.2.2 = none)
    (w1 : (Jvm.Cond.methodLink M.1.cls index N.1).before a0 Z = true) (w2 : (Jvm.Cond.instanceMethod N.1).before a0 Z = true) (w3 : (Jvm.Cond.initialized N.1.cls).before a0 Z = true) (w4 : (Jvm.Cond.code N.1 N.2.1 N.2.2.1 N.2.2.2).before a0 Z = true) (hy : N.1.cls ≠ "java/lang/invoke/MethodHandle" ∧ N.1.cls ≠ "java/lang/invoke/VarHandle")
    (con : Con l Z n0 N rm (.ref a :: as').toArray h Q') (hsz : L.size = M.2.2.1) (hpd : parseMethodDescriptor N.1.desc = some ⟨ps, r⟩) (hlen : as'.length = ps.length) (hst : St = as'.reverse ++ .ref a :: S)
    (hf : rm.frames + 1 ≤ R.frames) (hl : (S.map fun v => v.category).sum + (N.2.2.1 + 11) + rm.locals ≤ R.locals) (hc : kc + rm.cells ≤ R.cells) (hs : ks + rm.slots ≤ R.slots) (hp : pc + 3 = pc')
    (kk : ∀ v h', Q' v h' → Go l Z n0 M R Q h' (kc + rm.cells) (ks + rm.slots) pc' L (v.toList ++ S)) : Go l Z n0 M R Q h kc ks pc L St := by
  subst hp hst
  intro p e s m args below meth c T locs I X eT N'
  have Z0 : n0 ≤ h.size := by
    rw [← eT]
    exact Nat.le_trans I.2.2.2.2.2.2.2.2 X.same.2.1
  obtain ⟨v, _, ⟨T1, L1, k1, m1⟩, -, X1, ⟨Lc, hQ, l1, y1, z1⟩, st⟩ := X.specialBack I.1 (y := N.1) hy1 I.2.2.2.2.1 (mvT I.2.1 w1) (mvT I.2.1 w2) (hrN ▸ mvT I.2.1 w4) hy (backOf (W := (S.map fun v => v.category).sum) (Q := fun v h L => Q' v h ∧ Fr n0 L) (con Z0 []) I.2.1 w4 w3 hf hl) (g := mkF m pc L (as'.reverse ++ .ref a :: S)) rfl (hsz.trans I.2.2.2.1.symm) (Steps.refl _) (argsL := as') (rest := S) (lenOf hpd hlen) rfl (by show 2 * 0 + _ ≤ _; omega) (hb I.2.2.1 hd) (fun _ _ => ⟨rfl, eT, hc, hs⟩)
  dsimp only [Pt.U, Pt.locs, Pt.cells, Pt.slots] at X1 l1 y1 z1 st hQ
  subst l1 y1 z1
  obtain ⟨s₂, o, h1, r⟩ := kk v T1.heap hQ.1 p e s m args below meth c T1 _ I X1 rfl (Fr.app N' hQ.2)
  exact ⟨s₂, o, st.trans h1, r⟩
theorem g_callV (pc' : Nat) {index : Nat} {N : MD} {C : String} {rm : Room} {Q' : Option Value → Heap → Prop} {St : List Value} {ps : List FieldType} {r : Option FieldType} {a : Addr} (as' S : List Value) (hd : decode M.2.1 pc = .ok (.invokevirtual index, 3))
    (w1 : (Jvm.Cond.methodLink M.1.cls index N.1).before a0 Z = true) (w2 : (Jvm.Cond.instanceMethod N.1).before a0 Z = true) (w3 : (Jvm.Cond.initialized N.1.cls).before a0 Z = true) (w4 : (Jvm.Cond.code N.1 N.2.1 N.2.2.1 N.2.2.2).before a0 Z = true) (w5 : (Jvm.Cond.declares N.1).before a0 Z = true) (w6 : (Jvm.Cond.selects C N.1 N.1).before a0 Z = true) (E : Exa Z h a C) (hy : N.1.cls ≠ "java/lang/invoke/MethodHandle" ∧ N.1.cls ≠ "java/lang/invoke/VarHandle")
    (con : Con l Z n0 N rm (.ref a :: as').toArray h Q') (hsz : L.size = M.2.2.1) (hpd : parseMethodDescriptor N.1.desc = some ⟨ps, r⟩) (hlen : as'.length = ps.length) (hst : St = as'.reverse ++ .ref a :: S)
    (hf : rm.frames + 1 ≤ R.frames) (hl : (S.map fun v => v.category).sum + (N.2.2.1 + 11) + rm.locals ≤ R.locals) (hc : kc + rm.cells ≤ R.cells) (hs : ks + rm.slots ≤ R.slots) (hp : pc + 3 = pc')
    (kk : ∀ v h', Q' v h' → Go l Z n0 M R Q h' (kc + rm.cells) (ks + rm.slots) pc' L (v.toList ++ S)) : Go l Z n0 M R Q h kc ks pc L St := by
  subst hp hst
  intro p e s m args below meth c T locs I X eT N'
  have Z0 : n0 ≤ h.size := by
    rw [← eT]
    exact Nat.le_trans I.2.2.2.2.2.2.2.2 X.same.2.1
  obtain ⟨cq, kq, qa, qb, qc⟩ := isOf I.2.1 eT E
  obtain ⟨v, _, ⟨T1, L1, k1, m1⟩, -, X1, ⟨Lc, hQ, l1, y1, z1⟩, st⟩ := X.virtualBack I.1 (y := N.1) (z := N.1) I.2.2.2.2.1 (mvT I.2.1 w1) (mvT I.2.1 w5) (notFace_of_selects (args := #[]) (mvT I.2.1 w6)) (mvT I.2.1 w6) (mvT I.2.1 w2) hy (backOf (W := (S.map fun v => v.category).sum) (Q := fun v h L => Q' v h ∧ Fr n0 L) (con Z0 []) I.2.1 w4 w3 hf hl) qa qc (g := mkF m pc L (as'.reverse ++ .ref a :: S)) rfl (hsz.trans I.2.2.2.1.symm) (Steps.refl _) (argsL := as') (rest := S) (lenOf hpd hlen) rfl (by show 2 * 0 + _ ≤ _; omega) (hb I.2.2.1 hd) (fun _ _ => ⟨rfl, eT, hc, hs⟩)
  dsimp only [Pt.U, Pt.locs, Pt.cells, Pt.slots] at X1 l1 y1 z1 st hQ
  subst l1 y1 z1
  obtain ⟨s₂, o, h1, r⟩ := kk v T1.heap hQ.1 p e s m args below meth c T1 _ I X1 rfl (Fr.app N' hQ.2)
  exact ⟨s₂, o, st.trans h1, r⟩
theorem g_callP (pc' : Nat) {index kk' : Nat} {N : MD} {rm : Room} {Q' : Option Value → Heap → Prop} {St : List Value} {ps : List FieldType} {r : Option FieldType} {a : Addr} (as' S : List Value) (hd : decode M.2.1 pc = .ok (.invokevirtual index, 3))
    (w1 : (Jvm.Cond.methodLink M.1.cls index N.1).before a0 Z = true) (w2 : (Jvm.Cond.instanceMethod N.1).before a0 Z = true) (w3 : (Jvm.Cond.initialized N.1.cls).before a0 Z = true) (w4 : (Jvm.Cond.code N.1 N.2.1 N.2.2.1 N.2.2.2).before a0 Z = true) (w5 : (Jvm.Cond.privateMethod N.1).before a0 Z = true) (w6 : (Jvm.Cond.instantiable N.1.cls kk').before a0 Z = true) (E : Exa Z h a N.1.cls) (hy : N.1.cls ≠ "java/lang/invoke/MethodHandle" ∧ N.1.cls ≠ "java/lang/invoke/VarHandle")
    (con : Con l Z n0 N rm (.ref a :: as').toArray h Q') (hsz : L.size = M.2.2.1) (hpd : parseMethodDescriptor N.1.desc = some ⟨ps, r⟩) (hlen : as'.length = ps.length) (hst : St = as'.reverse ++ .ref a :: S)
    (hf : rm.frames + 1 ≤ R.frames) (hl : (S.map fun v => v.category).sum + (N.2.2.1 + 11) + rm.locals ≤ R.locals) (hc : kc + rm.cells ≤ R.cells) (hs : ks + rm.slots ≤ R.slots) (hp : pc + 3 = pc')
    (kk : ∀ v h', Q' v h' → Go l Z n0 M R Q h' (kc + rm.cells) (ks + rm.slots) pc' L (v.toList ++ S)) : Go l Z n0 M R Q h kc ks pc L St := by
  subst hp hst
  intro p e s m args below meth c T locs I X eT N'
  have Z0 : n0 ≤ h.size := by
    rw [← eT]
    exact Nat.le_trans I.2.2.2.2.2.2.2.2 X.same.2.1
  obtain ⟨cell, hcell, hobj⟩ := E.cell
  have u2 : (Jvm.Cond.instanceMethod N.1).before args s = true := mvT I.2.1 w2
  have u4 : (Jvm.Cond.code N.1 N.2.1 N.2.2.1 N.2.2.2).before args s = true := mvT I.2.1 w4
  have u6 : (Jvm.Cond.instantiable N.1.cls kk').before args s = true := mvT I.2.1 w6
  obtain ⟨mk, methM, hnamed, hmethM, hstM, habM⟩ := Cond.instanceMethod_spec u2
  obtain ⟨methM', cM, hmethM', -, -, -, -, -, -, hsigM⟩ := Cond.code_spec hnamed u4
  cases hmethM.symm.trans hmethM'
  obtain ⟨ck, kP, i1, hkP0, -, hni, -, -⟩ := Cond.instantiable_spec u6
  have hkP : s.vm.classes[mk.cls]? = some kP := by
    have q := findClass_of_methodNamed hnamed
    rw [i1] at q
    cases q
    exact hkP0
  have hkPi : kP.isInterface = false := (Bool.or_eq_false_iff.mp hni).1
  have hpriv := Cond.privateMethod_at (mvP (args := args) I.2.1 w5)
  have hselP : selectMethod e.platform s.vm cell.cls mk = .method mk := selectMethod_private hmethM (hpriv mk methM hnamed hmethM)
  obtain ⟨vm₁, X₁, hstep₁⟩ := X.invokevirtual I.1 I.2.2.2.2.1 (mvT I.2.1 w1) hnamed hmethM hstM hkP hkPi hy (a := a) (cell := cell) (by rw [eT]; exact hcell) hobj hselP hmethM habM hkP hkPi (g := mkF m pc L (as'.reverse ++ .ref a :: S)) rfl (argsL := as') (rest := S) (lenOf hpd hlen _ hsigM) rfl (hb I.2.2.1 hd)
  have hK := backOf (W := (S.map fun v => v.category).sum) (Q := fun v h L => Q' v h ∧ Fr n0 L) (p := p) (e := e) (below := below) (args := args) (len := 3) (con Z0 []) I.2.1 w4 w3 hf hl
  obtain ⟨v, ⟨T1, L1, k1, m1⟩, X1, ⟨Lc, hQ, l1, y1, z1⟩, st⟩ := hK m meth c ⟨T.setVm vm₁, locs, kc, ks⟩ (mkF m pc L S) (.invokevirtual index) mk (.ref a :: as').toArray X₁ rfl (hsz.trans I.2.2.2.1.symm) (hb I.2.2.1 hd) (by show 2 * 0 + (S.map fun v => v.category).sum ≤ _; omega) (X₁.named hnamed) ⟨rfl, eT, hc, hs⟩
  dsimp only [Pt.U, Pt.locs, Pt.cells, Pt.slots] at X1 l1 y1 z1 st hQ
  subst l1 y1 z1
  obtain ⟨s₂, o, h1, r⟩ := kk v T1.heap hQ.1 p e s m args below meth c T1 _ I X1 rfl (Fr.app N' hQ.2)
  exact ⟨s₂, o, (hstep₁ _ fun acts => by rw [doInvoke_state]; exact Steps.refl _).trans (st.trans h1), r⟩
theorem wd {tb : List Jvm.Cond} (hw : ∀ d ∈ tb, d.before a0 Z = true) (k : Nat) {d : Jvm.Cond} (q : tb[k]? = some d) : d.before a0 Z = true := hw _ (List.mem_of_getElem? q)
end Own
theorem doi_0 : decode prog_54_method_1_code 0 = .ok (.aload_n 0, 1) := by decide +kernel
theorem doi_1 : decode prog_54_method_1_code 1 = .ok (.invokespecial 3, 3) := by decide +kernel
theorem doi_4 : decode prog_54_method_1_code 4 = .ok (.iload_n 1, 1) := by decide +kernel
theorem doi_5 : decode prog_54_method_1_code 5 = .ok (.ifCond .lt 8, 3) := by decide +kernel
theorem doi_8 : decode prog_54_method_1_code 8 = .ok (.iload_n 1, 1) := by decide +kernel
theorem doi_9 : decode prog_54_method_1_code 9 = .ok (.iload_n 2, 1) := by decide +kernel
theorem doi_10 : decode prog_54_method_1_code 10 = .ok (.if_icmp .le 18, 3) := by decide +kernel
theorem doi_13 : decode prog_54_method_1_code 13 = .ok (.new 9, 3) := by decide +kernel
theorem doi_16 : decode prog_54_method_1_code 16 = .ok (.dup, 1) := by decide +kernel
theorem doi_17 : decode prog_54_method_1_code 17 = .ok (.iload_n 1, 1) := by decide +kernel
theorem doi_18 : decode prog_54_method_1_code 18 = .ok (.iload_n 2, 1) := by decide +kernel
theorem doi_19 : decode prog_54_method_1_code 19 = .ok (.invokedynamic 11, 5) := by decide +kernel
theorem doi_24 : decode prog_54_method_1_code 24 = .ok (.invokespecial 15, 3) := by decide +kernel
theorem doi_27 : decode prog_54_method_1_code 27 = .ok (.athrow, 1) := by decide +kernel
theorem doi_28 : decode prog_54_method_1_code 28 = .ok (.aload_n 0, 1) := by decide +kernel
theorem doi_29 : decode prog_54_method_1_code 29 = .ok (.iload_n 1, 1) := by decide +kernel
theorem doi_30 : decode prog_54_method_1_code 30 = .ok (.putfield 18, 3) := by decide +kernel
theorem doi_33 : decode prog_54_method_1_code 33 = .ok (.aload_n 0, 1) := by decide +kernel
theorem doi_34 : decode prog_54_method_1_code 34 = .ok (.iload_n 2, 1) := by decide +kernel
theorem doi_35 : decode prog_54_method_1_code 35 = .ok (.putfield 24, 3) := by decide +kernel
theorem doi_38 : decode prog_54_method_1_code 38 = .ok (.return_, 1) := by decide +kernel
abbrev M_oi : MD := ((⟨"com/example/ruschlikon/ruschlikon/condition/Occurrences", "<init>", "(II)V"⟩ : MethodName), prog_54_method_1_code, 3, none)
theorem pl_oi : plainFor M_oi.1 = true := plainFor_of_name (by decide +kernel)
theorem pd_oi : parseMethodDescriptor "(II)V" = some ⟨[.int, .int], none⟩ := by decide +kernel
theorem doa_0 : decode prog_54_method_4_code 0 = .ok (.aload_n 0, 1) := by decide +kernel
theorem doa_1 : decode prog_54_method_4_code 1 = .ok (.getfield 18, 3) := by decide +kernel
theorem doa_4 : decode prog_54_method_4_code 4 = .ok (.iload_n 1, 1) := by decide +kernel
theorem doa_5 : decode prog_54_method_4_code 5 = .ok (.if_icmp .gt 15, 3) := by decide +kernel
theorem doa_8 : decode prog_54_method_4_code 8 = .ok (.iload_n 1, 1) := by decide +kernel
theorem doa_9 : decode prog_54_method_4_code 9 = .ok (.aload_n 0, 1) := by decide +kernel
theorem doa_10 : decode prog_54_method_4_code 10 = .ok (.getfield 24, 3) := by decide +kernel
theorem doa_13 : decode prog_54_method_4_code 13 = .ok (.if_icmp .gt 7, 3) := by decide +kernel
theorem doa_16 : decode prog_54_method_4_code 16 = .ok (.iconst 1, 1) := by decide +kernel
theorem doa_17 : decode prog_54_method_4_code 17 = .ok (.goto 4, 3) := by decide +kernel
theorem doa_20 : decode prog_54_method_4_code 20 = .ok (.iconst 0, 1) := by decide +kernel
theorem doa_21 : decode prog_54_method_4_code 21 = .ok (.ireturn, 1) := by decide +kernel
abbrev M_oa : MD := ((⟨"com/example/ruschlikon/ruschlikon/condition/Occurrences", "admits", "(I)Z"⟩ : MethodName), prog_54_method_4_code, 2, (some .boolean))
theorem pl_oa : plainFor M_oa.1 = true := plainFor_of_name (by decide +kernel)
theorem pd_oa : parseMethodDescriptor "(I)Z" = some ⟨[.int], (some .boolean)⟩ := by decide +kernel
abbrev M_law : MD := (x, code, maxLocals, ret)
theorem pl_law : plainFor M_law.1 = true := plainFor_of_name (by first | (simp [plainName, overriddenIn, x]; done) | decide +kernel)
set_option maxRecDepth 65536 in
set_option maxHeartbeats 40000000 in
theorem c_oi (l : Launch) (Z : State) (a0 : Array Value) (hw : ∀ d ∈ tables_1, d.before a0 Z = true) (n0 : Nat) (h0 : Heap) (a : Addr) (mn mx : Int32) (u1 u2 : Value) (hge : ¬ mn < 0) (hle : ¬ mx < mn) (E : Exa Z h0 a "com/example/ruschlikon/ruschlikon/condition/Occurrences") (F1 : Fld Z h0 a "com/example/ruschlikon/ruschlikon/condition/Occurrences" "min" "I" u1) (F2 : Fld Z h0 a "com/example/ruschlikon/ruschlikon/condition/Occurrences" "max" "I" u2) (ga : n0 ≤ a) :
    Con l Z n0 M_oi ({ frames := 1, cells := 0, slots := 0, locals := 12 } : Room) #[(.ref a), (.int mn), (.int mx)] h0 (fun v h => v = none ∧ Keep h0 h [a] ∧ Exa Z h a "com/example/ruschlikon/ruschlikon/condition/Occurrences" ∧ Fld Z h a "com/example/ruschlikon/ruschlikon/condition/Occurrences" "min" "I" (.int mn) ∧ Fld Z h a "com/example/ruschlikon/ruschlikon/condition/Occurrences" "max" "I" (.int mx)) := by
  refine con_intro pl_oi #[.val (.ref a), .val (.int mn), .val (.int mx)] (fun m => by first | rfl | (simp [entryFrame, mkF, argsToLocals, Value.category]; done)) (fun Zs_h0 => ?_)
  refine g_aload_n 1 doi_0 rfl rfl rfl ?_
  refine g_init 4 doi_1 (wd hw 8 rfl) (wd hw 9 rfl) (wd hw 10 rfl) rfl (Nat.le_of_ble_eq_true rfl) (Nat.le_of_ble_eq_true rfl) rfl ?_
  refine g_iload_n 5 doi_4 rfl rfl ?_
  refine g_ifF 8 doi_5 hge rfl ?_
  refine g_iload_n 9 doi_8 rfl rfl ?_
  refine g_iload_n 10 doi_9 rfl rfl ?_
  refine g_icmpT 28 doi_10 hle rfl ?_
  refine g_aload_n 29 doi_28 rfl rfl rfl ?_
  refine g_iload_n 30 doi_29 rfl rfl ?_
  refine g_putF 33 doi_30 (wd hw 11 rfl) F1 E (Or.inr ⟨(wd hw 12 rfl), rfl, rfl⟩) (wd hw 3 rfl) (ty := .int) (by decide) rfl rfl ga rfl (fun hh1 gW1 => ?_)
  have gF2 := F1.same gW1
  have gF3 := F2.other gW1 (Or.inr (slot_ne (Or.inr (wd hw 14 rfl)) (Or.inr (wd hw 12 rfl)) (by decide) (t := .int) (t' := .int) (by decide) (by decide)))
  have gE4 := E.wr gW1
  refine g_aload_n 34 doi_33 rfl rfl rfl ?_
  refine g_iload_n 35 doi_34 rfl rfl ?_
  refine g_putF 38 doi_35 (wd hw 13 rfl) gF3 gE4 (Or.inr ⟨(wd hw 14 rfl), rfl, rfl⟩) (wd hw 3 rfl) (ty := .int) (by decide) rfl rfl ga rfl (fun hh5 gW5 => ?_)
  have gF6 := gF2.other gW5 (Or.inr (slot_ne (Or.inr (wd hw 12 rfl)) (Or.inr (wd hw 14 rfl)) (by decide) (t := .int) (t' := .int) (by decide) (by decide)))
  have gF7 := gF3.same gW5
  have gE8 := gE4.wr gW5
  refine g_retV doi_38 rfl (Nat.le_of_ble_eq_true rfl) (Nat.le_of_ble_eq_true rfl) ?_
  exact ⟨rfl, (Keep.of_wr gW1).wr gW5 (Or.inl (List.mem_of_getElem? (i := 0) rfl)), gE8, gF6, gF7⟩
def adm (mn mx k : Int32) : Int32 := if ¬ k < mn ∧ ¬ mx < k then 1 else 0
set_option maxRecDepth 65536 in
set_option maxHeartbeats 40000000 in
theorem c_oa (l : Launch) (Z : State) (a0 : Array Value) (hw : ∀ d ∈ tables_1, d.before a0 Z = true) (n0 : Nat) (h0 : Heap) (a : Addr) (k mn mx : Int32) (F1 : Fld Z h0 a "com/example/ruschlikon/ruschlikon/condition/Occurrences" "min" "I" (.int mn)) (F2 : Fld Z h0 a "com/example/ruschlikon/ruschlikon/condition/Occurrences" "max" "I" (.int mx)) :
    Con l Z n0 M_oa ({ frames := 0, cells := 0, slots := 0, locals := 0 } : Room) #[(.ref a), (.int k)] h0 (fun v h => h0 = h ∧ v = some (.int (adm mn mx k))) := by
  refine con_intro pl_oa #[.val (.ref a), .val (.int k)] (fun m => by first | rfl | (simp [entryFrame, mkF, argsToLocals, Value.category]; done)) (fun Zs_h0 => ?_)
  unfold adm
  refine g_aload_n 1 doa_0 rfl rfl rfl ?_
  refine g_getF 4 doa_1 (wd hw 11 rfl) F1 rfl ?_
  refine g_iload_n 5 doa_4 rfl rfl ?_
  refine g_icmp 20 8 doa_5 rfl rfl (fun q1 => ?_) (fun q1 => ?_)
  · refine g_iconst 21 (0 : Int32) doa_20 rfl rfl ?_
    refine g_retZ doa_21 rfl rfl (Nat.le_of_ble_eq_true rfl) (Nat.le_of_ble_eq_true rfl) ?_
    first | (refine ⟨rfl, ?_⟩; rw [if_pos ⟨q1, q2⟩]; done) | (refine ⟨rfl, ?_⟩; rw [if_neg (fun z => z.1 q1)]; done) | (refine ⟨rfl, ?_⟩; rw [if_neg (fun z => z.2 q2)]; done)
  · refine g_iload_n 9 doa_8 rfl rfl ?_
    refine g_aload_n 10 doa_9 rfl rfl rfl ?_
    refine g_getF 13 doa_10 (wd hw 13 rfl) F2 rfl ?_
    refine g_icmp 20 16 doa_13 rfl rfl (fun q2 => ?_) (fun q2 => ?_)
    · refine g_iconst 21 (0 : Int32) doa_20 rfl rfl ?_
      refine g_retZ doa_21 rfl rfl (Nat.le_of_ble_eq_true rfl) (Nat.le_of_ble_eq_true rfl) ?_
      first | (refine ⟨rfl, ?_⟩; rw [if_pos ⟨q1, q2⟩]; done) | (refine ⟨rfl, ?_⟩; rw [if_neg (fun z => z.1 q1)]; done) | (refine ⟨rfl, ?_⟩; rw [if_neg (fun z => z.2 q2)]; done)
    · refine g_iconst 17 (1 : Int32) doa_16 rfl rfl ?_
      refine g_goto 21 doa_17 rfl ?_
      refine g_retZ doa_21 rfl rfl (Nat.le_of_ble_eq_true rfl) (Nat.le_of_ble_eq_true rfl) ?_
      first | (refine ⟨rfl, ?_⟩; rw [if_pos ⟨q1, q2⟩]; done) | (refine ⟨rfl, ?_⟩; rw [if_neg (fun z => z.1 q1)]; done) | (refine ⟨rfl, ?_⟩; rw [if_neg (fun z => z.2 q2)]; done)
theorem own_lt64 (x y : Int32) : x.toInt64 < y.toInt64 ↔ x < y := by
  rw [Int64.lt_iff_toInt_lt, Int32.lt_iff_toInt_lt, Int32.toInt_toInt64, Int32.toInt_toInt64]
theorem own_ge (x : Int32) : ¬ x < 0 ↔ 0 ≤ x.toInt := by
  rw [Int32.lt_iff_toInt_lt]
  have : (0 : Int32).toInt = 0 := rfl
  omega
theorem own_le (x y : Int32) : ¬ x < y ↔ y.toInt ≤ x.toInt := by
  rw [Int32.lt_iff_toInt_lt]
  omega
theorem own_mask (x : Int32) : ¬ (x &&& 2147483647) < 0 := (own_ge _).mpr (c_and x 2147483647 (by decide)).1
theorem own_maskL (x : Int64) : 0 ≤ (x &&& 2147483647).toInt ∧ (x &&& 2147483647).toInt < 2147483648 := by
  have h := c_maskL x 2147483647 31 (by decide) (by decide)
  have e : ((2 ^ 31 : Nat) : Int) = 2147483648 := by decide
  rw [e] at h
  omega
theorem own_lrem (x y : Int64) (hx : 0 ≤ x.toInt) (hy : 0 < y.toInt) : (x - (x / y) * y).toInt = x.toInt % y.toInt := by
  have hy1 : y ≠ -1 := fun e => by rw [e] at hy; exact absurd hy (by decide)
  have h1 := (c_ldiv x y y.toInt rfl hy1).1 hx
  have h2 := c_lsub x ((x / y) * y)
  have h3 := c_lmul (x / y) y
  rw [h1] at h3
  have h4 : y.toInt * (x.toInt / y.toInt) + x.toInt % y.toInt = x.toInt := Int.mul_ediv_add_emod ..
  rw [Int.mul_comm] at h4
  have h5 := Int.emod_nonneg x.toInt (b := y.toInt) (by omega)
  have h6 := Int.emod_lt_of_pos x.toInt hy
  have r1 := rng64 (x - (x / y) * y)
  have r2 := rng64 ((x / y) * y)
  have r3 := rng64 x
  have r4 := rng64 y
  generalize x.toInt / y.toInt * y.toInt = P at *
  generalize x.toInt % y.toInt = m at *
  generalize (x - x / y * y).toInt = A at *
  generalize (x / y * y).toInt = B at *
  omega
theorem own_span (mn mx : Int32) (h : 0 ≤ mn.toInt) (hh : mn.toInt ≤ mx.toInt) : (mx.toInt64 - mn.toInt64 + 1).toInt = mx.toInt - mn.toInt + 1 := by
  have h1 := c_lsub mx.toInt64 mn.toInt64
  have h2 := c_ladd (mx.toInt64 - mn.toInt64) 1
  rw [Int32.toInt_toInt64, Int32.toInt_toInt64] at h1
  have r1 := rng64 (mx.toInt64 - mn.toInt64)
  have r2 := rng64 (mx.toInt64 - mn.toInt64 + 1)
  have r3 := rng32 mx
  have r4 := rng32 mn
  have e : (1 : Int64).toInt = 1 := rfl
  omega
theorem own_nz (y : Int64) (h : 0 < y.toInt) : y ≠ 0 := fun e => by rw [e] at h; exact absurd h (by decide)
theorem own_c : (2147483647 : Int32).toInt64 = (2147483647 : Int64) := by decide
theorem own_max (mn : Int32) (b sp : Int64) (h : ¬ mn < 0) (hs : (2147483647 : Int64) - mn.toInt64 + 1 = sp) : sp ≠ 0 ∧ ¬ ((mn.toInt64 + ((b &&& 2147483647) - ((b &&& 2147483647) / sp) * sp)).toInt32 < mn) := by
  rw [own_ge] at h
  have r := rng32 mn
  have hsp : sp.toInt = 2147483647 - mn.toInt + 1 := by
    rw [← hs, ← own_c]
    exact own_span mn 2147483647 h (by have : (2147483647 : Int32).toInt = 2147483647 := rfl; omega)
  refine ⟨own_nz sp (by omega), ?_⟩
  rw [own_le]
  obtain ⟨m1, m2⟩ := own_maskL b
  have hr := own_lrem (b &&& 2147483647) sp m1 (by omega)
  have h5 := Int.emod_nonneg (b &&& 2147483647).toInt (b := sp.toInt) (by omega)
  have h6 := Int.emod_lt_of_pos (b &&& 2147483647).toInt (b := sp.toInt) (by omega)
  generalize (b &&& 2147483647) - ((b &&& 2147483647) / sp) * sp = R at *
  generalize (b &&& 2147483647).toInt % sp.toInt = m at *
  have h7 := c_ladd mn.toInt64 R
  rw [Int32.toInt_toInt64] at h7
  have h8 := c_l2i (mn.toInt64 + R)
  have r1 := rng64 (mn.toInt64 + R)
  have r2 := rng32 (mn.toInt64 + R).toInt32
  omega
theorem own_inner (mn mx : Int32) (h : ¬ mn < 0) (hh : ¬ mx < mn) : mx.toInt64 - mn.toInt64 + 1 ≠ 0 := by
  rw [own_ge] at h
  rw [own_le] at hh
  exact own_nz _ (by rw [own_span mn mx h hh]; omega)
theorem own_adm1 (mn mx k : Int32) (h : ¬ k < mn) (hh : ¬ mx < k) : adm mn mx k = 1 := if_pos ⟨h, hh⟩
theorem own_adm0 (mn mx k : Int32) (h : k < mn ∨ mx < k) : adm mn mx k = 0 := if_neg (fun z => h.elim z.1 z.2)
theorem own_dec (mn : Int32) (h : 0 < mn) : mn - 1 < mn := by
  rw [Int32.lt_iff_toInt_lt] at *
  have h1 := c_isub mn 1
  have r := rng32 mn
  have r1 := rng32 (mn - 1)
  have e : (1 : Int32).toInt = 1 := rfl
  have e0 : (0 : Int32).toInt = 0 := rfl
  omega
theorem own_inc (mx : Int32) (h : mx < 2147483647) : mx < mx + 1 := by
  rw [Int32.lt_iff_toInt_lt] at *
  have h1 := c_iadd mx 1
  have r := rng32 mx
  have r1 := rng32 (mx + 1)
  have e : (1 : Int32).toInt = 1 := rfl
  have e0 : (2147483647 : Int32).toInt = 2147483647 := rfl
  omega
set_option maxRecDepth 65536 in
set_option maxHeartbeats 40000000 in
theorem k228 (l : Launch) (Z : State) (a0 : Array Value) (hw : ∀ d ∈ tables_1, d.before a0 Z = true) (n0 : Nat) (hc : Heap) (p0 p1 p2 p3 mn : Int32) (sp : Int64) (mx md ct : Int32) (oc : Addr) (k : Int64) (e : Int32) (Ec : Exa Z hc oc "com/example/ruschlikon/ruschlikon/condition/Occurrences") (Fc1 : Fld Z hc oc "com/example/ruschlikon/ruschlikon/condition/Occurrences" "min" "I" (.int mn)) (Fc2 : Fld Z hc oc "com/example/ruschlikon/ruschlikon/condition/Occurrences" "max" "I" (.int mx)) :
    Go l Z n0 M_law room_1 (fun v _ => v = some (.int 1)) hc 1 2 228 #[.val (.int p0), .val (.int p1), .val (.int p2), .val (.int p3), .val (.int mn), .val (.long sp), .second, .val (.int mx), .val (.int md), .val (.int ct), .val (.ref oc), .val (.long k), .second, .val (.int e)] [] := by
  refine g_iload 230 at_228 rfl rfl ?_
  refine g_ldcI (w := 2147483647) 232 at_230 (wd hw 0 rfl) rfl ?_
  refine g_icmp 249 235 at_232 rfl rfl (fun q4 => ?_) (fun q4 => ?_)
  · refine g_iconst 250 (1 : Int32) at_249 rfl rfl ?_
    refine g_retZ at_250 rfl rfl (Nat.le_of_ble_eq_true rfl) (Nat.le_of_ble_eq_true rfl) ?_
    rfl
  · refine g_aload 237 at_235 rfl rfl rfl ?_
    refine g_iload 239 at_237 rfl rfl ?_
    refine g_iconst 240 (1 : Int32) at_239 rfl rfl ?_
    refine g_iadd 241 at_240 rfl ?_
    refine g_callV 244 (N := M_oa) [(.int (mx + ((1 : Int32))))] [] at_241 (wd hw 15 rfl) (wd hw 17 rfl) (wd hw 4 rfl) (wd hw 19 rfl) (wd hw 16 rfl) (wd hw 18 rfl) Ec (by decide) (c_oa l Z a0 hw n0 hc oc ((mx + ((1 : Int32)))) mn mx Fc1 Fc2) rfl pd_oa rfl rfl (Nat.le_of_ble_eq_true rfl) (Nat.le_of_ble_eq_true rfl) (Nat.le_of_ble_eq_true rfl) (Nat.le_of_ble_eq_true rfl) rfl ?_
    rintro v _ ⟨rfl, rfl⟩
    show Go _ _ _ _ _ _ _ _ _ 244 #[.val (.int p0), .val (.int p1), .val (.int p2), .val (.int p3), .val (.int mn), .val (.long sp), .second, .val (.int mx), .val (.int md), .val (.int ct), .val (.ref oc), .val (.long k), .second, .val (.int e)] [(.int (adm mn mx ((mx + ((1 : Int32))))))]
    refine g_ifT 249 at_244 (by rw [own_adm0 mn mx (mx + 1) (Or.inr (own_inc mx (Classical.not_not.mp q4)))]; rfl) rfl ?_
    refine g_iconst 250 (1 : Int32) at_249 rfl rfl ?_
    refine g_retZ at_250 rfl rfl (Nat.le_of_ble_eq_true rfl) (Nat.le_of_ble_eq_true rfl) ?_
    rfl
set_option maxRecDepth 65536 in
set_option maxHeartbeats 40000000 in
theorem k171 (l : Launch) (Z : State) (a0 : Array Value) (hw : ∀ d ∈ tables_1, d.before a0 Z = true) (n0 : Nat) (hc : Heap) (p0 p1 p2 p3 mn : Int32) (sp : Int64) (mx md ct : Int32) (oc : Addr) (k : Int64) (e : Int32) (Ec : Exa Z hc oc "com/example/ruschlikon/ruschlikon/condition/Occurrences") (Fc1 : Fld Z hc oc "com/example/ruschlikon/ruschlikon/condition/Occurrences" "min" "I" (.int mn)) (Fc2 : Fld Z hc oc "com/example/ruschlikon/ruschlikon/condition/Occurrences" "max" "I" (.int mx)) (hmn : ¬ mn < 0) (hmm : ¬ mx < mn) (he : adm mn mx ct = e) :
    Go l Z n0 M_law room_1 (fun v _ => v = some (.int 1)) hc 1 2 171 #[.val (.int p0), .val (.int p1), .val (.int p2), .val (.int p3), .val (.int mn), .val (.long sp), .second, .val (.int mx), .val (.int md), .val (.int ct), .val (.ref oc), .val (.long k), .second, .val (.int e)] [] := by
  refine g_aload 173 at_171 rfl rfl rfl ?_
  refine g_iload 175 at_173 rfl rfl ?_
  refine g_callV 178 (N := M_oa) [(.int ct)] [] at_175 (wd hw 15 rfl) (wd hw 17 rfl) (wd hw 4 rfl) (wd hw 19 rfl) (wd hw 16 rfl) (wd hw 18 rfl) Ec (by decide) (c_oa l Z a0 hw n0 hc oc ct mn mx Fc1 Fc2) rfl pd_oa rfl rfl (Nat.le_of_ble_eq_true rfl) (Nat.le_of_ble_eq_true rfl) (Nat.le_of_ble_eq_true rfl) (Nat.le_of_ble_eq_true rfl) rfl ?_
  rintro v _ ⟨rfl, rfl⟩
  show Go _ _ _ _ _ _ _ _ _ 178 #[.val (.int p0), .val (.int p1), .val (.int p2), .val (.int p3), .val (.int mn), .val (.long sp), .second, .val (.int mx), .val (.int md), .val (.int ct), .val (.ref oc), .val (.long k), .second, .val (.int e)] [(.int (adm mn mx ct))]
  refine g_iload 180 at_178 rfl rfl ?_
  refine g_icmpT 185 at_180 he rfl ?_
  refine g_aload 187 at_185 rfl rfl rfl ?_
  refine g_iload 189 at_187 rfl rfl ?_
  refine g_callV 192 (N := M_oa) [(.int mn)] [] at_189 (wd hw 15 rfl) (wd hw 17 rfl) (wd hw 4 rfl) (wd hw 19 rfl) (wd hw 16 rfl) (wd hw 18 rfl) Ec (by decide) (c_oa l Z a0 hw n0 hc oc mn mn mx Fc1 Fc2) rfl pd_oa rfl rfl (Nat.le_of_ble_eq_true rfl) (Nat.le_of_ble_eq_true rfl) (Nat.le_of_ble_eq_true rfl) (Nat.le_of_ble_eq_true rfl) rfl ?_
  rintro v _ ⟨rfl, rfl⟩
  show Go _ _ _ _ _ _ _ _ _ 192 #[.val (.int p0), .val (.int p1), .val (.int p2), .val (.int p3), .val (.int mn), .val (.long sp), .second, .val (.int mx), .val (.int md), .val (.int ct), .val (.ref oc), .val (.long k), .second, .val (.int e)] [(.int (adm mn mx mn))]
  refine g_ifT 197 at_192 (by rw [own_adm1 mn mx mn Int32.lt_irrefl hmm]; show ¬ ((1 : Int32) = 0); decide) rfl ?_
  refine g_aload 199 at_197 rfl rfl rfl ?_
  refine g_iload 201 at_199 rfl rfl ?_
  refine g_callV 204 (N := M_oa) [(.int mx)] [] at_201 (wd hw 15 rfl) (wd hw 17 rfl) (wd hw 4 rfl) (wd hw 19 rfl) (wd hw 16 rfl) (wd hw 18 rfl) Ec (by decide) (c_oa l Z a0 hw n0 hc oc mx mn mx Fc1 Fc2) rfl pd_oa rfl rfl (Nat.le_of_ble_eq_true rfl) (Nat.le_of_ble_eq_true rfl) (Nat.le_of_ble_eq_true rfl) (Nat.le_of_ble_eq_true rfl) rfl ?_
  rintro v _ ⟨rfl, rfl⟩
  show Go _ _ _ _ _ _ _ _ _ 204 #[.val (.int p0), .val (.int p1), .val (.int p2), .val (.int p3), .val (.int mn), .val (.long sp), .second, .val (.int mx), .val (.int md), .val (.int ct), .val (.ref oc), .val (.long k), .second, .val (.int e)] [(.int (adm mn mx mx))]
  refine g_ifT 209 at_204 (by rw [own_adm1 mn mx mx hmm Int32.lt_irrefl]; show ¬ ((1 : Int32) = 0); decide) rfl ?_
  refine g_iload 211 at_209 rfl rfl ?_
  refine g_ifC 228 214 at_211 rfl rfl (fun q3 => ?_) (fun q3 => ?_)
  · exact k228 l Z a0 hw n0 hc p0 p1 p2 p3 mn sp mx md ct oc k e Ec Fc1 Fc2
  · refine g_aload 216 at_214 rfl rfl rfl ?_
    refine g_iload 218 at_216 rfl rfl ?_
    refine g_iconst 219 (1 : Int32) at_218 rfl rfl ?_
    refine g_isub 220 at_219 rfl ?_
    refine g_callV 223 (N := M_oa) [(.int (mn - ((1 : Int32))))] [] at_220 (wd hw 15 rfl) (wd hw 17 rfl) (wd hw 4 rfl) (wd hw 19 rfl) (wd hw 16 rfl) (wd hw 18 rfl) Ec (by decide) (c_oa l Z a0 hw n0 hc oc ((mn - ((1 : Int32)))) mn mx Fc1 Fc2) rfl pd_oa rfl rfl (Nat.le_of_ble_eq_true rfl) (Nat.le_of_ble_eq_true rfl) (Nat.le_of_ble_eq_true rfl) (Nat.le_of_ble_eq_true rfl) rfl ?_
    rintro v _ ⟨rfl, rfl⟩
    show Go _ _ _ _ _ _ _ _ _ 223 #[.val (.int p0), .val (.int p1), .val (.int p2), .val (.int p3), .val (.int mn), .val (.long sp), .second, .val (.int mx), .val (.int md), .val (.int ct), .val (.ref oc), .val (.long k), .second, .val (.int e)] [(.int (adm mn mx ((mn - ((1 : Int32))))))]
    refine g_ifT 228 at_223 (by rw [own_adm0 mn mx (mn - 1) (Or.inl (own_dec mn (Classical.not_not.mp q3)))]; rfl) rfl ?_
    exact k228 l Z a0 hw n0 hc p0 p1 p2 p3 mn sp mx md ct oc k e Ec Fc1 Fc2
set_option maxRecDepth 65536 in
set_option maxHeartbeats 40000000 in
theorem k128 (l : Launch) (Z : State) (a0 : Array Value) (hw : ∀ d ∈ tables_1, d.before a0 Z = true) (n0 : Nat) (h0 : Heap) (p0 p1 p2 p3 mn : Int32) (sp : Int64) (mx md ct : Int32) (s10 s11 : Slot) (hL : (s10 = .unset ∧ s11 = .unset) ∨ ∃ z, s10 = .val (.long z) ∧ s11 = .second) (hmn : ¬ mn < 0) (hmm : ¬ mx < mn) :
    Go l Z n0 M_law room_1 (fun v _ => v = some (.int 1)) h0 0 0 128 #[.val (.int p0), .val (.int p1), .val (.int p2), .val (.int p3), .val (.int mn), .val (.long sp), .second, .val (.int mx), .val (.int md), .val (.int ct), s10, s11, .unset, .unset] [] := by
  refine g_sz (fun Zs_h0 => ?_)
  refine g_new 131 at_128 (wd hw 2 rfl) (wd hw 3 rfl) (wd hw 4 rfl) (Nat.le_of_ble_eq_true rfl) (Nat.le_of_ble_eq_true rfl) rfl (fun hh1 gX1 gE1 gD1 => ?_)
  obtain ⟨oc, g1⟩ : ∃ z, z = h0.size := ⟨_, rfl⟩
  rw [← g1] at gE1 gD1 ⊢
  have gF2 := gD1 (Or.inr (wd hw 12 rfl)) (ty := .int) (by decide)
  have gF3 := gD1 (Or.inr (wd hw 14 rfl)) (ty := .int) (by decide)
  have ga_oc : n0 ≤ oc := by have := Zs_h0; omega
  refine g_dup 132 at_131 rfl rfl ?_
  refine g_iload 134 at_132 rfl rfl ?_
  refine g_iload 136 at_134 rfl rfl ?_
  refine g_callN 139 (N := M_oi) [(.int mn), (.int mx)] [(.ref oc)] at_136 rfl rfl (wd hw 5 rfl) (wd hw 6 rfl) (wd hw 4 rfl) (wd hw 7 rfl) (by decide) (c_oi l Z a0 hw n0 hh1 oc mn mx _ _ hmn hmm gE1 gF2 gF3 ga_oc) rfl pd_oi rfl rfl (Nat.le_of_ble_eq_true rfl) (Nat.le_of_ble_eq_true rfl) (Nat.le_of_ble_eq_true rfl) (Nat.le_of_ble_eq_true rfl) rfl ?_
  rintro v hc ⟨rfl, Kc, Ec, Fc1, Fc2⟩
  show Go _ _ _ _ _ _ _ _ _ 139 #[.val (.int p0), .val (.int p1), .val (.int p2), .val (.int p3), .val (.int mn), .val (.long sp), .second, .val (.int mx), .val (.int md), .val (.int ct), s10, s11, .unset, .unset] [(.ref oc)]
  refine g_astore 141 #[.val (.int p0), .val (.int p1), .val (.int p2), .val (.int p3), .val (.int mn), .val (.long sp), .second, .val (.int mx), .val (.int md), .val (.int ct), .val (.ref oc), .unset, .unset, .unset] at_139 rfl (by rcases hL with ⟨rfl, rfl⟩ | ⟨z, rfl, rfl⟩ <;> rfl) rfl ?_
  refine g_iload 143 at_141 rfl rfl ?_
  refine g_i2l 144 at_143 rfl ?_
  refine g_lstore 146 #[.val (.int p0), .val (.int p1), .val (.int p2), .val (.int p3), .val (.int mn), .val (.long sp), .second, .val (.int mx), .val (.int md), .val (.int ct), .val (.ref oc), .val (.long (ct.toInt64)), .second, .unset] at_144 rfl rfl ?_
  refine g_lload 148 at_146 rfl rfl ?_
  refine g_iload 150 at_148 rfl rfl ?_
  refine g_i2l 151 at_150 rfl ?_
  refine g_lcmp 168 155 at_151 at_152 rfl rfl (fun q1 => ?_) (fun q1 => ?_)
  · refine g_iconst 169 (0 : Int32) at_168 rfl rfl ?_
    refine g_istore 171 #[.val (.int p0), .val (.int p1), .val (.int p2), .val (.int p3), .val (.int mn), .val (.long sp), .second, .val (.int mx), .val (.int md), .val (.int ct), .val (.ref oc), .val (.long (ct.toInt64)), .second, .val (.int (0 : Int32))] at_169 rfl rfl ?_
    first | (exact k171 l Z a0 hw n0 hc p0 p1 p2 p3 mn sp mx md ct oc _ _ Ec Fc1 Fc2 hmn hmm (own_adm0 _ _ _ (Or.inl ((own_lt64 _ _).mp q1)))) | (exact k171 l Z a0 hw n0 hc p0 p1 p2 p3 mn sp mx md ct oc _ _ Ec Fc1 Fc2 hmn hmm (own_adm0 _ _ _ (Or.inr ((own_lt64 _ _).mp q2))))
  · refine g_lload 157 at_155 rfl rfl ?_
    refine g_iload 159 at_157 rfl rfl ?_
    refine g_i2l 160 at_159 rfl ?_
    refine g_lcmp 168 164 at_160 at_161 rfl rfl (fun q2 => ?_) (fun q2 => ?_)
    · refine g_iconst 169 (0 : Int32) at_168 rfl rfl ?_
      refine g_istore 171 #[.val (.int p0), .val (.int p1), .val (.int p2), .val (.int p3), .val (.int mn), .val (.long sp), .second, .val (.int mx), .val (.int md), .val (.int ct), .val (.ref oc), .val (.long (ct.toInt64)), .second, .val (.int (0 : Int32))] at_169 rfl rfl ?_
      first | (exact k171 l Z a0 hw n0 hc p0 p1 p2 p3 mn sp mx md ct oc _ _ Ec Fc1 Fc2 hmn hmm (own_adm0 _ _ _ (Or.inl ((own_lt64 _ _).mp q1)))) | (exact k171 l Z a0 hw n0 hc p0 p1 p2 p3 mn sp mx md ct oc _ _ Ec Fc1 Fc2 hmn hmm (own_adm0 _ _ _ (Or.inr ((own_lt64 _ _).mp q2))))
    · refine g_iconst 165 (1 : Int32) at_164 rfl rfl ?_
      refine g_goto 169 at_165 rfl ?_
      refine g_istore 171 #[.val (.int p0), .val (.int p1), .val (.int p2), .val (.int p3), .val (.int mn), .val (.long sp), .second, .val (.int mx), .val (.int md), .val (.int ct), .val (.ref oc), .val (.long (ct.toInt64)), .second, .val (.int (1 : Int32))] at_169 rfl rfl ?_
      exact k171 l Z a0 hw n0 hc p0 p1 p2 p3 mn sp mx md ct oc _ _ Ec Fc1 Fc2 hmn hmm (own_adm1 _ _ _ (fun z => q1 ((own_lt64 _ _).mpr z)) (fun z => q2 ((own_lt64 _ _).mpr z)))
set_option maxRecDepth 65536 in
set_option maxHeartbeats 40000000 in
theorem k43 (l : Launch) (Z : State) (a0 : Array Value) (hw : ∀ d ∈ tables_1, d.before a0 Z = true) (n0 : Nat) (h0 : Heap) (p0 p1 p2 p3 mn : Int32) (sp : Int64) (mx : Int32) (hmn : ¬ mn < 0) (hmm : ¬ mx < mn) :
    Go l Z n0 M_law room_1 (fun v _ => v = some (.int 1)) h0 0 0 43 #[.val (.int p0), .val (.int p1), .val (.int p2), .val (.int p3), .val (.int mn), .val (.long sp), .second, .val (.int mx), .unset, .unset, .unset, .unset, .unset, .unset] [] := by
  refine g_iload_n 44 at_43 rfl rfl ?_
  refine g_iconst 45 (1 : Int32) at_44 rfl rfl ?_
  refine g_iushr 46 at_45 rfl ?_
  refine g_iconst 47 (3 : Int32) at_46 rfl rfl ?_
  refine g_iand 48 at_47 rfl ?_
  refine g_istore 50 #[.val (.int p0), .val (.int p1), .val (.int p2), .val (.int p3), .val (.int mn), .val (.long sp), .second, .val (.int mx), .val (.int (((XT.ushr p3 ((1 : Int32)))) &&& ((3 : Int32)))), .unset, .unset, .unset, .unset, .unset] at_48 rfl rfl ?_
  refine g_iload 52 at_50 rfl rfl ?_
  refine g_ifC 61 55 at_52 rfl rfl (fun r1 => ?_) (fun r1 => ?_)
  · refine g_iload 63 at_61 rfl rfl ?_
    refine g_iconst 64 (1 : Int32) at_63 rfl rfl ?_
    refine g_icmp 81 67 at_64 rfl rfl (fun r2 => ?_) (fun r2 => ?_)
    · refine g_iload 83 at_81 rfl rfl ?_
      refine g_iconst 84 (2 : Int32) at_83 rfl rfl ?_
      refine g_icmp 101 87 at_84 rfl rfl (fun r3 => ?_) (fun r3 => ?_)
      · refine g_iload 103 at_101 rfl rfl ?_
        refine g_i2l 104 at_103 rfl ?_
        refine g_iload 106 at_104 rfl rfl ?_
        refine g_i2l 107 at_106 rfl ?_
        refine g_lsub 108 at_107 rfl ?_
        refine g_lconst 109 (1 : Int64) at_108 rfl rfl ?_
        refine g_ladd 110 at_109 rfl ?_
        refine g_lstore 112 #[.val (.int p0), .val (.int p1), .val (.int p2), .val (.int p3), .val (.int mn), .val (.long sp), .second, .val (.int mx), .val (.int (((XT.ushr p3 ((1 : Int32)))) &&& ((3 : Int32)))), .unset, .val (.long (((((mx.toInt64)) - ((mn.toInt64)))) + ((1 : Int64)))), .second, .unset, .unset] at_110 rfl rfl ?_
        refine g_iload 114 at_112 rfl rfl ?_
        refine g_i2l 115 at_114 rfl ?_
        refine g_iload_n 116 at_115 rfl rfl ?_
        refine g_i2l 117 at_116 rfl ?_
        refine g_ldc2J (w := 2147483647) 120 at_117 (wd hw 1 rfl) rfl ?_
        refine g_land 121 at_120 rfl ?_
        refine g_lload 123 at_121 rfl rfl ?_
        refine g_lrem 124 at_123 (own_inner mn mx hmn hmm) rfl ?_
        refine g_ladd 125 at_124 rfl ?_
        refine g_l2i 126 at_125 rfl ?_
        refine g_istore 128 #[.val (.int p0), .val (.int p1), .val (.int p2), .val (.int p3), .val (.int mn), .val (.long sp), .second, .val (.int mx), .val (.int (((XT.ushr p3 ((1 : Int32)))) &&& ((3 : Int32)))), .val (.int (((((mn.toInt64)) + ((((((p2.toInt64)) &&& ((2147483647 : Int64)))) - (((((p2.toInt64)) &&& ((2147483647 : Int64)))) / ((((((mx.toInt64)) - ((mn.toInt64)))) + ((1 : Int64))))) * ((((((mx.toInt64)) - ((mn.toInt64)))) + ((1 : Int64)))))))).toInt32)), .val (.long (((((mx.toInt64)) - ((mn.toInt64)))) + ((1 : Int64)))), .second, .unset, .unset] at_126 rfl rfl ?_
        exact k128 l Z a0 hw n0 h0 p0 p1 p2 p3 mn sp mx _ _ _ _ (Or.inr ⟨_, rfl, rfl⟩) hmn hmm
      · refine g_iload 89 at_87 rfl rfl ?_
        refine g_i2l 90 at_89 rfl ?_
        refine g_iload_n 91 at_90 rfl rfl ?_
        refine g_iconst 92 (2 : Int32) at_91 rfl rfl ?_
        refine g_irem 93 at_92 (by decide) rfl ?_
        refine g_i2l 94 at_93 rfl ?_
        refine g_ladd 95 at_94 rfl ?_
        refine g_l2i 96 at_95 rfl ?_
        refine g_istore 98 #[.val (.int p0), .val (.int p1), .val (.int p2), .val (.int p3), .val (.int mn), .val (.long sp), .second, .val (.int mx), .val (.int (((XT.ushr p3 ((1 : Int32)))) &&& ((3 : Int32)))), .val (.int (((((mx.toInt64)) + ((((p2 % ((2 : Int32)))).toInt64)))).toInt32)), .unset, .unset, .unset, .unset] at_96 rfl rfl ?_
        refine g_goto 128 at_98 rfl ?_
        exact k128 l Z a0 hw n0 h0 p0 p1 p2 p3 mn sp mx _ _ _ _ (Or.inl ⟨rfl, rfl⟩) hmn hmm
    · refine g_iload 69 at_67 rfl rfl ?_
      refine g_i2l 70 at_69 rfl ?_
      refine g_iload_n 71 at_70 rfl rfl ?_
      refine g_iconst 72 (2 : Int32) at_71 rfl rfl ?_
      refine g_irem 73 at_72 (by decide) rfl ?_
      refine g_i2l 74 at_73 rfl ?_
      refine g_ladd 75 at_74 rfl ?_
      refine g_l2i 76 at_75 rfl ?_
      refine g_istore 78 #[.val (.int p0), .val (.int p1), .val (.int p2), .val (.int p3), .val (.int mn), .val (.long sp), .second, .val (.int mx), .val (.int (((XT.ushr p3 ((1 : Int32)))) &&& ((3 : Int32)))), .val (.int (((((mn.toInt64)) + ((((p2 % ((2 : Int32)))).toInt64)))).toInt32)), .unset, .unset, .unset, .unset] at_76 rfl rfl ?_
      refine g_goto 128 at_78 rfl ?_
      exact k128 l Z a0 hw n0 h0 p0 p1 p2 p3 mn sp mx _ _ _ _ (Or.inl ⟨rfl, rfl⟩) hmn hmm
  · refine g_iload_n 56 at_55 rfl rfl ?_
    refine g_istore 58 #[.val (.int p0), .val (.int p1), .val (.int p2), .val (.int p3), .val (.int mn), .val (.long sp), .second, .val (.int mx), .val (.int (((XT.ushr p3 ((1 : Int32)))) &&& ((3 : Int32)))), .val (.int p2), .unset, .unset, .unset, .unset] at_56 rfl rfl ?_
    refine g_goto 128 at_58 rfl ?_
    exact k128 l Z a0 hw n0 h0 p0 p1 p2 p3 mn sp mx _ _ _ _ (Or.inl ⟨rfl, rfl⟩) hmn hmm
set_option maxRecDepth 65536 in
set_option maxHeartbeats 40000000 in
theorem c_law (l : Launch) (Z : State) (a0 : Array Value) (hw : ∀ d ∈ tables_1, d.before a0 Z = true) (n0 : Nat) (h0 : Heap) (p0 p1 p2 p3 : Int32) :
    Con l Z n0 M_law room_1 #[(.int p0), (.int p1), (.int p2), (.int p3)] h0 (fun v _ => v = some (.int 1)) := by
  refine con_intro pl_law #[.val (.int p0), .val (.int p1), .val (.int p2), .val (.int p3), .unset, .unset, .unset, .unset, .unset, .unset, .unset, .unset, .unset, .unset] (fun m => by first | rfl | (simp [entryFrame, mkF, argsToLocals, Value.category]; done)) (fun Zs_h0 => ?_)
  refine g_iload_n 1 at_0 rfl rfl ?_
  refine g_ldcI (w := 2147483647) 3 at_1 (wd hw 0 rfl) rfl ?_
  refine g_iand 4 at_3 rfl ?_
  generalize e4 : (p0 &&& ((2147483647 : Int32))) = mn
  have hmn : ¬ mn < 0 := by rw [← e4]; exact own_mask p0
  refine g_istore 6 #[.val (.int p0), .val (.int p1), .val (.int p2), .val (.int p3), .val (.int mn), .unset, .unset, .unset, .unset, .unset, .unset, .unset, .unset, .unset] at_4 rfl rfl ?_
  refine g_ldc2J (w := 2147483647) 9 at_6 (wd hw 1 rfl) rfl ?_
  refine g_iload 11 at_9 rfl rfl ?_
  refine g_i2l 12 at_11 rfl ?_
  refine g_lsub 13 at_12 rfl ?_
  refine g_lconst 14 (1 : Int64) at_13 rfl rfl ?_
  refine g_ladd 15 at_14 rfl ?_
  generalize e15 : (((((2147483647 : Int64)) - ((mn.toInt64)))) + ((1 : Int64))) = sp
  refine g_lstore 17 #[.val (.int p0), .val (.int p1), .val (.int p2), .val (.int p3), .val (.int mn), .val (.long sp), .second, .unset, .unset, .unset, .unset, .unset, .unset, .unset] at_15 rfl rfl ?_
  refine g_iload 19 at_17 rfl rfl ?_
  refine g_i2l 20 at_19 rfl ?_
  refine g_iload_n 21 at_20 rfl rfl ?_
  refine g_i2l 22 at_21 rfl ?_
  refine g_ldc2J (w := 2147483647) 25 at_22 (wd hw 1 rfl) rfl ?_
  refine g_land 26 at_25 rfl ?_
  refine g_lload 28 at_26 rfl rfl ?_
  refine g_lrem 29 at_28 (own_max mn p1.toInt64 sp hmn e15).1 rfl ?_
  refine g_ladd 30 at_29 rfl ?_
  refine g_l2i 31 at_30 rfl ?_
  generalize e31 : (((((mn.toInt64)) + ((((((p1.toInt64)) &&& ((2147483647 : Int64)))) - (((((p1.toInt64)) &&& ((2147483647 : Int64)))) / sp) * sp)))).toInt32) = mx
  have hmm : ¬ mx < mn := by rw [← e31]; exact (own_max mn p1.toInt64 sp hmn e15).2
  refine g_istore 33 #[.val (.int p0), .val (.int p1), .val (.int p2), .val (.int p3), .val (.int mn), .val (.long sp), .second, .val (.int mx), .unset, .unset, .unset, .unset, .unset, .unset] at_31 rfl rfl ?_
  refine g_iload_n 34 at_33 rfl rfl ?_
  refine g_iconst 35 (1 : Int32) at_34 rfl rfl ?_
  refine g_iand 36 at_35 rfl ?_
  refine g_ifC 43 39 at_36 rfl rfl (fun d1 => ?_) (fun d1 => ?_)
  · exact k43 l Z a0 hw n0 h0 p0 p1 p2 p3 mn sp mx hmn hmm
  · refine g_ldcI (w := 2147483647) 41 at_39 (wd hw 0 rfl) rfl ?_
    refine g_istore 43 #[.val (.int p0), .val (.int p1), .val (.int p2), .val (.int p3), .val (.int mn), .val (.long sp), .second, .val (.int (2147483647 : Int32)), .unset, .unset, .unset, .unset, .unset, .unset] at_41 rfl rfl ?_
    exact k43 l Z a0 hw n0 h0 p0 p1 p2 p3 mn sp 2147483647 hmn (by rw [own_le]; have := rng32 mn; have : (2147483647 : Int32).toInt = 2147483647 := rfl; omega)
set_option maxRecDepth 65536 in
set_option maxHeartbeats 40000000 in
theorem comes_1 {Post : Tables → Env → Array Value → State → Outcome → State → Prop} (hpost : ∀ tb e args s v u, (limb_1_1.after args s (.returned v) u = true ∧ limb_1_2.after args s (.returned v) u = true ∧ True) → FrameEnd s (.returned v) u (Jvm.fieldLocs frame_1_writes args s ++ Jvm.arrayLocs frame_1_arrays args s ++ Jvm.staticLocs frame_1_statics s) 16 128 → Post tb e args s (.returned v) u) :
    ArmFor flags0 classFile x code maxLocals ret World_1 tables_1 room_1 Calls_1 rest_1 Pre_1 Post := by
  intro l hfl _ _ p e ha hc hk s m args below hf hA hF happ hP
  obtain ⟨hcalls, hrest, hpre⟩ := hP
  obtain ⟨-, -, -, hnamed, -, -, -, hat⟩ := (Spec.applies_iff hf).mp happ
  obtain ⟨hg, hn⟩ := and_e (Cond.before_iff.mp (show (Jvm.Cond.and given_1 narrow_1).before args s = true from hpre))
  obtain ⟨h1, k0⟩ := and_e hg
  obtain ⟨j0, k1⟩ := and_e k0
  obtain ⟨j1, k2⟩ := and_e k1
  obtain ⟨j2, k3⟩ := and_e k2
  obtain ⟨w0, w1, w2, w3, rfl⟩ : ∃ w0 w1 w2 w3 : Value, args = #[w0, w1, w2, w3] := by
    have hs : args.size = 4 := by simpa [Cond.value, given_1] using h1
    obtain ⟨L⟩ := args
    match L, hs with
    | [w0, w1, w2, w3], _ => exact ⟨w0, w1, w2, w3, rfl⟩
  have hw := fun d (hd : d ∈ tables_1) => atoms_spec (ws := Jvm.Cond.code x code maxLocals ret :: tables_1) hat d (List.mem_cons_of_mem _ hd)
  obtain ⟨i0, e0⟩ := is_v j0
  obtain rfl : w0 = (.int i0) := Option.some.inj e0
  obtain ⟨i1, e1⟩ := is_v j1
  obtain rfl : w1 = (.int i1) := Option.some.inj e1
  obtain ⟨i2, e2⟩ := is_v j2
  obtain rfl : w2 = (.int i2) := Option.some.inj e2
  obtain ⟨i3, e3⟩ := is_v k3
  obtain rfl : w3 = (.int i3) := Option.some.inj e3
  obtain ⟨n, o, h1, h2, h3, _, L, rfl, ⟨rfl, N⟩, hq⟩ := c_law l s _ hw s.heap.size s.heap i0 i1 i2 i3 (Nat.le_refl _) tables_1 p e ha hc hk s m _ below hf ((Spec.applies_iff_loose hf).mp happ).1 ⟨rfl, State.Warmed39.refl s, rfl⟩ trivial
  refine ⟨n, _, h1, h2, h3, hpost _ _ _ _ _ _ ⟨Cond.after_iff.mpr rfl, Cond.after_iff.mpr (eq_i res_at (Term.int_eval (1)) rfl), trivial⟩ ⟨hq.1, hq.2.1, (hq.2.2.sift fun y hy => Or.inr (N y hy)).mono (by decide) (by decide)⟩⟩
theorem main_1_1 : Claimed_1_1 := comes_1 fun _ _ _ _ _ _ h hF => ⟨h.1, hF⟩
theorem main_1_2 : Claimed_1_2 := comes_1 fun _ _ _ _ _ _ h hF => ⟨h.2.1, hF⟩
end Jvm.Pilot.@@N@@
namespace Jvm.Pilot.@@N@@
open Jvm Jvm.ClassFile Sem Op Lib Jvm.Free Jvm.Stand Jvm.Pilot.@@N@@.Jvm.D
/-! MADE BY PROGRAM (witnessworld.py) out of the Statement's table words and the real class files: 9 classes; the members and pool entries that the words name. The judged class is class 1, her method 1. -/
namespace start1
open Jvm.ClassFile
def u (s : String) : CpInfo := .utf8 (stringToUtf16 s)
/-- a pool by its gaps: so many unusable entries, then the entry; so many at the end -/
def gap : Nat → List CpInfo → List CpInfo
  | 0, r => r
  | n + 1, r => .unusable :: gap n r
def poolList (es : List (Nat × CpInfo)) (last : Nat) : List CpInfo := es.foldr (fun e r => gap e.1 (e.2 :: r)) (gap last [])
def pool (es : List (Nat × CpInfo)) (last : Nat) : Array CpInfo := ⟨poolList es last⟩
def fileOf (pool : Array CpInfo) (this : Nat) (attrs : Array Attribute := #[]) (ms : Array MethodInfo := #[]) (fl : Nat := 33) (sup : Nat := 0) (ifs : Array Nat := #[]) (fds : Array FieldInfo := #[]) : ClassFile where
  minorVersion := 0
  majorVersion := 65
  constantPool := pool
  accessFlags := fl
  thisClass := this
  superClass := sup
  interfaces := ifs
  fields := fds
  methods := ms
  attributes := attrs
def plain (name : String) (sup : Option ClassId) : Class where
  name := name
  kind := .ordinary
  loader := none
  accessFlags := 33
  super := sup
  interfaces := #[]
  cf := none
  fields := #[]
  methods := #[]
  instanceTypes := #[]
  staticTypes := #[]
  resolved := #[]
  callSites := []
  init := .initialized
  statics := none
  mirror := none

def pool0 : Array CpInfo := pool [(5, u "<init>"), (0, u "()V"), (1, .class_ 10), (1, u "java/lang/Object")] 113

def k0c0 : Code := { maxStack := 0, maxLocals := 1, code := object_method_1_code, exceptionTable := #[], attributes := #[] }
def k0m0 : Method := { name := "<init>", desc := "()V", sig := { parameters := [], returnType := none }, accessFlags := 1, code := some k0c0 }
/-- java/lang/Object -/
def k0 : Class := { plain "java/lang/Object" none with
  accessFlags := 33
  interfaces := #[]
  cf := some (fileOf pool0 8 #[] #[{ accessFlags := 1, nameIndex := 5, descriptorIndex := 6, attributes := #[] }] 33 0 #[] #[])
  fields := #[]
  methods := #[k0m0]
  instanceTypes := #[]
  staticTypes := #[]
  resolved := Array.replicate 124 none
  statics := none }

def pool1 : Array CpInfo := pool [(2, .class_ 4), (1, u "java/lang/Object"), (0, u "<init>"), (0, u "()V"), (0, .integer 2147483647), (2, .long 2147483647), (1, .class_ 13), (0, u "com/example/ruschlikon/ruschlikon/condition/Occurrences"), (0, .methodref 12 15), (0, .nameAndType 5 16), (0, u "(II)V"), (0, .methodref 12 18), (0, .nameAndType 19 20), (0, u "admits"), (0, u "(I)Z"), (0, .class_ 22), (0, u "com/example/ruschlikon/ruschlikon/condition/OccurrencesAdmitsPinLaw"), (2, u "law"), (0, u "(IIII)Z")] 3

def k1m0 : Method := { name := "<init>", desc := "()V", sig := { parameters := [], returnType := none }, accessFlags := 1, code := none }
def k1c1 : Code := { maxStack := 6, maxLocals := 14, code := code, exceptionTable := #[], attributes := #[] }
def k1m1 : Method := { name := "law", desc := "(IIII)Z", sig := { parameters := [.int, .int, .int, .int], returnType := some .boolean }, accessFlags := 9, code := some k1c1 }
/-- com/example/ruschlikon/ruschlikon/condition/OccurrencesAdmitsPinLaw -/
def k1 : Class := { plain "com/example/ruschlikon/ruschlikon/condition/OccurrencesAdmitsPinLaw" (some 0) with
  accessFlags := 49
  interfaces := #[]
  cf := some (fileOf pool1 21 #[] #[{ accessFlags := 1, nameIndex := 5, descriptorIndex := 6, attributes := #[] }, { accessFlags := 9, nameIndex := 25, descriptorIndex := 26, attributes := #[] }] 49 2 #[] #[])
  fields := #[]
  methods := #[k1m0, k1m1]
  instanceTypes := #[]
  staticTypes := #[]
  resolved := Array.replicate 30 none
  statics := none }

def pool2 : Array CpInfo := pool [(3, .methodref 4 5), (0, .class_ 6), (0, .nameAndType 7 8), (0, u "java/lang/Object"), (0, u "<init>"), (0, u "()V"), (9, .fieldref 19 20), (0, .class_ 21), (0, .nameAndType 22 23), (0, u "com/example/ruschlikon/ruschlikon/condition/Occurrences"), (0, u "min"), (0, u "I"), (0, .fieldref 19 25), (0, .nameAndType 26 23), (0, u "max"), (26, u "UNBOUNDED"), (1, u "(II)V"), (6, u "admits"), (0, u "(I)Z")] 33

def k2c0 : Code := { maxStack := 4, maxLocals := 3, code := prog_54_method_1_code, exceptionTable := #[], attributes := #[] }
def k2m0 : Method := { name := "<init>", desc := "(II)V", sig := { parameters := [.int, .int], returnType := none }, accessFlags := 1, code := some k2c0 }
def k2c1 : Code := { maxStack := 2, maxLocals := 2, code := prog_54_method_4_code, exceptionTable := #[], attributes := #[] }
def k2m1 : Method := { name := "admits", desc := "(I)Z", sig := { parameters := [.int], returnType := some .boolean }, accessFlags := 1, code := some k2c1 }
/-- com/example/ruschlikon/ruschlikon/condition/Occurrences -/
def k2 : Class := { plain "com/example/ruschlikon/ruschlikon/condition/Occurrences" (some 0) with
  accessFlags := 33
  interfaces := #[]
  cf := some (fileOf pool2 19 #[] #[{ accessFlags := 1, nameIndex := 7, descriptorIndex := 55, attributes := #[] }, { accessFlags := 1, nameIndex := 62, descriptorIndex := 63, attributes := #[] }] 33 4 #[] #[{ accessFlags := 25, nameIndex := 53, descriptorIndex := 23, attributes := #[] }, { accessFlags := 18, nameIndex := 22, descriptorIndex := 23, attributes := #[] }, { accessFlags := 18, nameIndex := 26, descriptorIndex := 23, attributes := #[] }])
  fields := #[{ name := "UNBOUNDED", type := .int, accessFlags := 25, slot := 0, constantValue := 0 }, { name := "min", type := .int, accessFlags := 18, slot := 0, constantValue := 0 }, { name := "max", type := .int, accessFlags := 18, slot := 1, constantValue := 0 }]
  methods := #[k2m0, k2m1]
  instanceTypes := #[.int, .int]
  staticTypes := #[.int]
  resolved := Array.replicate 97 none
  statics := none }

def pool3 : Array CpInfo := pool [(1, u "java/lang/Cloneable"), (0, .class_ 1), (0, u "java/lang/Object"), (0, .class_ 3)] 3

/-- java/lang/Cloneable -/
def k3 : Class := { plain "java/lang/Cloneable" (some 0) with
  accessFlags := 1537
  interfaces := #[]
  cf := some (fileOf pool3 2 #[] #[] 1537 4 #[] #[])
  fields := #[]
  methods := #[]
  instanceTypes := #[]
  staticTypes := #[]
  resolved := Array.replicate 8 none
  statics := none }

def pool4 : Array CpInfo := pool [(1, u "java/io/Serializable"), (0, .class_ 1), (0, u "java/lang/Object"), (0, .class_ 3)] 3

/-- java/io/Serializable -/
def k4 : Class := { plain "java/io/Serializable" (some 0) with
  accessFlags := 1537
  interfaces := #[]
  cf := some (fileOf pool4 2 #[] #[] 1537 4 #[] #[])
  fields := #[]
  methods := #[]
  instanceTypes := #[]
  staticTypes := #[]
  resolved := Array.replicate 8 none
  statics := none }

/-- the primitive byte -/
def k5 : Class := { plain "byte" none with kind := .primitive 'B', accessFlags := 0x411 }
/-- [B -/
def k6 : Class := { plain "[B" (some 0) with kind := .array 5 .byte, interfaces := #[3, 4], accessFlags := 1041 }

/-- the primitive int -/
def k7 : Class := { plain "int" none with kind := .primitive 'I', accessFlags := 0x411 }
/-- [I -/
def k8 : Class := { plain "[I" (some 0) with kind := .array 7 .int, interfaces := #[3, 4], accessFlags := 1041 }

def heap : Heap := #[]
def classes : Array Class := #[k0, k1, k2, k3, k4, k5, k6, k7, k8]
def interned : List (Array UInt16 × Addr) := []
def slotsUsed : Nat := 0
def theMethod : MethodId := ⟨1, 1⟩
def args0 : Array Value := #[.int 5, .int 9, .int 7, .int 3]
def aboutOver (below : List Frame) : State where
  vm := { classes := classes, interned := interned.toArray }
  heap := heap
  slotsUsed := slotsUsed
  threads := #[{ frames := .invoking theMethod args0 :: below }]
def below0 : List Frame := [.native { method := ⟨0, 0⟩, args := #[] }]
def about1 : State := aboutOver below0
def p0 : Program := .bare "" "" ""
def e0 : Env := launch0.env 0 0 0
theorem w_frames : about1.frames = Frame.invoking theMethod args0 :: below0 := rfl
set_option maxRecDepth 65536 in
theorem w_args : argsFit about1.vm theMethod args0 = true := by decide +kernel
set_option maxRecDepth 65536 in
theorem w_heap : heapFits about1 = true := by decide +kernel
set_option maxRecDepth 65536 in
theorem w_runnable : about1.curStatus? = some .runnable := by decide +kernel
set_option maxRecDepth 65536 in
theorem w_alone : about1.alone = true := by decide +kernel
set_option maxRecDepth 65536 in
theorem w_named : about1.methodNamed? x = some theMethod := by decide +kernel
set_option maxRecDepth 65536 in
theorem w_hears : about1.hears theMethod below0 = true := by decide +kernel
set_option maxRecDepth 65536 in
theorem w_ripe : about1.ripe theMethod args0 below0 = true := by decide +kernel
theorem w_running : about1.status = .running := rfl
set_option maxRecDepth 65536 in
theorem w_room : about1.hasRoom e0.platform room_1 = true :=
  launch0.hasRoom_least _ room_1 (by decide +kernel) (by decide +kernel) (by decide +kernel) (by decide +kernel) (by decide +kernel) (by decide +kernel)
theorem allAtoms_all (ts : List Jvm.Cond) (a : Array Jvm.Value) (st : Jvm.State) : (allAtoms ts).before a st = ts.all (fun c => c.before a st) := by
  induction ts with
  | nil => rfl
  | cons c t ih =>
    show (Jvm.Cond.and c (allAtoms t)).before a st = _
    rw [Jvm.Cond.before_and, ih, List.all_cons]
def words1 : List Jvm.Cond := Jvm.Cond.code x code maxLocals ret :: tables_1
/-- a 'code' word, met by the world's own term for the bytes: nothing is compared byte by byte -/
theorem code_word {y : MethodName} {bytes : ByteArray} {mx : Nat} {rt : Option FieldType} {a : Array Value} {s : State} {m : MethodId} {meth : Method} {c : Code} (h1 : s.methodNamed? y = some m) (h2 : s.vm.method? m = some meth) (h3 : meth.code = some c) (h4 : c.code = bytes)
    (h5 : (c.maxLocals == mx && c.exceptionTable.isEmpty && decide (c.maxStack ≤ mostOperands) && decide (meth.sig.returnType = rt) && !meth.locks && decide (parseMethodDescriptor y.desc = some meth.sig)) = true) : (Jvm.Cond.code y bytes mx rt).before a s = true := by
  simp only [Bool.and_eq_true, beq_iff_eq, Bool.not_eq_true', decide_eq_true_eq] at h5
  obtain ⟨⟨⟨⟨⟨g1, g2⟩, g3⟩, g4⟩, g5⟩, g6⟩ := h5
  simp [Cond.before, Cond.holds, Cond.value, h1, h2, h3, h4, g1, g2, g3, g4, g5, g6]
def isCode : Jvm.Cond → Bool
  | .code _ _ _ _ => true
  | _ => false
theorem all_split {L : List Jvm.Cond} {P : Jvm.Cond → Bool} (h1 : L.all (fun c => isCode c || P c) = true) (h2 : ∀ c ∈ L.filter isCode, P c = true) : L.all P = true := by
  refine List.all_eq_true.mpr fun c hc => ?_
  have h := List.all_eq_true.mp h1 c hc
  rcases Bool.eq_false_or_eq_true (isCode c) with hi | hi
  · exact h2 c (List.mem_filter.mpr ⟨hc, hi⟩)
  · simpa [hi] using h
set_option maxRecDepth 65536 in
theorem w_c0 : (Jvm.Cond.code x code maxLocals ret).before args0 about1 = true := code_word (m := ⟨1, 1⟩) (meth := k1m1) (c := k1c1) (by decide +kernel) rfl rfl rfl (by decide +kernel)
set_option maxRecDepth 65536 in
theorem w_c1 : (Jvm.Cond.code ({ cls := "com/example/ruschlikon/ruschlikon/condition/Occurrences", name := "<init>", desc := "(II)V" } : Jvm.MethodName) prog_54_method_1_code (3 : Nat) (Option.none : Option Jvm.ClassFile.FieldType)).before args0 about1 = true := code_word (m := ⟨2, 0⟩) (meth := k2m0) (c := k2c0) (by decide +kernel) rfl rfl rfl (by decide +kernel)
set_option maxRecDepth 65536 in
theorem w_c2 : (Jvm.Cond.code ({ cls := "java/lang/Object", name := "<init>", desc := "()V" } : Jvm.MethodName) object_method_1_code (1 : Nat) (Option.none : Option Jvm.ClassFile.FieldType)).before args0 about1 = true := code_word (m := ⟨0, 0⟩) (meth := k0m0) (c := k0c0) (by decide +kernel) rfl rfl rfl (by decide +kernel)
set_option maxRecDepth 65536 in
theorem w_c3 : (Jvm.Cond.code ({ cls := "com/example/ruschlikon/ruschlikon/condition/Occurrences", name := "admits", desc := "(I)Z" } : Jvm.MethodName) prog_54_method_4_code (2 : Nat) (Option.some Jvm.ClassFile.FieldType.boolean)).before args0 about1 = true := code_word (m := ⟨2, 1⟩) (meth := k2m1) (c := k2c1) (by decide +kernel) rfl rfl rfl (by decide +kernel)
def codes1 : List Jvm.Cond := [Jvm.Cond.code x code maxLocals ret, Jvm.Cond.code ({ cls := "com/example/ruschlikon/ruschlikon/condition/Occurrences", name := "<init>", desc := "(II)V" } : Jvm.MethodName) prog_54_method_1_code (3 : Nat) (Option.none : Option Jvm.ClassFile.FieldType), Jvm.Cond.code ({ cls := "java/lang/Object", name := "<init>", desc := "()V" } : Jvm.MethodName) object_method_1_code (1 : Nat) (Option.none : Option Jvm.ClassFile.FieldType), Jvm.Cond.code ({ cls := "com/example/ruschlikon/ruschlikon/condition/Occurrences", name := "admits", desc := "(I)Z" } : Jvm.MethodName) prog_54_method_4_code (2 : Nat) (Option.some Jvm.ClassFile.FieldType.boolean)]
set_option maxRecDepth 65536 in
theorem codes_eq : words1.filter isCode = codes1 := rfl
theorem w_codes : ∀ c ∈ words1.filter isCode, c.before args0 about1 = true := by
  rw [codes_eq]
  intro c hc
  simp only [codes1, List.mem_cons, List.not_mem_nil, or_false] at hc
  rcases hc with rfl | rfl | rfl | rfl
  · exact w_c0
  · exact w_c1
  · exact w_c2
  · exact w_c3
set_option maxRecDepth 65536 in
theorem w_t1 : words1.all (fun c => isCode c || c.before args0 about1) = true := by decide +kernel
theorem w_tables : (allAtoms (Jvm.Cond.code x code maxLocals ret :: tables_1)).before args0 about1 = true := by
  rw [allAtoms_all]
  show words1.all (fun c => c.before args0 about1) = true
  refine all_split ?_ w_codes
  rw [w_t1]
set_option maxRecDepth 65536 in
theorem w_case : (Jvm.Cond.and given_1 narrow_1).before args0 about1 = true := by decide +kernel
theorem w_applies : (headSpec (Jvm.Cond.code x code maxLocals ret :: tables_1) room_1).applies x e0.platform about1 = true :=
  (Spec.applies_iff w_frames).mpr ⟨w_running, w_runnable, w_alone, w_named, w_hears, w_ripe, w_room, w_tables⟩
theorem atStart : AtStart classFile x code maxLocals ret World_1 tables_1 room_1 Calls_1 rest_1 Pre_1 launch0 p0 e0 about1 theMethod args0 below0 :=
  ⟨lists_1, trivial, launch0.admits_env _ _ _, launch0.least_env, fairChoices_fair.cas, fairChoices_fair.clock, w_frames, w_args, w_heap, w_applies, trivial, trivial, w_case⟩
end start1
theorem witness_1 : WitnessClaimed_1 := ⟨start1.p0, start1.e0, start1.about1, start1.theMethod, start1.args0, start1.below0, start1.atStart⟩
end Jvm.Pilot.@@N@@
