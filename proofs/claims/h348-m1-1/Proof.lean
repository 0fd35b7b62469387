import JvmDerived
import JvmDerived.Pilot.@@N@@Statement
import JvmDerived.Pilot.@@N@@Code
set_option linter.unusedVariables false
set_option linter.unusedSimpArgs false
namespace Jvm.Pilot.@@N@@
open Jvm Jvm.ClassFile Sem Op Lib Jvm.Free Jvm.Stand Jvm.LawKit Jvm.RoadKit Bundle Jvm.Pilot.@@N@@.Jvm.D
-- OWN PRELUDE: a small logic over lawnew's family. Go .. h kc ks pc L S: from every state in which this body stands at pc with locals L, stack S, heap h (kc cells, ks slots made so far), it returns with Q.
abbrev MD := MethodName × ByteArray × Nat × Option FieldType
def Inv (Z : State) (n0 : Nat) (M : MD) (p : Program) (s : State) (m : MethodId) (meth : Method) (c : Code) : Prop :=
  p.tables.exec = Jvm.exec ∧ Z.Warmed39 s.vm ∧ c.code = M.2.1 ∧ c.maxLocals = M.2.2.1 ∧ s.vm.findClass M.1.cls = some m.cls ∧ meth.name = M.1.name ∧ meth.sig.returnType = M.2.2.2 ∧ meth.locks = false ∧ n0 ≤ s.heap.size
def Goes (p : Program) (e : Env) (below : List Frame) (s : State) (n0 kc ks : Nat) (Q : Option Value → Heap → Prop) (T : State) (g : JFrame) : Prop :=
  ∃ s₂ o, Steps p.tables e below (T.setTop g) s₂ ∧ s₂.status = .running ∧ Ended s₂ below o ∧ ∃ v L, o = .returned v ∧ (Q v s₂.heap ∧ Fr n0 L) ∧ FrameEnd s o s₂ L kc ks
def Go (l : Launch) (Z : State) (n0 : Nat) (M : MD) (R : Room) (Q : Option Value → Heap → Prop) (h : Heap) (kc ks pc : Nat) (L : Array Slot) (S : List Value) : Prop :=
  ∀ (p : Program) (e : Env) (s : State) (m : MethodId) (args : Array Value) (below : List Frame) (meth : Method) (c : Code) (T : State) (locs : List Loc),
    Inv Z n0 M p s m meth c → Stand p l e R s m args below meth c T locs kc ks → T.heap = h → Fr n0 locs → Goes p e below s n0 R.cells R.slots Q T (mkF m pc L S)
def Con (l : Launch) (Z : State) (n0 : Nat) (M : MD) (rm : Room) (as' : Array Value) (h0 : Heap) (Q : Option Value → Heap → Prop) : Prop :=
  n0 ≤ h0.size → ∀ ws : List Jvm.Cond, MetFree l M.1 (head1 (Jvm.Cond.code M.1 M.2.1 M.2.2.1 M.2.2.2 :: ws) rm) (fun a U => a = as' ∧ Z.Warmed39 U.vm ∧ U.heap = h0) (fun _ _ _ _ _ => True)
    (fun _ U o U' => ∃ v L, o = .returned v ∧ (Q v U'.heap ∧ Fr n0 L) ∧ FrameEnd U o U' L rm.cells rm.slots)
def cP : ClassFile.Cond → Int32 → Int32 → Prop
  | .eq, x, y => x = y
  | .ne, x, y => ¬ x = y
  | .lt, x, y => x < y
  | .ge, x, y => ¬ x < y
  | .gt, x, y => y < x
  | .le, x, y => ¬ y < x
theorem cP_t {cd : ClassFile.Cond} {x y : Int32} (h : cP cd x y) : if_icmp.holds cd x y = true := by
  cases cd
  · exact (teq h).1
  · exact (feq h).2
  · exact (tlt h).1
  · exact (flt h).2.1
  · exact (tlt h).2.2.1
  · exact (flt h).2.2.2
theorem cP_f {cd : ClassFile.Cond} {x y : Int32} (h : ¬ cP cd x y) : if_icmp.holds cd x y = false := by
  cases cd
  · exact (feq h).1
  · exact (teq (Classical.not_not.mp h)).2
  · exact (flt h).1
  · exact (tlt (Classical.not_not.mp h)).2.1
  · exact (flt h).2.2.1
  · exact (tlt (Classical.not_not.mp h)).2.2.2
def lP : ClassFile.Cond → Int64 → Int64 → Prop
  | .eq, x, y => x = y
  | .ne, x, y => ¬ x = y
  | .lt, x, y => x < y
  | .ge, x, y => ¬ x < y
  | .gt, x, y => y < x
  | .le, x, y => ¬ y < x
theorem lP_t {cd : ClassFile.Cond} {x y : Int64} (h : lP cd x y) : ifCond.holds cd (XT.cmpL x y) = true := by
  cases cd
  · exact XT.ll_eq_t h
  · exact XT.ll_ne_t h
  · exact XT.ll_lt_t h
  · exact XT.ll_ge_t h
  · exact XT.ll_gt_t h
  · exact XT.ll_le_t h
theorem lP_f {cd : ClassFile.Cond} {x y : Int64} (h : ¬ lP cd x y) : ifCond.holds cd (XT.cmpL x y) = false := by
  cases cd
  · exact XT.ll_eq_f h
  · exact XT.ll_ne_f (Classical.not_not.mp h)
  · exact XT.ll_lt_f h
  · exact XT.ll_ge_f (Classical.not_not.mp h)
  · exact XT.ll_gt_f h
  · exact XT.ll_le_f (Classical.not_not.mp h)
section Own
variable {l : Launch} {Z : State} {n0 : Nat} {M : MD} {R : Room} {Q : Option Value → Heap → Prop} {h : Heap} {kc ks pc : Nat} {L : Array Slot} {S : List Value} {a0 : Array Value}
theorem g_via {h' : Heap} {kc' ks' pc' : Nat} {L' : Array Slot} {S' : List Value}
    (st : ∀ {p : Program} {e : Env} {s : State} {m : MethodId} {args : Array Value} {below : List Frame} {meth : Method} {c : Code} {T : State} {locs : List Loc}, Inv Z n0 M p s m meth c → Stand p l e R s m args below meth c T locs kc ks → T.heap = h →
      ∃ T', Stand p l e R s m args below meth c T' locs kc' ks' ∧ T'.heap = h' ∧ ∀ target, Steps p.tables e below (T'.setTop (mkF m pc' L' S')) target → Steps p.tables e below (T.setTop (mkF m pc L S)) target)
    (k : Go l Z n0 M R Q h' kc' ks' pc' L' S') : Go l Z n0 M R Q h kc ks pc L S := by
  intro p e s m args below meth c T locs I X eT N
  obtain ⟨T', X', eT', st'⟩ := st I X eT
  obtain ⟨s₂, o, h1, r⟩ := k p e s m args below meth c T' locs I X' eT' N
  exact ⟨s₂, o, st' _ h1, r⟩
theorem g_pure {pc' : Nat} {L' : Array Slot} {S' : List Value}
    (st : ∀ {p : Program} {e : Env} {s : State} {m : MethodId} {args : Array Value} {below : List Frame} {meth : Method} {c : Code} {T : State} {locs : List Loc}, Inv Z n0 M p s m meth c → Stand p l e R s m args below meth c T locs kc ks →
      ∀ target, Steps p.tables e below (T.setTop (mkF m pc' L' S')) target → Steps p.tables e below (T.setTop (mkF m pc L S)) target)
    (k : Go l Z n0 M R Q h kc ks pc' L' S') : Go l Z n0 M R Q h kc ks pc L S :=
  g_via (fun I X eT => ⟨_, X, eT, st I X⟩) k
theorem g_iload_n (pc' : Nat) {k : Fin 4} {v : Int32} (hd : decode M.2.1 pc = .ok (.iload_n k, 1)) (hl : L[k.val]? = some (.val (.int v))) (hp : pc + 1 = pc') (kk : Go l Z n0 M R Q h kc ks pc' L (.int v :: S)) : Go l Z n0 M R Q h kc ks pc L (S) := by
  subst hp
  exact g_pure (fun I X t kt => XS.iloadN X.here I.1 rfl (hb I.2.2.1 hd) hl kt) kk
theorem g_iload (pc' : Nat) {k : Nat} {v : Int32} (hd : decode M.2.1 pc = .ok (.iload k, 2)) (hl : L[k]? = some (.val (.int v))) (hp : pc + 2 = pc') (kk : Go l Z n0 M R Q h kc ks pc' L (.int v :: S)) : Go l Z n0 M R Q h kc ks pc L (S) := by
  subst hp
  exact g_pure (fun I X t kt => XS.iload X.here I.1 rfl (hb I.2.2.1 hd) hl kt) kk
theorem g_lload_n (pc' : Nat) {k : Fin 4} {v : Int64} (hd : decode M.2.1 pc = .ok (.lload_n k, 1)) (hl : L[k.val]? = some (.val (.long v))) (hp : pc + 1 = pc') (kk : Go l Z n0 M R Q h kc ks pc' L (.long v :: S)) : Go l Z n0 M R Q h kc ks pc L (S) := by
  subst hp
  exact g_pure (fun I X t kt => XT.lloadN X.here I.1 rfl (hb I.2.2.1 hd) hl kt) kk
theorem g_lload (pc' : Nat) {k : Nat} {v : Int64} (hd : decode M.2.1 pc = .ok (.lload k, 2)) (hl : L[k]? = some (.val (.long v))) (hp : pc + 2 = pc') (kk : Go l Z n0 M R Q h kc ks pc' L (.long v :: S)) : Go l Z n0 M R Q h kc ks pc L (S) := by
  subst hp
  exact g_pure (fun I X t kt => XT.lload X.here I.1 rfl (hb I.2.2.1 hd) hl kt) kk
theorem g_aload_n (pc' : Nat) {k : Fin 4} {v : Value} (hd : decode M.2.1 pc = .ok (.aload_n k, 1)) (hl : L[k.val]? = some (.val v)) (hv : v.isRef = true) (hp : pc + 1 = pc') (kk : Go l Z n0 M R Q h kc ks pc' L (v :: S)) : Go l Z n0 M R Q h kc ks pc L (S) := by
  subst hp
  exact g_pure (fun I X t kt => XS.aloadN X.here I.1 rfl (hb I.2.2.1 hd) hl hv kt) kk
theorem g_aload (pc' : Nat) {k : Nat} {v : Value} (hd : decode M.2.1 pc = .ok (.aload k, 2)) (hl : L[k]? = some (.val v)) (hv : v.isRef = true) (hp : pc + 2 = pc') (kk : Go l Z n0 M R Q h kc ks pc' L (v :: S)) : Go l Z n0 M R Q h kc ks pc L (S) := by
  subst hp
  exact g_pure (fun I X t kt => XS.aload X.here I.1 rfl (hb I.2.2.1 hd) hl hv kt) kk
theorem g_istore_n (pc' : Nat) {k : Fin 4} {x : Int32} (L' : Array Slot) (hd : decode M.2.1 pc = .ok (.istore_n k, 1)) (hl : storeLocals L k.val (.int x) = some L') (hp : pc + 1 = pc') (kk : Go l Z n0 M R Q h kc ks pc' L' (S)) : Go l Z n0 M R Q h kc ks pc L (.int x :: S) := by
  subst hp
  exact g_pure (fun I X t kt => XS.istoreN X.here I.1 rfl (hb I.2.2.1 hd) rfl hl kt) kk
theorem g_istore (pc' : Nat) {k : Nat} {x : Int32} (L' : Array Slot) (hd : decode M.2.1 pc = .ok (.istore k, 2)) (hl : storeLocals L k (.int x) = some L') (hp : pc + 2 = pc') (kk : Go l Z n0 M R Q h kc ks pc' L' (S)) : Go l Z n0 M R Q h kc ks pc L (.int x :: S) := by
  subst hp
  exact g_pure (fun I X t kt => XS.istore X.here I.1 rfl (hb I.2.2.1 hd) rfl hl kt) kk
theorem g_lstore_n (pc' : Nat) {k : Fin 4} {x : Int64} (L' : Array Slot) (hd : decode M.2.1 pc = .ok (.lstore_n k, 1)) (hl : storeLocals L k.val (.long x) = some L') (hp : pc + 1 = pc') (kk : Go l Z n0 M R Q h kc ks pc' L' (S)) : Go l Z n0 M R Q h kc ks pc L (.long x :: S) := by
  subst hp
  exact g_pure (fun I X t kt => XT.lstoreN X.here I.1 rfl (hb I.2.2.1 hd) rfl hl kt) kk
theorem g_lstore (pc' : Nat) {k : Nat} {x : Int64} (L' : Array Slot) (hd : decode M.2.1 pc = .ok (.lstore k, 2)) (hl : storeLocals L k (.long x) = some L') (hp : pc + 2 = pc') (kk : Go l Z n0 M R Q h kc ks pc' L' (S)) : Go l Z n0 M R Q h kc ks pc L (.long x :: S) := by
  subst hp
  exact g_pure (fun I X t kt => XT.lstore X.here I.1 rfl (hb I.2.2.1 hd) rfl hl kt) kk
theorem g_astore_n (pc' : Nat) {k : Fin 4} {x : Value} (L' : Array Slot) (hd : decode M.2.1 pc = .ok (.astore_n k, 1)) (hv : x.isRef = true) (hl : storeLocals L k.val x = some L') (hp : pc + 1 = pc') (kk : Go l Z n0 M R Q h kc ks pc' L' (S)) : Go l Z n0 M R Q h kc ks pc L (x :: S) := by
  subst hp
  exact g_pure (fun I X t kt => XS.astoreN X.here I.1 rfl (hb I.2.2.1 hd) rfl hv hl kt) kk
theorem g_astore (pc' : Nat) {k : Nat} {x : Value} (L' : Array Slot) (hd : decode M.2.1 pc = .ok (.astore k, 2)) (hv : x.isRef = true) (hl : storeLocals L k x = some L') (hp : pc + 2 = pc') (kk : Go l Z n0 M R Q h kc ks pc' L' (S)) : Go l Z n0 M R Q h kc ks pc L (x :: S) := by
  subst hp
  exact g_pure (fun I X t kt => XS.astore X.here I.1 rfl (hb I.2.2.1 hd) rfl hv hl kt) kk
theorem g_iinc (pc' : Nat) {k : Nat} {cst : Int} {x : Int32} (L' : Array Slot) (hd : decode M.2.1 pc = .ok (.iinc k cst, 3)) (hl : L[k]? = some (.val (.int x))) (hl2 : storeLocals L k (.int (x + Int32.ofInt cst)) = some L') (hp : pc + 3 = pc') (kk : Go l Z n0 M R Q h kc ks pc' L' (S)) : Go l Z n0 M R Q h kc ks pc L (S) := by
  subst hp
  exact g_pure (fun I X t kt => XS.iinc X.here I.1 rfl (hb I.2.2.1 hd) hl hl2 kt) kk
theorem g_iconst (pc' : Nat) {i : Int} (w : Int32) (hd : decode M.2.1 pc = .ok (.iconst i, 1)) (hv : w = Int32.ofInt i) (hp : pc + 1 = pc') (kk : Go l Z n0 M R Q h kc ks pc' L (.int w :: S)) : Go l Z n0 M R Q h kc ks pc L (S) := by
  subst hp
  exact g_pure (fun I X t kt => XS.iconst X.here I.1 rfl (hb I.2.2.1 hd) (hv ▸ kt)) kk
theorem g_bipush (pc' : Nat) {i : Int} (w : Int32) (hd : decode M.2.1 pc = .ok (.bipush i, 2)) (hv : w = (Int8.ofInt i).toInt32) (hp : pc + 2 = pc') (kk : Go l Z n0 M R Q h kc ks pc' L (.int w :: S)) : Go l Z n0 M R Q h kc ks pc L (S) := by
  subst hp
  exact g_pure (fun I X t kt => XS.bipush X.here I.1 rfl (hb I.2.2.1 hd) (hv ▸ kt)) kk
theorem g_sipush (pc' : Nat) {i : Int} (w : Int32) (hd : decode M.2.1 pc = .ok (.sipush i, 3)) (hv : w = (Int16.ofInt i).toInt32) (hp : pc + 3 = pc') (kk : Go l Z n0 M R Q h kc ks pc' L (.int w :: S)) : Go l Z n0 M R Q h kc ks pc L (S) := by
  subst hp
  exact g_pure (fun I X t kt => XS.sipush X.here I.1 rfl (hb I.2.2.1 hd) (hv ▸ kt)) kk
theorem g_lconst (pc' : Nat) {k : Fin 2} (w : Int64) (hd : decode M.2.1 pc = .ok (.lconst k, 1)) (hv : w = Int64.ofNat k) (hp : pc + 1 = pc') (kk : Go l Z n0 M R Q h kc ks pc' L (.long w :: S)) : Go l Z n0 M R Q h kc ks pc L (S) := by
  subst hp
  exact g_pure (fun I X t kt => XT.lconst X.here I.1 rfl (hb I.2.2.1 hd) (hv ▸ kt)) kk
theorem g_aconst_null (pc' : Nat)  (hd : decode M.2.1 pc = .ok (.aconst_null, 1))  (hp : pc + 1 = pc') (kk : Go l Z n0 M R Q h kc ks pc' L (.null :: S)) : Go l Z n0 M R Q h kc ks pc L (S) := by
  subst hp
  exact g_pure (fun I X t kt => XS.aconstNull X.here I.1 rfl (hb I.2.2.1 hd) kt) kk
theorem g_ldcI (pc' : Nat) {index : Nat} {w : Int32} (hd : decode M.2.1 pc = .ok (.ldc index, 2)) (hw : (Jvm.Cond.constant M.1.cls index w).before a0 Z = true) (hp : pc + 2 = pc') (kk : Go l Z n0 M R Q h kc ks pc' L (.int w :: S)) : Go l Z n0 M R Q h kc ks pc L (S) := by
  subst hp
  exact g_pure (fun I X t kt => X.ldcI I.1 I.2.2.2.2.1 (mvT I.2.1 hw) rfl (hb I.2.2.1 hd) kt) kk
theorem g_ldcWI (pc' : Nat) {index : Nat} {w : Int32} (hd : decode M.2.1 pc = .ok (.ldc_w index, 3)) (hw : (Jvm.Cond.constant M.1.cls index w).before a0 Z = true) (hp : pc + 3 = pc') (kk : Go l Z n0 M R Q h kc ks pc' L (.int w :: S)) : Go l Z n0 M R Q h kc ks pc L (S) := by
  subst hp
  exact g_pure (fun I X t kt => X.ldcWI I.1 I.2.2.2.2.1 (mvT I.2.1 hw) rfl (hb I.2.2.1 hd) kt) kk
theorem g_ldc2J (pc' : Nat) {index : Nat} {w : Int64} (hd : decode M.2.1 pc = .ok (.ldc2_w index, 3)) (hw : (Jvm.Cond.constantLong M.1.cls index w).before a0 Z = true) (hp : pc + 3 = pc') (kk : Go l Z n0 M R Q h kc ks pc' L (.long w :: S)) : Go l Z n0 M R Q h kc ks pc L (S) := by
  subst hp
  exact g_pure (fun I X t kt => X.ldc2J I.1 I.2.2.2.2.1 (mvT I.2.1 hw) rfl (hb I.2.2.1 hd) kt) kk
theorem g_iadd (pc' : Nat) {x y : Int32} (hd : decode M.2.1 pc = .ok (.iadd, 1))  (hp : pc + 1 = pc') (kk : Go l Z n0 M R Q h kc ks pc' L (.int (x + y) :: S)) : Go l Z n0 M R Q h kc ks pc L (.int y :: .int x :: S) := by
  subst hp
  exact g_pure (fun I X t kt => XS.iadd X.here I.1 rfl (hb I.2.2.1 hd) rfl kt) kk
theorem g_isub (pc' : Nat) {x y : Int32} (hd : decode M.2.1 pc = .ok (.isub, 1))  (hp : pc + 1 = pc') (kk : Go l Z n0 M R Q h kc ks pc' L (.int (x - y) :: S)) : Go l Z n0 M R Q h kc ks pc L (.int y :: .int x :: S) := by
  subst hp
  exact g_pure (fun I X t kt => XS.isub X.here I.1 rfl (hb I.2.2.1 hd) rfl kt) kk
theorem g_imul (pc' : Nat) {x y : Int32} (hd : decode M.2.1 pc = .ok (.imul, 1))  (hp : pc + 1 = pc') (kk : Go l Z n0 M R Q h kc ks pc' L (.int (x * y) :: S)) : Go l Z n0 M R Q h kc ks pc L (.int y :: .int x :: S) := by
  subst hp
  exact g_pure (fun I X t kt => XS.imul X.here I.1 rfl (hb I.2.2.1 hd) rfl kt) kk
theorem g_iand (pc' : Nat) {x y : Int32} (hd : decode M.2.1 pc = .ok (.iand, 1))  (hp : pc + 1 = pc') (kk : Go l Z n0 M R Q h kc ks pc' L (.int (x &&& y) :: S)) : Go l Z n0 M R Q h kc ks pc L (.int y :: .int x :: S) := by
  subst hp
  exact g_pure (fun I X t kt => XS.iand X.here I.1 rfl (hb I.2.2.1 hd) rfl kt) kk
theorem g_ior (pc' : Nat) {x y : Int32} (hd : decode M.2.1 pc = .ok (.ior, 1))  (hp : pc + 1 = pc') (kk : Go l Z n0 M R Q h kc ks pc' L (.int (x ||| y) :: S)) : Go l Z n0 M R Q h kc ks pc L (.int y :: .int x :: S) := by
  subst hp
  exact g_pure (fun I X t kt => XT.ior X.here I.1 rfl (hb I.2.2.1 hd) rfl kt) kk
theorem g_ixor (pc' : Nat) {x y : Int32} (hd : decode M.2.1 pc = .ok (.ixor, 1))  (hp : pc + 1 = pc') (kk : Go l Z n0 M R Q h kc ks pc' L (.int (x ^^^ y) :: S)) : Go l Z n0 M R Q h kc ks pc L (.int y :: .int x :: S) := by
  subst hp
  exact g_pure (fun I X t kt => XT.ixor X.here I.1 rfl (hb I.2.2.1 hd) rfl kt) kk
theorem g_ishl (pc' : Nat) {x y : Int32} (hd : decode M.2.1 pc = .ok (.ishl, 1))  (hp : pc + 1 = pc') (kk : Go l Z n0 M R Q h kc ks pc' L (.int (x <<< (y &&& 31)) :: S)) : Go l Z n0 M R Q h kc ks pc L (.int y :: .int x :: S) := by
  subst hp
  exact g_pure (fun I X t kt => XT.ishl X.here I.1 rfl (hb I.2.2.1 hd) rfl kt) kk
theorem g_ishr (pc' : Nat) {x y : Int32} (hd : decode M.2.1 pc = .ok (.ishr, 1))  (hp : pc + 1 = pc') (kk : Go l Z n0 M R Q h kc ks pc' L (.int (x >>> (y &&& 31)) :: S)) : Go l Z n0 M R Q h kc ks pc L (.int y :: .int x :: S) := by
  subst hp
  exact g_pure (fun I X t kt => XT.ishr X.here I.1 rfl (hb I.2.2.1 hd) rfl kt) kk
theorem g_iushr (pc' : Nat) {x y : Int32} (hd : decode M.2.1 pc = .ok (.iushr, 1))  (hp : pc + 1 = pc') (kk : Go l Z n0 M R Q h kc ks pc' L (.int (XT.ushr x y) :: S)) : Go l Z n0 M R Q h kc ks pc L (.int y :: .int x :: S) := by
  subst hp
  exact g_pure (fun I X t kt => XT.iushr X.here I.1 rfl (hb I.2.2.1 hd) rfl kt) kk
theorem g_idiv (pc' : Nat) {x y : Int32} (hd : decode M.2.1 pc = .ok (.idiv, 1)) (hy : y ≠ 0) (hp : pc + 1 = pc') (kk : Go l Z n0 M R Q h kc ks pc' L (.int (x / y) :: S)) : Go l Z n0 M R Q h kc ks pc L (.int y :: .int x :: S) := by
  subst hp
  exact g_pure (fun I X t kt => XS.idiv X.here I.1 rfl (hb I.2.2.1 hd) rfl hy kt) kk
theorem g_irem (pc' : Nat) {x y : Int32} (hd : decode M.2.1 pc = .ok (.irem, 1)) (hy : y ≠ 0) (hp : pc + 1 = pc') (kk : Go l Z n0 M R Q h kc ks pc' L (.int (x % y) :: S)) : Go l Z n0 M R Q h kc ks pc L (.int y :: .int x :: S) := by
  subst hp
  exact g_pure (fun I X t kt => iremM X I.1 rfl (hb I.2.2.1 hd) rfl hy kt) kk
theorem g_ineg (pc' : Nat) {x : Int32} (hd : decode M.2.1 pc = .ok (.ineg, 1))  (hp : pc + 1 = pc') (kk : Go l Z n0 M R Q h kc ks pc' L (.int (-x) :: S)) : Go l Z n0 M R Q h kc ks pc L (.int x :: S) := by
  subst hp
  exact g_pure (fun I X t kt => XS.ineg X.here I.1 rfl (hb I.2.2.1 hd) rfl kt) kk
theorem g_ladd (pc' : Nat) {x y : Int64} (hd : decode M.2.1 pc = .ok (.ladd, 1))  (hp : pc + 1 = pc') (kk : Go l Z n0 M R Q h kc ks pc' L (.long (x + y) :: S)) : Go l Z n0 M R Q h kc ks pc L (.long y :: .long x :: S) := by
  subst hp
  exact g_pure (fun I X t kt => XT.ladd X.here I.1 rfl (hb I.2.2.1 hd) rfl kt) kk
theorem g_lsub (pc' : Nat) {x y : Int64} (hd : decode M.2.1 pc = .ok (.lsub, 1))  (hp : pc + 1 = pc') (kk : Go l Z n0 M R Q h kc ks pc' L (.long (x - y) :: S)) : Go l Z n0 M R Q h kc ks pc L (.long y :: .long x :: S) := by
  subst hp
  exact g_pure (fun I X t kt => XT.lsub X.here I.1 rfl (hb I.2.2.1 hd) rfl kt) kk
theorem g_lmul (pc' : Nat) {x y : Int64} (hd : decode M.2.1 pc = .ok (.lmul, 1))  (hp : pc + 1 = pc') (kk : Go l Z n0 M R Q h kc ks pc' L (.long (x * y) :: S)) : Go l Z n0 M R Q h kc ks pc L (.long y :: .long x :: S) := by
  subst hp
  exact g_pure (fun I X t kt => XT.lmul X.here I.1 rfl (hb I.2.2.1 hd) rfl kt) kk
theorem g_land (pc' : Nat) {x y : Int64} (hd : decode M.2.1 pc = .ok (.land, 1))  (hp : pc + 1 = pc') (kk : Go l Z n0 M R Q h kc ks pc' L (.long (x &&& y) :: S)) : Go l Z n0 M R Q h kc ks pc L (.long y :: .long x :: S) := by
  subst hp
  exact g_pure (fun I X t kt => XT.land X.here I.1 rfl (hb I.2.2.1 hd) rfl kt) kk
theorem g_lor (pc' : Nat) {x y : Int64} (hd : decode M.2.1 pc = .ok (.lor, 1))  (hp : pc + 1 = pc') (kk : Go l Z n0 M R Q h kc ks pc' L (.long (x ||| y) :: S)) : Go l Z n0 M R Q h kc ks pc L (.long y :: .long x :: S) := by
  subst hp
  exact g_pure (fun I X t kt => XT.lor X.here I.1 rfl (hb I.2.2.1 hd) rfl kt) kk
theorem g_lxor (pc' : Nat) {x y : Int64} (hd : decode M.2.1 pc = .ok (.lxor, 1))  (hp : pc + 1 = pc') (kk : Go l Z n0 M R Q h kc ks pc' L (.long (x ^^^ y) :: S)) : Go l Z n0 M R Q h kc ks pc L (.long y :: .long x :: S) := by
  subst hp
  exact g_pure (fun I X t kt => XT.lxor X.here I.1 rfl (hb I.2.2.1 hd) rfl kt) kk
theorem g_lrem (pc' : Nat) {x y : Int64} (hd : decode M.2.1 pc = .ok (.lrem, 1)) (hy : y ≠ 0) (hp : pc + 1 = pc') (kk : Go l Z n0 M R Q h kc ks pc' L (.long (x - (x / y) * y) :: S)) : Go l Z n0 M R Q h kc ks pc L (.long y :: .long x :: S) := by
  subst hp
  exact g_pure (fun I X t kt => XT.lrem X.here I.1 rfl (hb I.2.2.1 hd) rfl hy kt) kk
theorem g_lneg (pc' : Nat) {x : Int64} (hd : decode M.2.1 pc = .ok (.lneg, 1))  (hp : pc + 1 = pc') (kk : Go l Z n0 M R Q h kc ks pc' L (.long (-x) :: S)) : Go l Z n0 M R Q h kc ks pc L (.long x :: S) := by
  subst hp
  exact g_pure (fun I X t kt => XT.lneg X.here I.1 rfl (hb I.2.2.1 hd) rfl kt) kk
theorem g_lshl (pc' : Nat) {x : Int64} {y : Int32} (hd : decode M.2.1 pc = .ok (.lshl, 1))  (hp : pc + 1 = pc') (kk : Go l Z n0 M R Q h kc ks pc' L (.long (x <<< (y.toInt64 &&& 63)) :: S)) : Go l Z n0 M R Q h kc ks pc L (.int y :: .long x :: S) := by
  subst hp
  exact g_pure (fun I X t kt => XT.lshl X.here I.1 rfl (hb I.2.2.1 hd) rfl kt) kk
theorem g_lushr (pc' : Nat) {x : Int64} {y : Int32} (hd : decode M.2.1 pc = .ok (.lushr, 1))  (hp : pc + 1 = pc') (kk : Go l Z n0 M R Q h kc ks pc' L (.long (XT.ushrL x y) :: S)) : Go l Z n0 M R Q h kc ks pc L (.int y :: .long x :: S) := by
  subst hp
  exact g_pure (fun I X t kt => XT.lushr X.here I.1 rfl (hb I.2.2.1 hd) rfl kt) kk
theorem g_i2l (pc' : Nat) {x : Int32} (hd : decode M.2.1 pc = .ok (.i2l, 1))  (hp : pc + 1 = pc') (kk : Go l Z n0 M R Q h kc ks pc' L (.long x.toInt64 :: S)) : Go l Z n0 M R Q h kc ks pc L (.int x :: S) := by
  subst hp
  exact g_pure (fun I X t kt => XT.i2l X.here I.1 rfl (hb I.2.2.1 hd) rfl kt) kk
theorem g_l2i (pc' : Nat) {x : Int64} (hd : decode M.2.1 pc = .ok (.l2i, 1))  (hp : pc + 1 = pc') (kk : Go l Z n0 M R Q h kc ks pc' L (.int x.toInt32 :: S)) : Go l Z n0 M R Q h kc ks pc L (.long x :: S) := by
  subst hp
  exact g_pure (fun I X t kt => XT.l2i X.here I.1 rfl (hb I.2.2.1 hd) rfl kt) kk
theorem g_dload_n (pc' : Nat) {k : Fin 4} {v : UInt64} (hd : decode M.2.1 pc = .ok (.dload_n k, 1)) (hl : L[k.val]? = some (.val (.double v))) (hp : pc + 1 = pc') (kk : Go l Z n0 M R Q h kc ks pc' L (.double v :: S)) : Go l Z n0 M R Q h kc ks pc L (S) := by
  subst hp
  exact g_pure (fun I X t kt => XS.dloadN X.here I.1 rfl (hb I.2.2.1 hd) hl kt) kk
theorem g_ldc2D (pc' : Nat) {index : Nat} {w : UInt64} (hd : decode M.2.1 pc = .ok (.ldc2_w index, 3)) (hw : (Jvm.Cond.constantDouble M.1.cls index w).before a0 Z = true) (hp : pc + 3 = pc') (kk : Go l Z n0 M R Q h kc ks pc' L (.double w :: S)) : Go l Z n0 M R Q h kc ks pc L (S) := by
  subst hp
  exact g_pure (fun I X t kt => X.ldc2DoubleC I.1 I.2.2.2.2.1 (mvT I.2.1 hw) (g := mkF _ pc L S) rfl (hb I.2.2.1 hd) _ kt) kk
theorem g_dup (pc' : Nat) {v : Value} (hd : decode M.2.1 pc = .ok (.dup, 1)) (hv : v.category = 1) (hp : pc + 1 = pc') (kk : Go l Z n0 M R Q h kc ks pc' L (v :: v :: S)) : Go l Z n0 M R Q h kc ks pc L (v :: S) := by
  subst hp
  exact g_pure (fun I X t kt => XS.dup X.here I.1 rfl (hb I.2.2.1 hd) rfl hv kt) kk
theorem g_goto (pc' : Nat) {o : Int} (hd : decode M.2.1 pc = .ok (.goto o, 3)) (hp : (pc : Int) + o = (pc' : Int)) (kk : Go l Z n0 M R Q h kc ks pc' L S) : Go l Z n0 M R Q h kc ks pc L S :=
  g_pure (fun I X t kt => XS.goto X.here I.1 rfl (pc0 := pc) (pc' := pc') rfl (hb I.2.2.1 hd) (by omega) (by omega) kt) kk
theorem g_icmpT (pc' : Nat) {cd : ClassFile.Cond} {o : Int} {x y : Int32} (hd : decode M.2.1 pc = .ok (.if_icmp cd o, 3)) (hc : cP cd x y) (hp : (pc : Int) + o = (pc' : Int)) (kk : Go l Z n0 M R Q h kc ks pc' L S) : Go l Z n0 M R Q h kc ks pc L (.int y :: .int x :: S) :=
  g_pure (fun I X t kt => XS.icmpYes X.here I.1 rfl (pc0 := pc) (pc' := pc') rfl (hb I.2.2.1 hd) rfl (cP_t hc) (by omega) (by omega) kt) kk
theorem g_icmpF (pc' : Nat) {cd : ClassFile.Cond} {o : Int} {x y : Int32} (hd : decode M.2.1 pc = .ok (.if_icmp cd o, 3)) (hc : ¬ cP cd x y) (hp : pc + 3 = pc') (kk : Go l Z n0 M R Q h kc ks pc' L S) : Go l Z n0 M R Q h kc ks pc L (.int y :: .int x :: S) := by
  subst hp
  exact g_pure (fun I X t kt => XS.icmpNo X.here I.1 rfl (hb I.2.2.1 hd) rfl (cP_f hc) kt) kk
theorem g_ifT (pc' : Nat) {cd : ClassFile.Cond} {o : Int} {x : Int32} (hd : decode M.2.1 pc = .ok (.ifCond cd o, 3)) (hc : cP cd x 0) (hp : (pc : Int) + o = (pc' : Int)) (kk : Go l Z n0 M R Q h kc ks pc' L S) : Go l Z n0 M R Q h kc ks pc L (.int x :: S) :=
  g_pure (fun I X t kt => XS.ifYes X.here I.1 rfl (pc0 := pc) (pc' := pc') rfl (hb I.2.2.1 hd) rfl ((if0 cd x).trans (cP_t hc)) (by omega) (by omega) kt) kk
theorem g_ifF (pc' : Nat) {cd : ClassFile.Cond} {o : Int} {x : Int32} (hd : decode M.2.1 pc = .ok (.ifCond cd o, 3)) (hc : ¬ cP cd x 0) (hp : pc + 3 = pc') (kk : Go l Z n0 M R Q h kc ks pc' L S) : Go l Z n0 M R Q h kc ks pc L (.int x :: S) := by
  subst hp
  exact g_pure (fun I X t kt => XS.ifNo X.here I.1 rfl (hb I.2.2.1 hd) rfl ((if0 cd x).trans (cP_f hc)) kt) kk
theorem g_lcmpT (pc' : Nat) {cd : ClassFile.Cond} {o : Int} {x y : Int64} (hd : decode M.2.1 pc = .ok (.lcmp, 1)) (hd2 : decode M.2.1 (pc + 1) = .ok (.ifCond cd o, 3)) (hc : lP cd x y) (hp : ((pc + 1 : Nat) : Int) + o = (pc' : Int)) (kk : Go l Z n0 M R Q h kc ks pc' L S) : Go l Z n0 M R Q h kc ks pc L (.long y :: .long x :: S) :=
  g_pure (fun I X t kt => XT.lcmp X.here I.1 rfl (hb I.2.2.1 hd) rfl (XS.ifYes X.here I.1 rfl (pc0 := pc + 1) (pc' := pc') rfl (hb I.2.2.1 hd2) rfl (lP_t hc) (by omega) (by omega) kt)) kk
theorem g_lcmpF (pc' : Nat) {cd : ClassFile.Cond} {o : Int} {x y : Int64} (hd : decode M.2.1 pc = .ok (.lcmp, 1)) (hd2 : decode M.2.1 (pc + 1) = .ok (.ifCond cd o, 3)) (hc : ¬ lP cd x y) (hp : pc + 4 = pc') (kk : Go l Z n0 M R Q h kc ks pc' L S) : Go l Z n0 M R Q h kc ks pc L (.long y :: .long x :: S) := by
  subst hp
  exact g_pure (fun I X t kt => XT.lcmp X.here I.1 rfl (hb I.2.2.1 hd) rfl (XS.ifNo X.here I.1 rfl (hb I.2.2.1 hd2) rfl (lP_f hc) kt)) kk
theorem g_icmp (pcT pcF : Nat) {cd : ClassFile.Cond} {o : Int} {x y : Int32} (hd : decode M.2.1 pc = .ok (.if_icmp cd o, 3)) (hp : (pc : Int) + o = (pcT : Int)) (hp2 : pc + 3 = pcF) (k1 : cP cd x y → Go l Z n0 M R Q h kc ks pcT L S) (k2 : ¬ cP cd x y → Go l Z n0 M R Q h kc ks pcF L S) : Go l Z n0 M R Q h kc ks pc L (.int y :: .int x :: S) := by
  by_cases q : cP cd x y
  · exact g_icmpT pcT hd q hp (k1 q)
  · exact g_icmpF pcF hd q hp2 (k2 q)
theorem g_ifC (pcT pcF : Nat) {cd : ClassFile.Cond} {o : Int} {x : Int32} (hd : decode M.2.1 pc = .ok (.ifCond cd o, 3)) (hp : (pc : Int) + o = (pcT : Int)) (hp2 : pc + 3 = pcF) (k1 : cP cd x 0 → Go l Z n0 M R Q h kc ks pcT L S) (k2 : ¬ cP cd x 0 → Go l Z n0 M R Q h kc ks pcF L S) : Go l Z n0 M R Q h kc ks pc L (.int x :: S) := by
  by_cases q : cP cd x 0
  · exact g_ifT pcT hd q hp (k1 q)
  · exact g_ifF pcF hd q hp2 (k2 q)
theorem g_lcmp (pcT pcF : Nat) {cd : ClassFile.Cond} {o : Int} {x y : Int64} (hd : decode M.2.1 pc = .ok (.lcmp, 1)) (hd2 : decode M.2.1 (pc + 1) = .ok (.ifCond cd o, 3)) (hp : ((pc + 1 : Nat) : Int) + o = (pcT : Int)) (hp2 : pc + 4 = pcF) (k1 : lP cd x y → Go l Z n0 M R Q h kc ks pcT L S) (k2 : ¬ lP cd x y → Go l Z n0 M R Q h kc ks pcF L S) : Go l Z n0 M R Q h kc ks pc L (.long y :: .long x :: S) := by
  by_cases q : lP cd x y
  · exact g_lcmpT pcT hd hd2 q hp (k1 q)
  · exact g_lcmpF pcF hd hd2 q hp2 (k2 q)
theorem g_nullT (pc' : Nat) {o : Int} (hd : decode M.2.1 pc = .ok (.ifnull o, 3)) (hp : (pc : Int) + o = (pc' : Int)) (kk : Go l Z n0 M R Q h kc ks pc' L S) : Go l Z n0 M R Q h kc ks pc L (.null :: S) :=
  g_pure (fun I X t kt => XS.ifnullYes X.here I.1 rfl (pc0 := pc) (pc' := pc') rfl (hb I.2.2.1 hd) rfl (by omega) (by omega) kt) kk
theorem g_nullF (pc' : Nat) {o : Int} {a : Addr} (hd : decode M.2.1 pc = .ok (.ifnull o, 3)) (hp : pc + 3 = pc') (kk : Go l Z n0 M R Q h kc ks pc' L S) : Go l Z n0 M R Q h kc ks pc L (.ref a :: S) := by
  subst hp
  exact g_pure (fun I X t kt => XS.ifnullNo X.here I.1 rfl (hb I.2.2.1 hd) rfl kt) kk
theorem g_nonnullT (pc' : Nat) {o : Int} {a : Addr} (hd : decode M.2.1 pc = .ok (.ifnonnull o, 3)) (hp : (pc : Int) + o = (pc' : Int)) (kk : Go l Z n0 M R Q h kc ks pc' L S) : Go l Z n0 M R Q h kc ks pc L (.ref a :: S) :=
  g_pure (fun I X t kt => XT.ifnonnullYes X.here I.1 rfl (pc0 := pc) (pc' := pc') rfl (hb I.2.2.1 hd) rfl (by omega) (by omega) kt) kk
theorem g_nonnullF (pc' : Nat) {o : Int} (hd : decode M.2.1 pc = .ok (.ifnonnull o, 3)) (hp : pc + 3 = pc') (kk : Go l Z n0 M R Q h kc ks pc' L S) : Go l Z n0 M R Q h kc ks pc L (.null :: S) := by
  subst hp
  exact g_pure (fun I X t kt => XT.ifnonnullNo X.here I.1 rfl (hb I.2.2.1 hd) rfl kt) kk
-- RETURNS
theorem g_ret {w : Value} {t : FieldType} {i : Instr} (hd : decode M.2.1 pc = .ok (i, 1)) (hret : M.2.2.2 = some t) (hn : narrow t w = w)
    (hi : (i = .ireturn ∧ (t = .int ∨ t = .boolean ∨ t = .byte ∨ t = .char ∨ t = .short) ∧ ∃ z, w = .int z) ∨ (i = .lreturn ∧ t = .long ∧ ∃ z, w = .long z) ∨ (i = .dreturn ∧ t = .double ∧ ∃ z, w = .double z) ∨ (i = .freturn ∧ t = .float ∧ ∃ z, w = .float z) ∨ (i = .areturn ∧ t.isReference = true ∧ w.isRef = true))
    (hc : kc ≤ R.cells) (hs : ks ≤ R.slots) (hq : Q (some w) h) : Go l Z n0 M R Q h kc ks pc L (w :: S) := by
  intro p e s m args below meth c T locs I X eT N
  obtain ⟨hx, hZ, hby, hml, hown, hnm, hrt, hlk, hn0⟩ := I
  obtain ⟨fs, hr, hrun, hended, hW, hsame⟩ := X.leave (v := some w) (fun q => by rw [hrt, hret] at q; cases q) hlk
  refine ⟨_, _, retOut X hx (hrt.trans hret) hn hi (hb hby hd) hr, hrun, hended, _, _, rfl, ⟨?_, N⟩, ⟨_, rfl⟩, hW, hsame.mono hc hs⟩
  show Q (some w) T.heap
  rw [eT]
  exact hq
theorem g_retI {z : Int32} (hd : decode M.2.1 pc = .ok (.ireturn, 1)) (hret : M.2.2.2 = some .int) (hc : kc ≤ R.cells) (hs : ks ≤ R.slots) (hq : Q (some (.int z)) h) : Go l Z n0 M R Q h kc ks pc L (.int z :: S) :=
  g_ret hd hret rfl (Or.inl ⟨rfl, Or.inl rfl, _, rfl⟩) hc hs hq
theorem g_retZ {z : Int32} (hd : decode M.2.1 pc = .ok (.ireturn, 1)) (hret : M.2.2.2 = some .boolean) (hn : narrow .boolean (.int z) = .int z) (hc : kc ≤ R.cells) (hs : ks ≤ R.slots) (hq : Q (some (.int z)) h) : Go l Z n0 M R Q h kc ks pc L (.int z :: S) :=
  g_ret hd hret hn (Or.inl ⟨rfl, Or.inr (Or.inl rfl), _, rfl⟩) hc hs hq
theorem g_retJ {z : Int64} (hd : decode M.2.1 pc = .ok (.lreturn, 1)) (hret : M.2.2.2 = some .long) (hc : kc ≤ R.cells) (hs : ks ≤ R.slots) (hq : Q (some (.long z)) h) : Go l Z n0 M R Q h kc ks pc L (.long z :: S) :=
  g_ret hd hret rfl (Or.inr (Or.inl ⟨rfl, rfl, _, rfl⟩)) hc hs hq
theorem g_retV (hd : decode M.2.1 pc = .ok (.return_, 1)) (hret : M.2.2.2 = none) (hc : kc ≤ R.cells) (hs : ks ≤ R.slots) (hq : Q none h) : Go l Z n0 M R Q h kc ks pc L [] := by
  intro p e s m args below meth c T locs I X eT N
  obtain ⟨hx, hZ, hby, hml, hown, hnm, hrt, hlk, hn0⟩ := I
  obtain ⟨fs, hr, hrun, hended, hW, hsame⟩ := X.leave (v := none) (fun _ => rfl) hlk
  refine ⟨_, _, X.returnOut hx (hrt.trans hret) (hb hby hd) hr, hrun, hended, _, _, rfl, ⟨?_, N⟩, ⟨_, rfl⟩, hW, hsame.mono hc hs⟩
  show Q none T.heap
  rw [eT]
  exact hq
-- ENTRY
theorem con_intro {as' : Array Value} {h0 : Heap} {rm : Room} (hpl : plainFor M.1 = true) (L : Array Slot) (hL : ∀ m, entryFrame m as' M.2.2.1 = mkF m 0 L []) (body : n0 ≤ h0.size → Go l Z n0 M rm Q h0 0 0 0 L []) : Con l Z n0 M rm as' h0 Q := by
  intro Z0 ws
  refine MetFree.of_bodySF hpl hisR ?_
  intro p e s m args below meth c s₁ Bd hml0 hP hK
  obtain ⟨rfl, hZ, hh⟩ := hP
  have e0 : s₁.heap = h0 := by rw [← hh, Bd.state]; rfl
  have X0 : Stand p l e rm s m args below meth c s₁ [] 0 0 := Stand.of_body Bd
  obtain ⟨s₂, o, h1, r⟩ := body Z0 p e s m args below meth c s₁ [] ⟨Bd.exec, hZ, Bd.bytes, hml0, findClass_of_methodNamed Bd.named, (name_of_methodNamed Bd.named Bd.method).1, Bd.returns, Bd.notSynchronized, by rw [hh]; exact Z0⟩ X0 e0 (Fr.nil n0)
  exact ⟨s₂, o, castTop (hL m) h1, r⟩
-- HEAP
theorem g_getF (pc' : Nat) {index : Nat} {O n d : String} {a : Addr} {v : Value} (hd : decode M.2.1 pc = .ok (.getfield index, 3)) (w : (Jvm.Cond.fieldLink M.1.cls index O n d).before a0 Z = true) (F : Fld Z h a O n d v) (hp : pc + 3 = pc') (kk : Go l Z n0 M R Q h kc ks pc' L (v :: S)) : Go l Z n0 M R Q h kc ks pc L (.ref a :: S) := by
  subst hp
  exact g_via (fun I X eT => getF X I.1 I.2.1 I.2.2.2.2.1 (host := "") (Or.inl w) Via.refl eT F (g := mkF _ pc L (.ref a :: S)) rfl rfl (hb I.2.2.1 hd)) kk
theorem g_ex {pc' : Nat} {L' : Array Slot} {S' : List Value} {kc' ks' : Nat} {P : Heap → Prop}
    (st : ∀ {p : Program} {e : Env} {s : State} {m : MethodId} {args : Array Value} {below : List Frame} {meth : Method} {c : Code} {T : State} {locs : List Loc}, Inv Z n0 M p s m meth c → Stand p l e R s m args below meth c T locs kc ks → T.heap = h → Fr n0 locs →
      ∃ T' h' locs', Stand p l e R s m args below meth c T' locs' kc' ks' ∧ T'.heap = h' ∧ Fr n0 locs' ∧ P h' ∧ ∀ target, Steps p.tables e below (T'.setTop (mkF m pc' L' S')) target → Steps p.tables e below (T.setTop (mkF m pc L S)) target)
    (k : ∀ h', P h' → Go l Z n0 M R Q h' kc' ks' pc' L' S') : Go l Z n0 M R Q h kc ks pc L S := by
  intro p e s m args below meth c T locs I X eT N
  obtain ⟨T', h', locs', X', eT', N', hP, st'⟩ := st I X eT N
  obtain ⟨s₂, o, h1, r⟩ := k h' hP p e s m args below meth c T' locs' I X' eT' N'
  exact ⟨s₂, o, st' _ h1, r⟩
theorem g_sz (kk : n0 ≤ h.size → Go l Z n0 M R Q h kc ks pc L S) : Go l Z n0 M R Q h kc ks pc L S := by
  intro p e s m args below meth c T locs I X eT N
  have q : n0 ≤ h.size := by
    rw [← eT]
    exact Nat.le_trans I.2.2.2.2.2.2.2.2 X.same.2.1
  exact kk q p e s m args below meth c T locs I X eT N
theorem g_putF (pc' : Nat) {index kk' : Nat} {O n d C : String} {a : Addr} {v old : Value} {ty : FieldType} (hd : decode M.2.1 pc = .ok (.putfield index, 3)) (w : (Jvm.Cond.fieldLink M.1.cls index O n d).before a0 Z = true) (F : Fld Z h a O n d old) (E : Exa Z h a C)
    (Lw : (Jvm.Cond.lays C O n d).before a0 Z = true ∨ ((Jvm.Cond.laysFinal C O n d).before a0 Z = true ∧ M.1.cls = O ∧ M.1.name = "<init>")) (wi : (Jvm.Cond.instantiable C kk').before a0 Z = true) (hty : parseFieldDescriptor d = some ty) (hn : narrow ty v = v) (hf : fits ty v = true) (ga : n0 ≤ a) (hp : pc + 3 = pc')
    (kk : ∀ h', Wr h h' a (Jvm.RoadKit.slotOf Z O n d) v → Go l Z n0 M R Q h' kc ks pc' L S) : Go l Z n0 M R Q h kc ks pc L (v :: .ref a :: S) := by
  subst hp
  refine g_ex (P := fun h' => Wr h h' a (Jvm.RoadKit.slotOf Z O n d) v) (fun I X eT N => ?_) kk
  obtain ⟨T', h', X', e', W', st⟩ := putF X I.1 I.2.1 I.2.2.2.2.1 (host := "") (Or.inl w) Via.refl eT F E (Lw.imp id (fun q => ⟨q.1, q.2.1, I.2.2.2.2.2.1.trans q.2.2⟩)) wi hty hn hf (g := mkF _ pc L (v :: .ref a :: S)) rfl rfl (hb I.2.2.1 hd)
  exact ⟨T', h', _, X', e', Fr.snoc X' N ga, W', st⟩
theorem g_new (pc' : Nat) {index n : Nat} {C : String} (hd : decode M.2.1 pc = .ok (.new index, 3)) (w : (Jvm.Cond.classLink M.1.cls index C).before a0 Z = true) (wi : (Jvm.Cond.instantiable C n).before a0 Z = true) (wz : (Jvm.Cond.initialized C).before a0 Z = true) (hc : kc + 1 ≤ R.cells) (hs : ks + n ≤ R.slots) (hp : pc + 3 = pc')
    (kk : ∀ h', Ext h h' → Exa Z h' h.size C → (∀ {O nm d : String} {ty : FieldType}, Laid Z a0 C O nm d → parseFieldDescriptor d = some ty → Fld Z h' h.size O nm d (defaultValue ty)) → Go l Z n0 M R Q h' (kc + 1) (ks + n) pc' L (.ref h.size :: S)) : Go l Z n0 M R Q h kc ks pc L S := by
  subst hp
  refine g_ex (P := fun h' => Ext h h' ∧ Exa Z h' h.size C ∧ (∀ {O nm d : String} {ty : FieldType}, Laid Z a0 C O nm d → parseFieldDescriptor d = some ty → Fld Z h' h.size O nm d (defaultValue ty))) (fun I X eT N => ?_) (fun h' q => kk h' q.1 q.2.1 q.2.2)
  obtain ⟨T', h', X', e', E', A', D', -, st⟩ := newO X I.1 I.2.1 I.2.2.2.2.1 w wi wz eT (g := mkF _ pc L S) rfl (hb I.2.2.1 hd) hc hs
  exact ⟨T', h', _, X', e', N, ⟨E', A', D'⟩, st⟩
theorem g_init (pc' : Nat) {idx : Nat} {a : Addr} (hd : decode M.2.1 pc = .ok (.invokespecial idx, 3)) (w1 : (Jvm.Cond.methodLink M.1.cls idx Lib.objectInit).before a0 Z = true) (w2 : (Jvm.Cond.instanceMethod Lib.objectInit).before a0 Z = true) (w3 : (Jvm.Cond.code Lib.objectInit ⟨#[0xb1]⟩ 1 none).before a0 Z = true)
    (hsz : L.size = M.2.2.1) (hf : 1 ≤ R.frames) (hl : (S.map fun v => v.category).sum + 12 ≤ R.locals) (hp : pc + 3 = pc') (kk : Go l Z n0 M R Q h kc ks pc' L S) : Go l Z n0 M R Q h kc ks pc L (.ref a :: S) := by
  subst hp
  exact g_via (fun I X eT => initO X I.1 I.2.1 I.2.2.2.2.1 w1 w2 w3 eT (g := mkF _ pc L (.ref a :: S)) rfl (hsz.trans I.2.2.2.1.symm) rfl (hb I.2.2.1 hd) hf (W := (S.map fun v => v.category).sum) (by show 2 * 0 + _ ≤ _; omega) hl) kk
theorem g_mkA (pc' : Nat) {aty : ArrayType} {ty : FieldType} {n : Int32} (hd : decode M.2.1 pc = .ok (.newarray aty, 2)) (w : (Jvm.Cond.arrayClass ty).before a0 Z = true) (ht : newarray.typeOf aty = ty) (hn : ¬ n < 0) (cap : Nat) (hcap : n.toNatClampNeg ≤ cap) (hb8 : cap * 8 ≤ 536870912) (hc : kc + 1 ≤ R.cells) (hs : ks + cap ≤ R.slots) (hp : pc + 2 = pc')
    (kk : ∀ h' cA, Ext h h' → Arr Z h' h.size (newA cA ty n) ty → Go l Z n0 M R Q h' (kc + 1) (ks + cap) pc' L (.ref h.size :: S)) : Go l Z n0 M R Q h kc ks pc L (.int n :: S) := by
  subst hp ht
  refine g_ex (P := fun h' => ∃ cA, Ext h h' ∧ Arr Z h' h.size (newA cA (newarray.typeOf aty) n) (newarray.typeOf aty)) (fun I X eT N => ?_) (fun h' q => q.elim fun cA q => kk h' cA q.1 q.2)
  obtain ⟨T', h', cA, X', e', E', A', st⟩ := newP X I.1 I.2.1 w eT (g := mkF _ pc L (.int n :: S)) rfl (hb I.2.2.1 hd) rfl hn hcap hb8 hc hs
  exact ⟨T', h', _, X', e', N, ⟨cA, E', A'⟩, st⟩
-- ARRAYS, by the list of their values
def Ary (Z : State) (h : Heap) (a : Addr) (ty : FieldType) (vs : List Value) : Prop := ∃ c : Cell, Arr Z h a c ty ∧ c.slots = vs.toArray ∧ vs.length < 2147483648
theorem Ary.lt {a : Addr} {ty : FieldType} {vs : List Value} (A : Ary Z h a ty vs) : a < h.size := A.elim fun c q => q.1.lt
theorem Ary.ext {h' : Heap} {a : Addr} {ty : FieldType} {vs : List Value} (A : Ary Z h a ty vs) (E : Ext h h') : Ary Z h' a ty vs := A.elim fun c q => ⟨c, q.1.ext E, q.2⟩
theorem Ary.other {h' : Heap} {a b : Addr} {sl : Nat} {v : Value} {ty : FieldType} {vs : List Value} (A : Ary Z h a ty vs) (W : Wr h h' b sl v) (q : a ≠ b) : Ary Z h' a ty vs := A.elim fun c r => ⟨c, r.1.other W q, r.2⟩
theorem Ary.keep {h' : Heap} {a : Addr} {ws : List Addr} {ty : FieldType} {vs : List Value} (A : Ary Z h a ty vs) (K : Keep h h' ws) (q : a ∉ ws) : Ary Z h' a ty vs := A.elim fun c r => ⟨c, ⟨K.2.1 a c r.1.1 q, r.1.2⟩, r.2⟩
theorem Ary.set {h' : Heap} {a : Addr} {ty : FieldType} {vs : List Value} {i : Nat} {v : Value} (A : Ary Z h a ty vs) (W : Wr h h' a i v) : Ary Z h' a ty (vs.set i v) := by
  obtain ⟨c, r, e, hl⟩ := A
  refine ⟨_, r.same W, ?_, by simpa using hl⟩
  show c.slots.setIfInBounds i v = _
  rw [e]
  simp
theorem Ary.fresh {a : Addr} {ty : FieldType} {cA : ClassId} {n : Int32} (A : Arr Z h a (newA cA ty n) ty) (k : Nat) (hk : n.toInt = (k : Int)) : Ary Z h a ty (List.replicate k (defaultValue ty)) := by
  have e : n.toNatClampNeg = k := by
    show n.toInt.toNat = k
    omega
  refine ⟨_, A, ?_, ?_⟩
  · show Array.replicate n.toNatClampNeg (defaultValue ty) = _
    rw [e]; simp
  · have := n.toInt_lt
    rw [List.length_replicate]; omega
theorem ix_in {a : Addr} {c : Cell} {vs : List Value} {j : Int32} {i : Nat} (e : c.slots = vs.toArray) (hj : j.toInt = (i : Int)) (hi : i < vs.length) : (¬ (j < 0 ∨ c.slots.size ≤ j.toNatClampNeg)) ∧ j.toNatClampNeg = i := by
  have e2 : j.toNatClampNeg = i := by
    show j.toInt.toNat = i
    omega
  refine ⟨?_, e2⟩
  rw [e2, e, Int32.lt_iff_toInt_lt]
  have : (0 : Int32).toInt = 0 := rfl
  have : vs.toArray.size = vs.length := by simp
  omega
theorem g_aloadI (pc' : Nat) {a : Addr} {vs : List Value} {j : Int32} (i : Nat) {v : Value} (hd : decode M.2.1 pc = .ok (.iaload, 1)) (A : Ary Z h a .int vs) (hj : j.toInt = (i : Int)) (hv : vs[i]? = some v) (hp : pc + 1 = pc') (kk : Go l Z n0 M R Q h kc ks pc' L (v :: S)) : Go l Z n0 M R Q h kc ks pc L (.int j :: .ref a :: S) := by
  subst hp
  obtain ⟨c, Ar, e, hl⟩ := A
  obtain ⟨q1, q2⟩ := ix_in (a := a) e hj (List.getElem?_eq_some_iff.mp hv).1
  refine g_via (fun I X eT => ⟨_, X, eT, fun t kt => X.iaload I.1 (cell := c) (v := v) (by rw [eT]; exact Ar.1) (State.isArrayOf_alike I.2.1.alike Ar.2.1) Ar.2.2 q1 (by rw [q2, e]; simpa using hv) (g := mkF _ pc L (.int j :: .ref a :: S)) rfl rfl (hb I.2.2.1 hd) t kt⟩) kk
theorem g_aloadJ (pc' : Nat) {a : Addr} {vs : List Value} {j : Int32} (i : Nat) {v : Value} (hd : decode M.2.1 pc = .ok (.laload, 1)) (A : Ary Z h a .long vs) (hj : j.toInt = (i : Int)) (hv : vs[i]? = some v) (hp : pc + 1 = pc') (kk : Go l Z n0 M R Q h kc ks pc' L (v :: S)) : Go l Z n0 M R Q h kc ks pc L (.int j :: .ref a :: S) := by
  subst hp
  obtain ⟨c, Ar, e, hl⟩ := A
  obtain ⟨q1, q2⟩ := ix_in (a := a) e hj (List.getElem?_eq_some_iff.mp hv).1
  refine g_via (fun I X eT => ⟨_, X, eT, fun t kt => X.laload I.1 (cell := c) (v := v) (by rw [eT]; exact Ar.1) (State.isArrayOf_alike I.2.1.alike Ar.2.1) Ar.2.2 q1 (by rw [q2, e]; simpa using hv) (g := mkF _ pc L (.int j :: .ref a :: S)) rfl rfl (hb I.2.2.1 hd) t kt⟩) kk
theorem g_alen (pc' : Nat) {a : Addr} {ty : FieldType} {vs : List Value} (w : Int32) (hd : decode M.2.1 pc = .ok (.arraylength, 1)) (A : Ary Z h a ty vs) (hw : w = Int32.ofNat vs.length) (hp : pc + 1 = pc') (kk : Go l Z n0 M R Q h kc ks pc' L (.int w :: S)) : Go l Z n0 M R Q h kc ks pc L (.ref a :: S) := by
  subst hp hw
  obtain ⟨c, Ar, e, hl⟩ := A
  have e2 : c.slots.size.toInt32 = Int32.ofNat vs.length := by rw [e]; simp [Nat.toInt32]
  refine g_via (fun I X eT => ⟨_, X, eT, fun t kt => X.arraylength I.1 (cell := c) (by rw [eT]; exact Ar.1) (State.isArrayOf_alike I.2.1.alike Ar.2.1) (g := mkF _ pc L (.ref a :: S)) rfl rfl (hb I.2.2.1 hd) t (by rw [e2]; exact kt)⟩) kk
theorem g_astoreI (pc' : Nat) {a : Addr} {vs : List Value} {j x : Int32} (i : Nat) (hd : decode M.2.1 pc = .ok (.iastore, 1)) (A : Ary Z h a .int vs) (hj : j.toInt = (i : Int)) (hi : i < vs.length) (ga : n0 ≤ a) (hp : pc + 1 = pc')
    (kk : ∀ h', Wr h h' a i (.int x) → Go l Z n0 M R Q h' kc ks pc' L S) : Go l Z n0 M R Q h kc ks pc L (.int x :: .int j :: .ref a :: S) := by
  subst hp
  obtain ⟨c, Ar, e, hl⟩ := A
  obtain ⟨q1, q2⟩ := ix_in (a := a) e hj hi
  refine g_ex (P := fun h' => Wr h h' a i (.int x)) (fun I X eT N => ?_) kk
  obtain ⟨T', h', X', e', W', st⟩ := stI X I.1 I.2.1 eT Ar (x := x) q1 (g := mkF _ pc L (.int x :: .int j :: .ref a :: S)) rfl rfl (hb I.2.2.1 hd)
  exact ⟨T', h', _, X', e', Fr.snoc X' N ga, q2 ▸ W', st⟩
theorem g_astoreJ (pc' : Nat) {a : Addr} {vs : List Value} {j : Int32} {x : Int64} (i : Nat) (hd : decode M.2.1 pc = .ok (.lastore, 1)) (A : Ary Z h a .long vs) (hj : j.toInt = (i : Int)) (hi : i < vs.length) (ga : n0 ≤ a) (hp : pc + 1 = pc')
    (kk : ∀ h', Wr h h' a i (.long x) → Go l Z n0 M R Q h' kc ks pc' L S) : Go l Z n0 M R Q h kc ks pc L (.long x :: .int j :: .ref a :: S) := by
  subst hp
  obtain ⟨c, Ar, e, hl⟩ := A
  obtain ⟨q1, q2⟩ := ix_in (a := a) e hj hi
  refine g_ex (P := fun h' => Wr h h' a i (.long x)) (fun I X eT N => ?_) kk
  obtain ⟨T', h', X', e', W', st⟩ := stJ X I.1 I.2.1 eT Ar (x := x) q1 (g := mkF _ pc L (.long x :: .int j :: .ref a :: S)) rfl rfl (hb I.2.2.1 hd)
  exact ⟨T', h', _, X', e', Fr.snoc X' N ga, q2 ▸ W', st⟩
theorem g_astoreD (pc' : Nat) {a : Addr} {vs : List Value} {j : Int32} {x : UInt64} (i : Nat) (hd : decode M.2.1 pc = .ok (.dastore, 1)) (A : Ary Z h a .double vs) (hj : j.toInt = (i : Int)) (hi : i < vs.length) (ga : n0 ≤ a) (hp : pc + 1 = pc')
    (kk : ∀ h', Wr h h' a i (.double x) → Go l Z n0 M R Q h' kc ks pc' L S) : Go l Z n0 M R Q h kc ks pc L (.double x :: .int j :: .ref a :: S) := by
  subst hp
  obtain ⟨c, Ar, e, hl⟩ := A
  obtain ⟨q1, q2⟩ := ix_in (a := a) e hj hi
  refine g_ex (P := fun h' => Wr h h' a i (.double x)) (fun I X eT N => ?_) kk
  obtain ⟨T', h', X', e', W', st⟩ := stD X I.1 I.2.1 eT Ar (x := x) q1 (g := mkF _ pc L (.double x :: .int j :: .ref a :: S)) rfl rfl (hb I.2.2.1 hd)
  exact ⟨T', h', _, X', e', Fr.snoc X' N ga, q2 ▸ W', st⟩
-- TYPED ARRAYS
def AryI (Z : State) (h : Heap) (a : Addr) (vs : List Int32) : Prop := Ary Z h a .int (vs.map Value.int)
def AryJ (Z : State) (h : Heap) (a : Addr) (vs : List Int64) : Prop := Ary Z h a .long (vs.map Value.long)
theorem AryI.lt {a : Addr} {vs : List Int32} (A : AryI Z h a vs) : a < h.size := Ary.lt (show Ary Z h a .int (vs.map Value.int) from A)
theorem AryI.ext {h' : Heap} {a : Addr} {vs : List Int32} (A : AryI Z h a vs) (E : Ext h h') : AryI Z h' a vs := Ary.ext (show Ary Z h a .int (vs.map Value.int) from A) E
theorem AryI.other {h' : Heap} {a b : Addr} {sl : Nat} {v : Value} {vs : List Int32} (A : AryI Z h a vs) (W : Wr h h' b sl v) (q : a ≠ b) : AryI Z h' a vs := Ary.other (show Ary Z h a .int (vs.map Value.int) from A) W q
theorem AryI.keep {h' : Heap} {a : Addr} {ws : List Addr} {vs : List Int32} (A : AryI Z h a vs) (K : Keep h h' ws) (q : a ∉ ws) : AryI Z h' a vs := Ary.keep (show Ary Z h a .int (vs.map Value.int) from A) K q
theorem AryI.set {h' : Heap} {a : Addr} {vs : List Int32} {i : Nat} {x : Int32} (A : AryI Z h a vs) (W : Wr h h' a i (.int x)) : AryI Z h' a (vs.set i x) := by
  unfold AryI at *
  rw [List.map_set]
  exact A.set W
theorem AryI.fresh {a : Addr} {cA : ClassId} {n : Int32} (A : Arr Z h a (newA cA .int n) .int) (k : Nat) (hk : n.toInt = (k : Int)) : AryI Z h a (List.replicate k 0) := by
  unfold AryI
  rw [List.map_replicate]
  exact Ary.fresh A k hk
theorem g_ldI (pc' : Nat) {a : Addr} {vs : List Int32} {j : Int32} (i : Nat) {x : Int32} (hd : decode M.2.1 pc = .ok (.iaload, 1)) (A : AryI Z h a vs) (hj : j.toInt = (i : Int)) (hv : vs[i]? = some x) (hp : pc + 1 = pc') (kk : Go l Z n0 M R Q h kc ks pc' L (.int x :: S)) : Go l Z n0 M R Q h kc ks pc L (.int j :: .ref a :: S) :=
  g_aloadI pc' i hd (show Ary Z h a .int (vs.map Value.int) from A) hj (by rw [List.getElem?_map, hv]; rfl) hp kk
theorem g_stI (pc' : Nat) {a : Addr} {vs : List Int32} {j : Int32} {x : Int32} (i : Nat) (hd : decode M.2.1 pc = .ok (.iastore, 1)) (A : AryI Z h a vs) (hj : j.toInt = (i : Int)) (hi : i < vs.length) (ga : n0 ≤ a) (hp : pc + 1 = pc')
    (kk : ∀ h', Wr h h' a i (.int x) → Go l Z n0 M R Q h' kc ks pc' L S) : Go l Z n0 M R Q h kc ks pc L (.int x :: .int j :: .ref a :: S) :=
  g_astoreI pc' i hd (show Ary Z h a .int (vs.map Value.int) from A) hj (by rw [List.length_map]; exact hi) ga hp kk
theorem g_lenI (pc' : Nat) {a : Addr} {vs : List Int32} (w : Int32) (hd : decode M.2.1 pc = .ok (.arraylength, 1)) (A : AryI Z h a vs) (hw : w = Int32.ofNat vs.length) (hp : pc + 1 = pc') (kk : Go l Z n0 M R Q h kc ks pc' L (.int w :: S)) : Go l Z n0 M R Q h kc ks pc L (.ref a :: S) :=
  g_alen pc' w hd (show Ary Z h a .int (vs.map Value.int) from A) (by rw [List.length_map]; exact hw) hp kk
theorem AryJ.lt {a : Addr} {vs : List Int64} (A : AryJ Z h a vs) : a < h.size := Ary.lt (show Ary Z h a .long (vs.map Value.long) from A)
theorem AryJ.ext {h' : Heap} {a : Addr} {vs : List Int64} (A : AryJ Z h a vs) (E : Ext h h') : AryJ Z h' a vs := Ary.ext (show Ary Z h a .long (vs.map Value.long) from A) E
theorem AryJ.other {h' : Heap} {a b : Addr} {sl : Nat} {v : Value} {vs : List Int64} (A : AryJ Z h a vs) (W : Wr h h' b sl v) (q : a ≠ b) : AryJ Z h' a vs := Ary.other (show Ary Z h a .long (vs.map Value.long) from A) W q
theorem AryJ.keep {h' : Heap} {a : Addr} {ws : List Addr} {vs : List Int64} (A : AryJ Z h a vs) (K : Keep h h' ws) (q : a ∉ ws) : AryJ Z h' a vs := Ary.keep (show Ary Z h a .long (vs.map Value.long) from A) K q
theorem AryJ.set {h' : Heap} {a : Addr} {vs : List Int64} {i : Nat} {x : Int64} (A : AryJ Z h a vs) (W : Wr h h' a i (.long x)) : AryJ Z h' a (vs.set i x) := by
  unfold AryJ at *
  rw [List.map_set]
  exact A.set W
theorem AryJ.fresh {a : Addr} {cA : ClassId} {n : Int32} (A : Arr Z h a (newA cA .long n) .long) (k : Nat) (hk : n.toInt = (k : Int)) : AryJ Z h a (List.replicate k 0) := by
  unfold AryJ
  rw [List.map_replicate]
  exact Ary.fresh A k hk
theorem g_ldJ (pc' : Nat) {a : Addr} {vs : List Int64} {j : Int32} (i : Nat) {x : Int64} (hd : decode M.2.1 pc = .ok (.laload, 1)) (A : AryJ Z h a vs) (hj : j.toInt = (i : Int)) (hv : vs[i]? = some x) (hp : pc + 1 = pc') (kk : Go l Z n0 M R Q h kc ks pc' L (.long x :: S)) : Go l Z n0 M R Q h kc ks pc L (.int j :: .ref a :: S) :=
  g_aloadJ pc' i hd (show Ary Z h a .long (vs.map Value.long) from A) hj (by rw [List.getElem?_map, hv]; rfl) hp kk
theorem g_stJ (pc' : Nat) {a : Addr} {vs : List Int64} {j : Int32} {x : Int64} (i : Nat) (hd : decode M.2.1 pc = .ok (.lastore, 1)) (A : AryJ Z h a vs) (hj : j.toInt = (i : Int)) (hi : i < vs.length) (ga : n0 ≤ a) (hp : pc + 1 = pc')
    (kk : ∀ h', Wr h h' a i (.long x) → Go l Z n0 M R Q h' kc ks pc' L S) : Go l Z n0 M R Q h kc ks pc L (.long x :: .int j :: .ref a :: S) :=
  g_astoreJ pc' i hd (show Ary Z h a .long (vs.map Value.long) from A) hj (by rw [List.length_map]; exact hi) ga hp kk
theorem g_lenJ (pc' : Nat) {a : Addr} {vs : List Int64} (w : Int32) (hd : decode M.2.1 pc = .ok (.arraylength, 1)) (A : AryJ Z h a vs) (hw : w = Int32.ofNat vs.length) (hp : pc + 1 = pc') (kk : Go l Z n0 M R Q h kc ks pc' L (.int w :: S)) : Go l Z n0 M R Q h kc ks pc L (.ref a :: S) :=
  g_alen pc' w hd (show Ary Z h a .long (vs.map Value.long) from A) (by rw [List.length_map]; exact hw) hp kk
-- WHAT LIES BELOW IS KEPT
def Low (n1 : Nat) (h h' : Heap) : Prop := h.size ≤ h'.size ∧ ∀ (x : Addr) (c : Cell), x < n1 → h[x]? = some c → h'[x]? = some c
theorem con_low {n1 : Nat} {N : MD} {rm : Room} {as' : Array Value} {Q' : Option Value → Heap → Prop} (con : Con l Z n1 N rm as' h Q') (hn : n0 ≤ n1) (h1 : n1 ≤ h.size) : Con l Z n0 N rm as' h (fun v h' => Q' v h' ∧ Low n1 h h') := by
  intro _ ws p e ha hc hk s m args below hf happ hP hK
  obtain ⟨n, o, g1, g2, g3, v, L, rfl, ⟨hQ, hF⟩, hE⟩ := con h1 ws p e ha hc hk s m args below hf happ hP hK
  refine ⟨n, _, g1, g2, g3, v, L, rfl, ⟨⟨hQ, ?_⟩, fun y hy => Nat.le_trans hn (hF y hy)⟩, hE⟩
  obtain ⟨-, -, hh⟩ := hP
  obtain ⟨-, -, -, k1, -, -, -, k5⟩ := hE
  rw [hh] at k1 k5
  refine ⟨k1, fun x c hx hc => ?_⟩
  obtain ⟨c', q1, q2, q3, q4⟩ := k5 x c hc
  have e : c'.slots = c.slots := by
    apply Array.ext_getElem?
    intro i
    exact q4 i (fun hm => absurd (hF _ hm) (Nat.not_le.mpr hx))
  have e2 : c' = c := by rw [q2, e]
  exact e2 ▸ q1
theorem AryI.low {n1 : Nat} {h' : Heap} {a : Addr} {vs : List Int32} (A : AryI Z h a vs) (K : Low n1 h h') (q : a < n1) : AryI Z h' a vs := by
  obtain ⟨c, r, e⟩ := A
  exact ⟨c, ⟨K.2 a c q r.1, r.2⟩, e⟩
-- CALLS
theorem g_callS (pc' : Nat) {index : Nat} {N : MD} {rm : Room} {Q' : Option Value → Heap → Prop} {St : List Value} {ps : List FieldType} {r : Option FieldType} (as' S : List Value) (hd : decode M.2.1 pc = .ok (.invokestatic index, 3))
    (w1 : (Jvm.Cond.methodLink M.1.cls index N.1).before a0 Z = true) (w2 : (Jvm.Cond.static N.1).before a0 Z = true) (w3 : (Jvm.Cond.initialized N.1.cls).before a0 Z = true) (w4 : (Jvm.Cond.code N.1 N.2.1 N.2.2.1 N.2.2.2).before a0 Z = true) (hy : N.1.cls ≠ "java/lang/invoke/MethodHandle" ∧ N.1.cls ≠ "java/lang/invoke/VarHandle")
    (con : Con l Z n0 N rm as'.toArray h Q') (hsz : L.size = M.2.2.1) (hpd : parseMethodDescriptor N.1.desc = some ⟨ps, r⟩) (hlen : as'.length = ps.length) (hst : St = as'.reverse ++ S)
    (hf : rm.frames + 1 ≤ R.frames) (hl : (S.map fun v => v.category).sum + (N.2.2.1 + 11) + rm.locals ≤ R.locals) (hc : kc + rm.cells ≤ R.cells) (hs : ks + rm.slots ≤ R.slots) (hp : pc + 3 = pc')
    (kk : ∀ v h', Q' v h' → Go l Z n0 M R Q h' (kc + rm.cells) (ks + rm.slots) pc' L (v.toList ++ S)) : Go l Z n0 M R Q h kc ks pc L St := by
  subst hp hst
  intro p e s m args below meth c T locs I X eT N'
  have Z0 : n0 ≤ h.size := by
    rw [← eT]
    exact Nat.le_trans I.2.2.2.2.2.2.2.2 X.same.2.1
  obtain ⟨v, _, ⟨T1, L1, k1, m1⟩, -, X1, ⟨Lc, hQ, l1, y1, z1⟩, st⟩ := Jvm.LawKit.callS X I.1 (y := N.1) I.2.2.2.2.1 (mvT I.2.1 w1) (mvT I.2.1 w2) (mvT I.2.1 w3) (mvT I.2.1 w4) hy (backOf (W := (S.map fun v => v.category).sum) (Q := fun v h L => Q' v h ∧ Fr n0 L) (con Z0 []) I.2.1 w4 w3 hf hl) (g := mkF m pc L (as'.reverse ++ S)) rfl (hsz.trans I.2.2.2.1.symm) (argsL := as') (rest := S) (lenOf hpd hlen) rfl (by show 2 * 0 + _ ≤ _; omega) (hb I.2.2.1 hd) (fun _ _ => ⟨rfl, eT, hc, hs⟩)
  dsimp only [Pt.U, Pt.locs, Pt.cells, Pt.slots] at X1 l1 y1 z1 st hQ
  subst l1 y1 z1
  obtain ⟨s₂, o, h1, r⟩ := kk v T1.heap hQ.1 p e s m args below meth c T1 _ I X1 rfl (Fr.app N' hQ.2)
  exact ⟨s₂, o, st _ h1, r⟩
theorem g_callN (pc' : Nat) {index : Nat} {N : MD} {rm : Room} {Q' : Option Value → Heap → Prop} {St : List Value} {ps : List FieldType} {r : Option FieldType} {a : Addr} (as' S : List Value) (hd : decode M.2.1 pc = .ok (.invokespecial index, 3)) (hy1 : N.1.name = "<init>") (hrN : N.2.2.2 = none)
    (w1 : (Jvm.Cond.methodLink M.1.cls index N.1).before a0 Z = true) (w2 : (Jvm.Cond.instanceMethod N.1).before a0 Z = true) (w3 : (Jvm.Cond.initialized N.1.cls).before a0 Z = true) (w4 : (Jvm.Cond.code N.1 N.2.1 N.2.2.1 N.2.2.2).before a0 Z = true) (hy : N.1.cls ≠ "java/lang/invoke/MethodHandle" ∧ N.1.cls ≠ "java/lang/invoke/VarHandle")
    (con : Con l Z n0 N rm (.ref a :: as').toArray h Q') (hsz : L.size = M.2.2.1) (hpd : parseMethodDescriptor N.1.desc = some ⟨ps, r⟩) (hlen : as'.length = ps.length) (hst : St = as'.reverse ++ .ref a :: S)
    (hf : rm.frames + 1 ≤ R.frames) (hl : (S.map fun v => v.category).sum + (N.2.2.1 + 11) + rm.locals ≤ R.locals) (hc : kc + rm.cells ≤ R.cells) (hs : ks + rm.slots ≤ R.slots) (hp : pc + 3 = pc')
    (kk : ∀ v h', Q' v h' → Go l Z n0 M R Q h' (kc + rm.cells) (ks + rm.slots) pc' L (v.toList ++ S)) : Go l Z n0 M R Q h kc ks pc L St := by
  subst hp hst
  intro p e s m args below meth c T locs I X eT N'
  have Z0 : n0 ≤ h.size := by
    rw [← eT]
    exact Nat.le_trans I.2.2.2.2.2.2.2.2 X.same.2.1
  obtain ⟨v, _, ⟨T1, L1, k1, m1⟩, -, X1, ⟨Lc, hQ, l1, y1, z1⟩, st⟩ := X.specialBack I.1 (y := N.1) hy1 I.2.2.2.2.1 (mvT I.2.1 w1) (mvT I.2.1 w2) (hrN ▸ mvT I.2.1 w4) hy (backOf (W := (S.map fun v => v.category).sum) (Q := fun v h L => Q' v h ∧ Fr n0 L) (con Z0 []) I.2.1 w4 w3 hf hl) (g := mkF m pc L (as'.reverse ++ .ref a :: S)) rfl (hsz.trans I.2.2.2.1.symm) (Steps.refl _) (argsL := as') (rest := S) (lenOf hpd hlen) rfl (by show 2 * 0 + _ ≤ _; omega) (hb I.2.2.1 hd) (fun _ _ => ⟨rfl, eT, hc, hs⟩)
  dsimp only [Pt.U, Pt.locs, Pt.cells, Pt.slots] at X1 l1 y1 z1 st hQ
  subst l1 y1 z1
  obtain ⟨s₂, o, h1, r⟩ := kk v T1.heap hQ.1 p e s m args below meth c T1 _ I X1 rfl (Fr.app N' hQ.2)
  exact ⟨s₂, o, st.trans h1, r⟩
theorem g_callV (pc' : Nat) {index : Nat} {N : MD} {C : String} {rm : Room} {Q' : Option Value → Heap → Prop} {St : List Value} {ps : List FieldType} {r : Option FieldType} {a : Addr} (as' S : List Value) (hd : decode M.2.1 pc = .ok (.invokevirtual index, 3))
    (w1 : (Jvm.Cond.methodLink M.1.cls index N.1).before a0 Z = true) (w2 : (Jvm.Cond.instanceMethod N.1).before a0 Z = true) (w3 : (Jvm.Cond.initialized N.1.cls).before a0 Z = true) (w4 : (Jvm.Cond.code N.1 N.2.1 N.2.2.1 N.2.2.2).before a0 Z = true) (w5 : (Jvm.Cond.declares N.1).before a0 Z = true) (w6 : (Jvm.Cond.selects C N.1 N.1).before a0 Z = true) (E : Exa Z h a C) (hy : N.1.cls ≠ "java/lang/invoke/MethodHandle" ∧ N.1.cls ≠ "java/lang/invoke/VarHandle")
    (con : Con l Z n0 N rm (.ref a :: as').toArray h Q') (hsz : L.size = M.2.2.1) (hpd : parseMethodDescriptor N.1.desc = some ⟨ps, r⟩) (hlen : as'.length = ps.length) (hst : St = as'.reverse ++ .ref a :: S)
    (hf : rm.frames + 1 ≤ R.frames) (hl : (S.map fun v => v.category).sum + (N.2.2.1 + 11) + rm.locals ≤ R.locals) (hc : kc + rm.cells ≤ R.cells) (hs : ks + rm.slots ≤ R.slots) (hp : pc + 3 = pc')
    (kk : ∀ v h', Q' v h' → Go l Z n0 M R Q h' (kc + rm.cells) (ks + rm.slots) pc' L (v.toList ++ S)) : Go l Z n0 M R Q h kc ks pc L St := by
  subst hp hst
  intro p e s m args below meth c T locs I X eT N'
  have Z0 : n0 ≤ h.size := by
    rw [← eT]
    exact Nat.le_trans I.2.2.2.2.2.2.2.2 X.same.2.1
  obtain ⟨cq, kq, qa, qb, qc⟩ := isOf I.2.1 eT E
  obtain ⟨v, _, ⟨T1, L1, k1, m1⟩, -, X1, ⟨Lc, hQ, l1, y1, z1⟩, st⟩ := X.virtualBack I.1 (y := N.1) (z := N.1) I.2.2.2.2.1 (mvT I.2.1 w1) (mvT I.2.1 w5) (notFace_of_selects (args := #[]) (mvT I.2.1 w6)) (mvT I.2.1 w6) (mvT I.2.1 w2) hy (backOf (W := (S.map fun v => v.category).sum) (Q := fun v h L => Q' v h ∧ Fr n0 L) (con Z0 []) I.2.1 w4 w3 hf hl) qa qc (g := mkF m pc L (as'.reverse ++ .ref a :: S)) rfl (hsz.trans I.2.2.2.1.symm) (Steps.refl _) (argsL := as') (rest := S) (lenOf hpd hlen) rfl (by show 2 * 0 + _ ≤ _; omega) (hb I.2.2.1 hd) (fun _ _ => ⟨rfl, eT, hc, hs⟩)
  dsimp only [Pt.U, Pt.locs, Pt.cells, Pt.slots] at X1 l1 y1 z1 st hQ
  subst l1 y1 z1
  obtain ⟨s₂, o, h1, r⟩ := kk v T1.heap hQ.1 p e s m args below meth c T1 _ I X1 rfl (Fr.app N' hQ.2)
  exact ⟨s₂, o, st.trans h1, r⟩
theorem g_callP (pc' : Nat) {index kk' : Nat} {N : MD} {rm : Room} {Q' : Option Value → Heap → Prop} {St : List Value} {ps : List FieldType} {r : Option FieldType} {a : Addr} (as' S : List Value) (hd : decode M.2.1 pc = .ok (.invokevirtual index, 3))
    (w1 : (Jvm.Cond.methodLink M.1.cls index N.1).before a0 Z = true) (w2 : (Jvm.Cond.instanceMethod N.1).before a0 Z = true) (w3 : (Jvm.Cond.initialized N.1.cls).before a0 Z = true) (w4 : (Jvm.Cond.code N.1 N.2.1 N.2.2.1 N.2.2.2).before a0 Z = true) (w5 : (Jvm.Cond.privateMethod N.1).before a0 Z = true) (w6 : (Jvm.Cond.instantiable N.1.cls kk').before a0 Z = true) (E : Exa Z h a N.1.cls) (hy : N.1.cls ≠ "java/lang/invoke/MethodHandle" ∧ N.1.cls ≠ "java/lang/invoke/VarHandle")
    (con : Con l Z n0 N rm (.ref a :: as').toArray h Q') (hsz : L.size = M.2.2.1) (hpd : parseMethodDescriptor N.1.desc = some ⟨ps, r⟩) (hlen : as'.length = ps.length) (hst : St = as'.reverse ++ .ref a :: S)
    (hf : rm.frames + 1 ≤ R.frames) (hl : (S.map fun v => v.category).sum + (N.2.2.1 + 11) + rm.locals ≤ R.locals) (hc : kc + rm.cells ≤ R.cells) (hs : ks + rm.slots ≤ R.slots) (hp : pc + 3 = pc')
    (kk : ∀ v h', Q' v h' → Go l Z n0 M R Q h' (kc + rm.cells) (ks + rm.slots) pc' L (v.toList ++ S)) : Go l Z n0 M R Q h kc ks pc L St := by
  subst hp hst
  intro p e s m args below meth c T locs I X eT N'
  have Z0 : n0 ≤ h.size := by
    rw [← eT]
    exact Nat.le_trans I.2.2.2.2.2.2.2.2 X.same.2.1
  obtain ⟨cell, hcell, hobj⟩ := E.cell
  have u2 : (Jvm.Cond.instanceMethod N.1).before args s = true := mvT I.2.1 w2
  have u4 : (Jvm.Cond.code N.1 N.2.1 N.2.2.1 N.2.2.2).before args s = true := mvT I.2.1 w4
  have u6 : (Jvm.Cond.instantiable N.1.cls kk').before args s = true := mvT I.2.1 w6
  obtain ⟨mk, methM, hnamed, hmethM, hstM, habM⟩ := Cond.instanceMethod_spec u2
  obtain ⟨methM', cM, hmethM', -, -, -, -, -, -, hsigM⟩ := Cond.code_spec hnamed u4
  cases hmethM.symm.trans hmethM'
  obtain ⟨ck, kP, i1, hkP0, -, hni, -, -⟩ := Cond.instantiable_spec u6
  have hkP : s.vm.classes[mk.cls]? = some kP := by
    have q := findClass_of_methodNamed hnamed
    rw [i1] at q
    cases q
    exact hkP0
  have hkPi : kP.isInterface = false := (Bool.or_eq_false_iff.mp hni).1
  have hpriv := Cond.privateMethod_at (mvP (args := args) I.2.1 w5)
  have hselP : selectMethod e.platform s.vm cell.cls mk = .method mk := selectMethod_private hmethM (hpriv mk methM hnamed hmethM)
  obtain ⟨vm₁, X₁, hstep₁⟩ := X.invokevirtual I.1 I.2.2.2.2.1 (mvT I.2.1 w1) hnamed hmethM hstM hkP hkPi hy (a := a) (cell := cell) (by rw [eT]; exact hcell) hobj hselP hmethM habM hkP hkPi (g := mkF m pc L (as'.reverse ++ .ref a :: S)) rfl (argsL := as') (rest := S) (lenOf hpd hlen _ hsigM) rfl (hb I.2.2.1 hd)
  have hK := backOf (W := (S.map fun v => v.category).sum) (Q := fun v h L => Q' v h ∧ Fr n0 L) (p := p) (e := e) (below := below) (args := args) (len := 3) (con Z0 []) I.2.1 w4 w3 hf hl
  obtain ⟨v, ⟨T1, L1, k1, m1⟩, X1, ⟨Lc, hQ, l1, y1, z1⟩, st⟩ := hK m meth c ⟨T.setVm vm₁, locs, kc, ks⟩ (mkF m pc L S) (.invokevirtual index) mk (.ref a :: as').toArray X₁ rfl (hsz.trans I.2.2.2.1.symm) (hb I.2.2.1 hd) (by show 2 * 0 + (S.map fun v => v.category).sum ≤ _; omega) (X₁.named hnamed) ⟨rfl, eT, hc, hs⟩
  dsimp only [Pt.U, Pt.locs, Pt.cells, Pt.slots] at X1 l1 y1 z1 st hQ
  subst l1 y1 z1
  obtain ⟨s₂, o, h1, r⟩ := kk v T1.heap hQ.1 p e s m args below meth c T1 _ I X1 rfl (Fr.app N' hQ.2)
  exact ⟨s₂, o, (hstep₁ _ fun acts => by rw [doInvoke_state]; exact Steps.refl _).trans (st.trans h1), r⟩
theorem wd {tb : List Jvm.Cond} (hw : ∀ d ∈ tb, d.before a0 Z = true) (k : Nat) {d : Jvm.Cond} (q : tb[k]? = some d) : d.before a0 Z = true := hw _ (List.mem_of_getElem? q)
end Own
-- numbers: small naturals as ints
theorem own_ti {n : Nat} (h : n < 2147483648) : (Int32.ofNat n).toInt = (n : Int) := Int32.toInt_ofNat_of_lt h
theorem own_eq {a b : Nat} (ha : a < 2147483648) (hb : b < 2147483648) : Int32.ofNat a = Int32.ofNat b ↔ a = b := by
  rw [← Int32.toInt_inj, own_ti ha, own_ti hb]
  omega
theorem own_lt {a b : Nat} (ha : a < 2147483648) (hb : b < 2147483648) : Int32.ofNat a < Int32.ofNat b ↔ a < b := by
  rw [Int32.lt_iff_toInt_lt, own_ti ha, own_ti hb]
  omega
theorem own_nn {a : Nat} (ha : a < 2147483648) : ¬ Int32.ofNat a < 0 := by
  rw [Int32.lt_iff_toInt_lt, own_ti ha]
  have : (0 : Int32).toInt = 0 := rfl
  omega
theorem own_cap {a c : Nat} (ha : a < 2147483648) (hc : a ≤ c) : (Int32.ofNat a).toNatClampNeg ≤ c := by
  show (Int32.ofNat a).toInt.toNat ≤ c
  rw [own_ti ha]
  omega
theorem own_of {x : Int32} (h : 0 ≤ x.toInt) : ∃ n : Nat, x = Int32.ofNat n ∧ n < 2147483648 ∧ (n : Int) = x.toInt := by
  have r := rng32 x
  refine ⟨x.toInt.toNat, ?_, by omega, by omega⟩
  rw [← Int32.toInt_inj, own_ti (by omega)]
  omega
theorem own_ge (x : Int32) : ¬ x < 0 ↔ 0 ≤ x.toInt := by
  rw [Int32.lt_iff_toInt_lt]
  have : (0 : Int32).toInt = 0 := rfl
  omega
theorem own_le (x y : Int32) : ¬ x < y ↔ y.toInt ≤ x.toInt := by
  rw [Int32.lt_iff_toInt_lt]
  omega
theorem own_sub {a b : Nat} (ha : a < 2147483648) (hb : b ≤ a) : Int32.ofNat a - Int32.ofNat b = Int32.ofNat (a - b) := by
  rw [← Int32.toInt_inj, own_ti (by omega)]
  have h := c_isub (Int32.ofNat a) (Int32.ofNat b)
  rw [own_ti ha, own_ti (by omega)] at h
  have r := rng32 (Int32.ofNat a - Int32.ofNat b)
  omega
theorem own_add (a b : Nat) : Int32.ofNat a + Int32.ofNat b = Int32.ofNat (a + b) := (Int32.ofNat_add a b).symm
theorem own_one (a : Nat) : Int32.ofNat a + (1 : Int32) = Int32.ofNat (a + 1) := own_add a 1
theorem own_rem (x : Int32) (m : Nat) (hm : 1 ≤ m) (hm2 : m < 2147483648) : ∃ r : Nat, r < m ∧ ((x &&& 2147483647) % Int32.ofNat m) = Int32.ofNat r := by
  have h0 := (c_and x 2147483647 (by decide)).1
  have h1 := (c_irem (x &&& 2147483647) (Int32.ofNat m) m (own_ti hm2)).1 h0
  have h2 := Int.emod_nonneg (x &&& 2147483647).toInt (b := (m : Int)) (by omega)
  have h3 := Int.emod_lt_of_pos (x &&& 2147483647).toInt (b := (m : Int)) (by omega)
  obtain ⟨n, e1, e2, e3⟩ := own_of (x := (x &&& 2147483647) % Int32.ofNat m) (by omega)
  exact ⟨n, by omega, e1⟩
theorem dsp_0 : decode prog_3_method_3_code 0 = .ok (.iload_n 3, 1) := by decide +kernel
theorem dsp_1 : decode prog_3_method_3_code 1 = .ok (.istore 4, 2) := by decide +kernel
theorem dsp_3 : decode prog_3_method_3_code 3 = .ok (.iconst 0, 1) := by decide +kernel
theorem dsp_4 : decode prog_3_method_3_code 4 = .ok (.istore 5, 2) := by decide +kernel
theorem dsp_6 : decode prog_3_method_3_code 6 = .ok (.iload 5, 2) := by decide +kernel
theorem dsp_8 : decode prog_3_method_3_code 8 = .ok (.iload_n 1, 1) := by decide +kernel
theorem dsp_9 : decode prog_3_method_3_code 9 = .ok (.if_icmp .ge 137, 3) := by decide +kernel
theorem dsp_12 : decode prog_3_method_3_code 12 = .ok (.aload_n 0, 1) := by decide +kernel
theorem dsp_13 : decode prog_3_method_3_code 13 = .ok (.iload 5, 2) := by decide +kernel
theorem dsp_15 : decode prog_3_method_3_code 15 = .ok (.laload, 1) := by decide +kernel
theorem dsp_16 : decode prog_3_method_3_code 16 = .ok (.lstore 6, 2) := by decide +kernel
theorem dsp_18 : decode prog_3_method_3_code 18 = .ok (.lload 6, 2) := by decide +kernel
theorem dsp_20 : decode prog_3_method_3_code 20 = .ok (.lstore 8, 2) := by decide +kernel
theorem dsp_22 : decode prog_3_method_3_code 22 = .ok (.iload 4, 2) := by decide +kernel
theorem dsp_24 : decode prog_3_method_3_code 24 = .ok (.istore 10, 2) := by decide +kernel
theorem dsp_26 : decode prog_3_method_3_code 26 = .ok (.iconst 0, 1) := by decide +kernel
theorem dsp_27 : decode prog_3_method_3_code 27 = .ok (.istore 11, 2) := by decide +kernel
theorem dsp_29 : decode prog_3_method_3_code 29 = .ok (.iload 11, 2) := by decide +kernel
theorem dsp_31 : decode prog_3_method_3_code 31 = .ok (.iload 10, 2) := by decide +kernel
theorem dsp_33 : decode prog_3_method_3_code 33 = .ok (.if_icmp .ge 82, 3) := by decide +kernel
theorem dsp_36 : decode prog_3_method_3_code 36 = .ok (.aload_n 2, 1) := by decide +kernel
theorem dsp_37 : decode prog_3_method_3_code 37 = .ok (.iload 11, 2) := by decide +kernel
theorem dsp_39 : decode prog_3_method_3_code 39 = .ok (.laload, 1) := by decide +kernel
theorem dsp_40 : decode prog_3_method_3_code 40 = .ok (.lstore 12, 2) := by decide +kernel
theorem dsp_42 : decode prog_3_method_3_code 42 = .ok (.lload 12, 2) := by decide +kernel
theorem dsp_44 : decode prog_3_method_3_code 44 = .ok (.lload 6, 2) := by decide +kernel
theorem dsp_46 : decode prog_3_method_3_code 46 = .ok (.land, 1) := by decide +kernel
theorem dsp_47 : decode prog_3_method_3_code 47 = .ok (.lstore 14, 2) := by decide +kernel
theorem dsp_49 : decode prog_3_method_3_code 49 = .ok (.lload 12, 2) := by decide +kernel
theorem dsp_51 : decode prog_3_method_3_code 51 = .ok (.lload 6, 2) := by decide +kernel
theorem dsp_53 : decode prog_3_method_3_code 53 = .ok (.ldc2_w 37, 3) := by decide +kernel
theorem dsp_56 : decode prog_3_method_3_code 56 = .ok (.lxor, 1) := by decide +kernel
theorem dsp_57 : decode prog_3_method_3_code 57 = .ok (.land, 1) := by decide +kernel
theorem dsp_58 : decode prog_3_method_3_code 58 = .ok (.lstore 16, 2) := by decide +kernel
theorem dsp_60 : decode prog_3_method_3_code 60 = .ok (.lload 8, 2) := by decide +kernel
theorem dsp_62 : decode prog_3_method_3_code 62 = .ok (.lload 12, 2) := by decide +kernel
theorem dsp_64 : decode prog_3_method_3_code 64 = .ok (.ldc2_w 37, 3) := by decide +kernel
theorem dsp_67 : decode prog_3_method_3_code 67 = .ok (.lxor, 1) := by decide +kernel
theorem dsp_68 : decode prog_3_method_3_code 68 = .ok (.land, 1) := by decide +kernel
theorem dsp_69 : decode prog_3_method_3_code 69 = .ok (.lstore 8, 2) := by decide +kernel
theorem dsp_71 : decode prog_3_method_3_code 71 = .ok (.lload 14, 2) := by decide +kernel
theorem dsp_73 : decode prog_3_method_3_code 73 = .ok (.lconst 0, 1) := by decide +kernel
theorem dsp_74 : decode prog_3_method_3_code 74 = .ok (.lcmp, 1) := by decide +kernel
theorem dsp_75 : decode prog_3_method_3_code 75 = .ok (.ifCond .eq 34, 3) := by decide +kernel
theorem dsp_78 : decode prog_3_method_3_code 78 = .ok (.lload 16, 2) := by decide +kernel
theorem dsp_80 : decode prog_3_method_3_code 80 = .ok (.lconst 0, 1) := by decide +kernel
theorem dsp_81 : decode prog_3_method_3_code 81 = .ok (.lcmp, 1) := by decide +kernel
theorem dsp_82 : decode prog_3_method_3_code 82 = .ok (.ifCond .eq 27, 3) := by decide +kernel
theorem dsp_85 : decode prog_3_method_3_code 85 = .ok (.iload 4, 2) := by decide +kernel
theorem dsp_87 : decode prog_3_method_3_code 87 = .ok (.aload_n 2, 1) := by decide +kernel
theorem dsp_88 : decode prog_3_method_3_code 88 = .ok (.arraylength, 1) := by decide +kernel
theorem dsp_89 : decode prog_3_method_3_code 89 = .ok (.if_icmp .ne 5, 3) := by decide +kernel
theorem dsp_92 : decode prog_3_method_3_code 92 = .ok (.iconst (-1), 1) := by decide +kernel
theorem dsp_93 : decode prog_3_method_3_code 93 = .ok (.ireturn, 1) := by decide +kernel
theorem dsp_94 : decode prog_3_method_3_code 94 = .ok (.aload_n 2, 1) := by decide +kernel
theorem dsp_95 : decode prog_3_method_3_code 95 = .ok (.iload 11, 2) := by decide +kernel
theorem dsp_97 : decode prog_3_method_3_code 97 = .ok (.lload 14, 2) := by decide +kernel
theorem dsp_99 : decode prog_3_method_3_code 99 = .ok (.lastore, 1) := by decide +kernel
theorem dsp_100 : decode prog_3_method_3_code 100 = .ok (.aload_n 2, 1) := by decide +kernel
theorem dsp_101 : decode prog_3_method_3_code 101 = .ok (.iload 4, 2) := by decide +kernel
theorem dsp_103 : decode prog_3_method_3_code 103 = .ok (.iinc 4 1, 3) := by decide +kernel
theorem dsp_106 : decode prog_3_method_3_code 106 = .ok (.lload 16, 2) := by decide +kernel
theorem dsp_108 : decode prog_3_method_3_code 108 = .ok (.lastore, 1) := by decide +kernel
theorem dsp_109 : decode prog_3_method_3_code 109 = .ok (.iinc 11 1, 3) := by decide +kernel
theorem dsp_112 : decode prog_3_method_3_code 112 = .ok (.goto (-83), 3) := by decide +kernel
theorem dsp_115 : decode prog_3_method_3_code 115 = .ok (.lload 8, 2) := by decide +kernel
theorem dsp_117 : decode prog_3_method_3_code 117 = .ok (.lconst 0, 1) := by decide +kernel
theorem dsp_118 : decode prog_3_method_3_code 118 = .ok (.lcmp, 1) := by decide +kernel
theorem dsp_119 : decode prog_3_method_3_code 119 = .ok (.ifCond .eq 21, 3) := by decide +kernel
theorem dsp_122 : decode prog_3_method_3_code 122 = .ok (.iload 4, 2) := by decide +kernel
theorem dsp_124 : decode prog_3_method_3_code 124 = .ok (.aload_n 2, 1) := by decide +kernel
theorem dsp_125 : decode prog_3_method_3_code 125 = .ok (.arraylength, 1) := by decide +kernel
theorem dsp_126 : decode prog_3_method_3_code 126 = .ok (.if_icmp .ne 5, 3) := by decide +kernel
theorem dsp_129 : decode prog_3_method_3_code 129 = .ok (.iconst (-1), 1) := by decide +kernel
theorem dsp_130 : decode prog_3_method_3_code 130 = .ok (.ireturn, 1) := by decide +kernel
theorem dsp_131 : decode prog_3_method_3_code 131 = .ok (.aload_n 2, 1) := by decide +kernel
theorem dsp_132 : decode prog_3_method_3_code 132 = .ok (.iload 4, 2) := by decide +kernel
theorem dsp_134 : decode prog_3_method_3_code 134 = .ok (.iinc 4 1, 3) := by decide +kernel
theorem dsp_137 : decode prog_3_method_3_code 137 = .ok (.lload 8, 2) := by decide +kernel
theorem dsp_139 : decode prog_3_method_3_code 139 = .ok (.lastore, 1) := by decide +kernel
theorem dsp_140 : decode prog_3_method_3_code 140 = .ok (.iinc 5 1, 3) := by decide +kernel
theorem dsp_143 : decode prog_3_method_3_code 143 = .ok (.goto (-137), 3) := by decide +kernel
theorem dsp_146 : decode prog_3_method_3_code 146 = .ok (.iload 4, 2) := by decide +kernel
theorem dsp_148 : decode prog_3_method_3_code 148 = .ok (.ireturn, 1) := by decide +kernel
abbrev M_sp : MD := ((⟨"com/example/lynceus/lynceus/AtomTable", "split", "([JI[JI)I"⟩ : MethodName), prog_3_method_3_code, 18, (some .int))
theorem pl_sp : plainFor M_sp.1 = true := plainFor_of_name (by decide +kernel)
theorem pd_sp : parseMethodDescriptor "([JI[JI)I" = some ⟨[(.array .long), .int, (.array .long), .int], (some .int)⟩ := by decide +kernel
theorem dnz_0 : decode method_3_code 0 = .ok (.lload_n 0, 1) := by decide +kernel
theorem dnz_1 : decode method_3_code 1 = .ok (.lconst 0, 1) := by decide +kernel
theorem dnz_2 : decode method_3_code 2 = .ok (.lcmp, 1) := by decide +kernel
theorem dnz_3 : decode method_3_code 3 = .ok (.ifCond .eq 7, 3) := by decide +kernel
theorem dnz_6 : decode method_3_code 6 = .ok (.iconst 1, 1) := by decide +kernel
theorem dnz_7 : decode method_3_code 7 = .ok (.goto 4, 3) := by decide +kernel
theorem dnz_10 : decode method_3_code 10 = .ok (.iconst 0, 1) := by decide +kernel
theorem dnz_11 : decode method_3_code 11 = .ok (.ireturn, 1) := by decide +kernel
abbrev M_nz : MD := ((⟨"com/example/lynceus/lynceus/AtomTableSplitPinLaw", "nz", "(J)I"⟩ : MethodName), method_3_code, 2, (some .int))
theorem pl_nz : plainFor M_nz.1 = true := plainFor_of_name (by decide +kernel)
theorem pd_nz : parseMethodDescriptor "(J)I" = some ⟨[.long], (some .int)⟩ := by decide +kernel
theorem dce_0 : decode method_4_code 0 = .ok (.lload_n 0, 1) := by decide +kernel
theorem dce_1 : decode method_4_code 1 = .ok (.lload_n 2, 1) := by decide +kernel
theorem dce_2 : decode method_4_code 2 = .ok (.land, 1) := by decide +kernel
theorem dce_3 : decode method_4_code 3 = .ok (.lload 4, 2) := by decide +kernel
theorem dce_5 : decode method_4_code 5 = .ok (.land, 1) := by decide +kernel
theorem dce_6 : decode method_4_code 6 = .ok (.invokestatic 21, 3) := by decide +kernel
theorem dce_9 : decode method_4_code 9 = .ok (.lload_n 0, 1) := by decide +kernel
theorem dce_10 : decode method_4_code 10 = .ok (.lload_n 2, 1) := by decide +kernel
theorem dce_11 : decode method_4_code 11 = .ok (.land, 1) := by decide +kernel
theorem dce_12 : decode method_4_code 12 = .ok (.lload 4, 2) := by decide +kernel
theorem dce_14 : decode method_4_code 14 = .ok (.ldc2_w 7, 3) := by decide +kernel
theorem dce_17 : decode method_4_code 17 = .ok (.lxor, 1) := by decide +kernel
theorem dce_18 : decode method_4_code 18 = .ok (.land, 1) := by decide +kernel
theorem dce_19 : decode method_4_code 19 = .ok (.invokestatic 21, 3) := by decide +kernel
theorem dce_22 : decode method_4_code 22 = .ok (.iadd, 1) := by decide +kernel
theorem dce_23 : decode method_4_code 23 = .ok (.lload_n 0, 1) := by decide +kernel
theorem dce_24 : decode method_4_code 24 = .ok (.lload_n 2, 1) := by decide +kernel
theorem dce_25 : decode method_4_code 25 = .ok (.ldc2_w 7, 3) := by decide +kernel
theorem dce_28 : decode method_4_code 28 = .ok (.lxor, 1) := by decide +kernel
theorem dce_29 : decode method_4_code 29 = .ok (.land, 1) := by decide +kernel
theorem dce_30 : decode method_4_code 30 = .ok (.lload 4, 2) := by decide +kernel
theorem dce_32 : decode method_4_code 32 = .ok (.land, 1) := by decide +kernel
theorem dce_33 : decode method_4_code 33 = .ok (.invokestatic 21, 3) := by decide +kernel
theorem dce_36 : decode method_4_code 36 = .ok (.iadd, 1) := by decide +kernel
theorem dce_37 : decode method_4_code 37 = .ok (.lload_n 0, 1) := by decide +kernel
theorem dce_38 : decode method_4_code 38 = .ok (.lload_n 2, 1) := by decide +kernel
theorem dce_39 : decode method_4_code 39 = .ok (.ldc2_w 7, 3) := by decide +kernel
theorem dce_42 : decode method_4_code 42 = .ok (.lxor, 1) := by decide +kernel
theorem dce_43 : decode method_4_code 43 = .ok (.land, 1) := by decide +kernel
theorem dce_44 : decode method_4_code 44 = .ok (.lload 4, 2) := by decide +kernel
theorem dce_46 : decode method_4_code 46 = .ok (.ldc2_w 7, 3) := by decide +kernel
theorem dce_49 : decode method_4_code 49 = .ok (.lxor, 1) := by decide +kernel
theorem dce_50 : decode method_4_code 50 = .ok (.land, 1) := by decide +kernel
theorem dce_51 : decode method_4_code 51 = .ok (.invokestatic 21, 3) := by decide +kernel
theorem dce_54 : decode method_4_code 54 = .ok (.iadd, 1) := by decide +kernel
theorem dce_55 : decode method_4_code 55 = .ok (.ireturn, 1) := by decide +kernel
abbrev M_ce : MD := ((⟨"com/example/lynceus/lynceus/AtomTableSplitPinLaw", "cells", "(JJJ)I"⟩ : MethodName), method_4_code, 6, (some .int))
theorem pl_ce : plainFor M_ce.1 = true := plainFor_of_name (by decide +kernel)
theorem pd_ce : parseMethodDescriptor "(JJJ)I" = some ⟨[.long, .long, .long], (some .int)⟩ := by decide +kernel
theorem dat_0 : decode method_5_code 0 = .ok (.iload_n 1, 1) := by decide +kernel
theorem dat_1 : decode method_5_code 1 = .ok (.iload_n 2, 1) := by decide +kernel
theorem dat_2 : decode method_5_code 2 = .ok (.if_icmp .lt 5, 3) := by decide +kernel
theorem dat_5 : decode method_5_code 5 = .ok (.lconst 0, 1) := by decide +kernel
theorem dat_6 : decode method_5_code 6 = .ok (.lreturn, 1) := by decide +kernel
theorem dat_7 : decode method_5_code 7 = .ok (.aload_n 0, 1) := by decide +kernel
theorem dat_8 : decode method_5_code 8 = .ok (.iload_n 1, 1) := by decide +kernel
theorem dat_9 : decode method_5_code 9 = .ok (.laload, 1) := by decide +kernel
theorem dat_10 : decode method_5_code 10 = .ok (.lreturn, 1) := by decide +kernel
abbrev M_at : MD := ((⟨"com/example/lynceus/lynceus/AtomTableSplitPinLaw", "at", "([JII)J"⟩ : MethodName), method_5_code, 3, (some .long))
theorem pl_at : plainFor M_at.1 = true := plainFor_of_name (by decide +kernel)
theorem pd_at : parseMethodDescriptor "([JII)J" = some ⟨[(.array .long), .int, .int], (some .long)⟩ := by decide +kernel
theorem dgd_0 : decode method_6_code 0 = .ok (.iload_n 1, 1) := by decide +kernel
theorem dgd_1 : decode method_6_code 1 = .ok (.iload_n 2, 1) := by decide +kernel
theorem dgd_2 : decode method_6_code 2 = .ok (.if_icmp .lt 5, 3) := by decide +kernel
theorem dgd_5 : decode method_6_code 5 = .ok (.iconst 1, 1) := by decide +kernel
theorem dgd_6 : decode method_6_code 6 = .ok (.ireturn, 1) := by decide +kernel
theorem dgd_7 : decode method_6_code 7 = .ok (.aload_n 0, 1) := by decide +kernel
theorem dgd_8 : decode method_6_code 8 = .ok (.iload_n 1, 1) := by decide +kernel
theorem dgd_9 : decode method_6_code 9 = .ok (.laload, 1) := by decide +kernel
theorem dgd_10 : decode method_6_code 10 = .ok (.lstore 11, 2) := by decide +kernel
theorem dgd_12 : decode method_6_code 12 = .ok (.lload 11, 2) := by decide +kernel
theorem dgd_14 : decode method_6_code 14 = .ok (.lconst 0, 1) := by decide +kernel
theorem dgd_15 : decode method_6_code 15 = .ok (.lcmp, 1) := by decide +kernel
theorem dgd_16 : decode method_6_code 16 = .ok (.ifCond .ne 5, 3) := by decide +kernel
theorem dgd_19 : decode method_6_code 19 = .ok (.iconst 0, 1) := by decide +kernel
theorem dgd_20 : decode method_6_code 20 = .ok (.ireturn, 1) := by decide +kernel
theorem dgd_21 : decode method_6_code 21 = .ok (.lload 11, 2) := by decide +kernel
theorem dgd_23 : decode method_6_code 23 = .ok (.lload_n 3, 1) := by decide +kernel
theorem dgd_24 : decode method_6_code 24 = .ok (.land, 1) := by decide +kernel
theorem dgd_25 : decode method_6_code 25 = .ok (.lconst 0, 1) := by decide +kernel
theorem dgd_26 : decode method_6_code 26 = .ok (.lcmp, 1) := by decide +kernel
theorem dgd_27 : decode method_6_code 27 = .ok (.ifCond .eq 9, 3) := by decide +kernel
theorem dgd_30 : decode method_6_code 30 = .ok (.lload_n 3, 1) := by decide +kernel
theorem dgd_31 : decode method_6_code 31 = .ok (.lstore 13, 2) := by decide +kernel
theorem dgd_33 : decode method_6_code 33 = .ok (.goto 30, 3) := by decide +kernel
theorem dgd_36 : decode method_6_code 36 = .ok (.lload 11, 2) := by decide +kernel
theorem dgd_38 : decode method_6_code 38 = .ok (.lload 5, 2) := by decide +kernel
theorem dgd_40 : decode method_6_code 40 = .ok (.land, 1) := by decide +kernel
theorem dgd_41 : decode method_6_code 41 = .ok (.lconst 0, 1) := by decide +kernel
theorem dgd_42 : decode method_6_code 42 = .ok (.lcmp, 1) := by decide +kernel
theorem dgd_43 : decode method_6_code 43 = .ok (.ifCond .eq 10, 3) := by decide +kernel
theorem dgd_46 : decode method_6_code 46 = .ok (.lload 5, 2) := by decide +kernel
theorem dgd_48 : decode method_6_code 48 = .ok (.lstore 13, 2) := by decide +kernel
theorem dgd_50 : decode method_6_code 50 = .ok (.goto 13, 3) := by decide +kernel
theorem dgd_53 : decode method_6_code 53 = .ok (.lload_n 3, 1) := by decide +kernel
theorem dgd_54 : decode method_6_code 54 = .ok (.lload 5, 2) := by decide +kernel
theorem dgd_56 : decode method_6_code 56 = .ok (.lor, 1) := by decide +kernel
theorem dgd_57 : decode method_6_code 57 = .ok (.ldc2_w 7, 3) := by decide +kernel
theorem dgd_60 : decode method_6_code 60 = .ok (.lxor, 1) := by decide +kernel
theorem dgd_61 : decode method_6_code 61 = .ok (.lstore 13, 2) := by decide +kernel
theorem dgd_63 : decode method_6_code 63 = .ok (.lload 11, 2) := by decide +kernel
theorem dgd_65 : decode method_6_code 65 = .ok (.lload 7, 2) := by decide +kernel
theorem dgd_67 : decode method_6_code 67 = .ok (.land, 1) := by decide +kernel
theorem dgd_68 : decode method_6_code 68 = .ok (.lconst 0, 1) := by decide +kernel
theorem dgd_69 : decode method_6_code 69 = .ok (.lcmp, 1) := by decide +kernel
theorem dgd_70 : decode method_6_code 70 = .ok (.ifCond .eq 8, 3) := by decide +kernel
theorem dgd_73 : decode method_6_code 73 = .ok (.lload 7, 2) := by decide +kernel
theorem dgd_75 : decode method_6_code 75 = .ok (.goto 9, 3) := by decide +kernel
theorem dgd_78 : decode method_6_code 78 = .ok (.lload 7, 2) := by decide +kernel
theorem dgd_80 : decode method_6_code 80 = .ok (.ldc2_w 7, 3) := by decide +kernel
theorem dgd_83 : decode method_6_code 83 = .ok (.lxor, 1) := by decide +kernel
theorem dgd_84 : decode method_6_code 84 = .ok (.lstore 15, 2) := by decide +kernel
theorem dgd_86 : decode method_6_code 86 = .ok (.lload 11, 2) := by decide +kernel
theorem dgd_88 : decode method_6_code 88 = .ok (.lload 9, 2) := by decide +kernel
theorem dgd_90 : decode method_6_code 90 = .ok (.land, 1) := by decide +kernel
theorem dgd_91 : decode method_6_code 91 = .ok (.lconst 0, 1) := by decide +kernel
theorem dgd_92 : decode method_6_code 92 = .ok (.lcmp, 1) := by decide +kernel
theorem dgd_93 : decode method_6_code 93 = .ok (.ifCond .eq 8, 3) := by decide +kernel
theorem dgd_96 : decode method_6_code 96 = .ok (.lload 9, 2) := by decide +kernel
theorem dgd_98 : decode method_6_code 98 = .ok (.goto 9, 3) := by decide +kernel
theorem dgd_101 : decode method_6_code 101 = .ok (.lload 9, 2) := by decide +kernel
theorem dgd_103 : decode method_6_code 103 = .ok (.ldc2_w 7, 3) := by decide +kernel
theorem dgd_106 : decode method_6_code 106 = .ok (.lxor, 1) := by decide +kernel
theorem dgd_107 : decode method_6_code 107 = .ok (.lstore 17, 2) := by decide +kernel
theorem dgd_109 : decode method_6_code 109 = .ok (.lload 11, 2) := by decide +kernel
theorem dgd_111 : decode method_6_code 111 = .ok (.lload 13, 2) := by decide +kernel
theorem dgd_113 : decode method_6_code 113 = .ok (.lload 15, 2) := by decide +kernel
theorem dgd_115 : decode method_6_code 115 = .ok (.land, 1) := by decide +kernel
theorem dgd_116 : decode method_6_code 116 = .ok (.lload 17, 2) := by decide +kernel
theorem dgd_118 : decode method_6_code 118 = .ok (.land, 1) := by decide +kernel
theorem dgd_119 : decode method_6_code 119 = .ok (.lcmp, 1) := by decide +kernel
theorem dgd_120 : decode method_6_code 120 = .ok (.ifCond .ne 7, 3) := by decide +kernel
theorem dgd_123 : decode method_6_code 123 = .ok (.iconst 1, 1) := by decide +kernel
theorem dgd_124 : decode method_6_code 124 = .ok (.goto 4, 3) := by decide +kernel
theorem dgd_127 : decode method_6_code 127 = .ok (.iconst 0, 1) := by decide +kernel
theorem dgd_128 : decode method_6_code 128 = .ok (.ireturn, 1) := by decide +kernel
abbrev M_gd : MD := ((⟨"com/example/lynceus/lynceus/AtomTableSplitPinLaw", "good", "([JIIJJJJ)Z"⟩ : MethodName), method_6_code, 19, (some .boolean))
theorem pl_gd : plainFor M_gd.1 = true := plainFor_of_name (by decide +kernel)
theorem pd_gd : parseMethodDescriptor "([JIIJJJJ)Z" = some ⟨[(.array .long), .int, .int, .long, .long, .long, .long], (some .boolean)⟩ := by decide +kernel
abbrev M_law : MD := (x, code, maxLocals, ret)
theorem pl_law : plainFor M_law.1 = true := plainFor_of_name (by first | (simp [plainName, overriddenIn, x]; done) | decide +kernel)
-- THE PLAIN MODEL OF split
def uI {α : Type} [DecidableEq α] (an sb : α → α → α) (z s : α) : List α → List α → List α → α → List α × α
  | dn, [], ex, r => (dn ++ ex, r)
  | dn, a :: td, ex, r => if an a s = z ∨ sb a s = z then uI an sb z s (dn ++ [a]) td ex (sb r a) else uI an sb z s (dn ++ [an a s]) td (ex ++ [sb a s]) (sb r a)
def uP {α : Type} [DecidableEq α] (an sb : α → α → α) (z s : α) (A : List α) : List α :=
  if (uI an sb z s [] A [] s).2 = z then (uI an sb z s [] A [] s).1 else (uI an sb z s [] A [] s).1 ++ [(uI an sb z s [] A [] s).2]
def cI {α : Type} [DecidableEq α] (an sb : α → α → α) (z s : α) (c : Nat) : List α → List α → List α → α → Option (List α × α)
  | dn, [], ex, r => some (dn ++ ex, r)
  | dn, a :: td, ex, r => if an a s = z ∨ sb a s = z then cI an sb z s c (dn ++ [a]) td ex (sb r a) else if dn.length + (td.length + 1) + ex.length = c then none else cI an sb z s c (dn ++ [an a s]) td (ex ++ [sb a s]) (sb r a)
def cP1 {α : Type} [DecidableEq α] (an sb : α → α → α) (z s : α) (c : Nat) (A : List α) : Option (List α) :=
  match cI an sb z s c [] A [] s with
  | none => none
  | some (B, r) => if r = z then some B else if B.length = c then none else some (B ++ [r])
section Cap
variable {α : Type} [DecidableEq α] {an sb : α → α → α} {z s : α} {c : Nat}
theorem uI_len : ∀ (td dn ex : List α) (r : α), dn.length + td.length + ex.length ≤ (uI an sb z s dn td ex r).1.length := by
  intro td
  induction td with
  | nil => intro dn ex r; simp [uI]
  | cons a td ih =>
    intro dn ex r
    unfold uI
    split
    · have := ih (dn ++ [a]) ex (sb r a)
      simp at this ⊢
      omega
    · have := ih (dn ++ [an a s]) (ex ++ [sb a s]) (sb r a)
      simp at this ⊢
      omega
theorem cI_eq : ∀ (td dn ex : List α) (r : α), dn.length + td.length + ex.length ≤ c → cI an sb z s c dn td ex r = if (uI an sb z s dn td ex r).1.length ≤ c then some (uI an sb z s dn td ex r) else none := by
  intro td
  induction td with
  | nil =>
    intro dn ex r h
    unfold cI uI
    rw [if_pos (by simp at h ⊢; omega)]
  | cons a td ih =>
    intro dn ex r h
    unfold cI uI
    by_cases q : an a s = z ∨ sb a s = z
    · rw [if_pos q, if_pos q]
      exact ih _ _ _ (by simp at h ⊢; omega)
    · rw [if_neg q, if_neg q]
      by_cases g : dn.length + (td.length + 1) + ex.length = c
      · rw [if_pos g, if_neg]
        have := uI_len (an := an) (sb := sb) (z := z) (s := s) td (dn ++ [an a s]) (ex ++ [sb a s]) (sb r a)
        simp at this
        omega
      · rw [if_neg g]
        exact ih _ _ _ (by simp at h ⊢; omega)
theorem cP1_eq (A : List α) (h : A.length ≤ c) : cP1 an sb z s c A = if (uP an sb z s A).length ≤ c then some (uP an sb z s A) else none := by
  unfold cP1 uP
  rw [cI_eq A [] [] s (by simpa using h)]
  generalize uI an sb z s [] A [] s = U
  obtain ⟨B, r⟩ := U
  dsimp only
  by_cases q : r = z
  · rw [if_pos q]
    by_cases g : B.length ≤ c
    · rw [if_pos g, if_pos g]; dsimp only; rw [if_pos q]
    · rw [if_neg g, if_neg g]
  · rw [if_neg q]
    by_cases g : B.length ≤ c
    · rw [if_pos g]
      dsimp only
      rw [if_neg q]
      by_cases k : B.length = c
      · rw [if_pos k, if_neg (by simp; omega)]
      · rw [if_neg k, if_pos (by simp; omega)]
    · rw [if_neg g, if_neg (by simp; omega)]
theorem uP_len (A : List α) : A.length ≤ (uP an sb z s A).length := by
  have := uI_len (an := an) (sb := sb) (z := z) (s := s) A [] [] s
  unfold uP
  split
  · simp at this; omega
  · simp at this ⊢; omega
end Cap
-- a pass by the empty set changes nothing
theorem uP_z {α : Type} [DecidableEq α] {an sb : α → α → α} {z : α} (h1 : ∀ a, an a z = z) (h2 : ∀ a, sb z a = z) (A : List α) : uP an sb z z A = A := by
  have k : ∀ (td dn : List α), uI an sb z z dn td [] z = (dn ++ td, z) := by
    intro td
    induction td with
    | nil => intro dn; simp [uI]
    | cons a td ih =>
      intro dn
      unfold uI
      rw [if_pos (Or.inl (h1 a)), h2, ih]
      simp
  unfold uP
  rw [k, if_pos rfl]
  simp
-- simulation: f from masks to sets
section Sim
variable {α β : Type} [DecidableEq α] [DecidableEq β] {an sb : α → α → α} {z : α} {an' sb' : β → β → β} {z' : β} {f : α → β} {Ok : α → Prop}
theorem uI_map (ha : ∀ a b, f (an a b) = an' (f a) (f b)) (hs : ∀ a b, f (sb a b) = sb' (f a) (f b)) (hz : ∀ a, Ok a → (f a = z' ↔ a = z)) (oa : ∀ a b, Ok a → Ok (an a b)) (os : ∀ a b, Ok a → Ok (sb a b)) (s : α) :
    ∀ (td dn ex : List α) (r : α), (∀ a ∈ td, Ok a) → uI an' sb' z' (f s) (dn.map f) (td.map f) (ex.map f) (f r) = ((uI an sb z s dn td ex r).1.map f, f (uI an sb z s dn td ex r).2) := by
  intro td
  induction td with
  | nil => intro dn ex r _; simp [uI]
  | cons a td ih =>
    intro dn ex r h
    have hA : Ok a := h a (List.mem_cons_self ..)
    have hT : ∀ b ∈ td, Ok b := fun b hb => h b (List.mem_cons_of_mem _ hb)
    rw [List.map_cons]
    unfold uI
    rw [← ha, ← hs, ← hs]
    by_cases q : an a s = z ∨ sb a s = z
    · rw [if_pos q, if_pos (q.imp (hz _ (oa a s hA)).mpr (hz _ (os a s hA)).mpr)]
      have := ih (dn ++ [a]) ex (sb r a) hT
      rw [List.map_append] at this
      exact this
    · rw [if_neg q, if_neg (fun y => q (y.imp (hz _ (oa a s hA)).mp (hz _ (os a s hA)).mp))]
      have := ih (dn ++ [an a s]) (ex ++ [sb a s]) (sb r a) hT
      rw [List.map_append, List.map_append] at this
      exact this
theorem uI_ok (oa : ∀ a b, Ok a → Ok (an a b)) (os : ∀ a b, Ok a → Ok (sb a b)) (s : α) :
    ∀ (td dn ex : List α) (r : α), (∀ a ∈ td, Ok a) → (∀ a ∈ dn, Ok a) → (∀ a ∈ ex, Ok a) → Ok r → (∀ a ∈ (uI an sb z s dn td ex r).1, Ok a) ∧ Ok (uI an sb z s dn td ex r).2 := by
  intro td
  induction td with
  | nil =>
    intro dn ex r _ h2 h3 h4
    unfold uI
    exact ⟨fun a ha => (List.mem_append.mp ha).elim (h2 a) (h3 a), h4⟩
  | cons a td ih =>
    intro dn ex r h h2 h3 h4
    have hA : Ok a := h a (List.mem_cons_self ..)
    have hT : ∀ b ∈ td, Ok b := fun b hb => h b (List.mem_cons_of_mem _ hb)
    unfold uI
    split
    · exact ih _ _ _ hT (fun b hb => (List.mem_append.mp hb).elim (h2 b) (fun q => by rw [List.mem_singleton.mp q]; exact hA)) h3 (os _ _ h4)
    · exact ih _ _ _ hT (fun b hb => (List.mem_append.mp hb).elim (h2 b) (fun q => by rw [List.mem_singleton.mp q]; exact oa _ _ hA)) (fun b hb => (List.mem_append.mp hb).elim (h3 b) (fun q => by rw [List.mem_singleton.mp q]; exact os _ _ hA)) (os _ _ h4)
theorem uP_map (ha : ∀ a b, f (an a b) = an' (f a) (f b)) (hs : ∀ a b, f (sb a b) = sb' (f a) (f b)) (hz : ∀ a, Ok a → (f a = z' ↔ a = z)) (oa : ∀ a b, Ok a → Ok (an a b)) (os : ∀ a b, Ok a → Ok (sb a b)) (s : α) (hS : Ok s) (A : List α) (hA : ∀ a ∈ A, Ok a) :
    uP an' sb' z' (f s) (A.map f) = (uP an sb z s A).map f ∧ ∀ a ∈ uP an sb z s A, Ok a := by
  have e := uI_map (z' := z') (z := z) ha hs hz oa os s A [] [] s hA
  have o := uI_ok (z := z) oa os s A [] [] s hA (fun a q => nomatch q) (fun a q => nomatch q) hS
  rw [List.map_nil] at e
  unfold uP
  rw [e]
  dsimp only
  by_cases q : (uI an sb z s [] A [] s).2 = z
  · rw [if_pos q, if_pos ((hz _ o.2).mpr q)]
    exact ⟨rfl, o.1⟩
  · rw [if_neg q, if_neg (fun y => q ((hz _ o.2).mp y))]
    refine ⟨by rw [List.map_append]; rfl, fun a ha' => (List.mem_append.mp ha').elim (o.1 a) (fun y => by rw [List.mem_singleton.mp y]; exact o.2)⟩
end Sim
-- MASKS
def nS (a b : Nat) : Nat := a ^^^ (a &&& b)
def pc : Nat → Nat → Nat
  | 0, _ => 0
  | n + 1, v => (if v.testBit n then 1 else 0) + pc n v
def init (v : Nat) : List Nat := if v &&& 15 = 0 then [] else if v &&& 240 = 0 then [v &&& 15] else [v &&& 15, v &&& 240]
def mB (v : Nat) : List Nat := uP (· &&& ·) nS 0 (v &&& 1365) (uP (· &&& ·) nS 0 (v &&& 819) (init v))
def isBit (m : Nat) : Bool := (List.range 11).any fun i => m == 2 ^ i
def okM (v : Nat) : Bool := decide (v &&& 15 = 0 ∧ ¬ v &&& 240 = 0) || (decide ((mB v).length = pc 11 v) && ((mB v).all (fun m => isBit m) && (decide ((mB v).foldl (· ||| ·) 0 = v) && (decide (v &&& 15 = 0) || (decide ((mB v).getD 0 0 &&& 15 = (mB v).getD 0 0) && (decide (v &&& 240 = 0) || decide ((mB v).getD 1 0 &&& 240 = (mB v).getD 1 0)))))))
set_option maxRecDepth 65536 in
theorem okM_all : (List.range 2048).all okM = true := by decide +kernel
-- CELLS
def b64 (x : Int64) (k : Nat) : Bool := x.toBitVec.getLsbD k
theorem b64_ext {x y : Int64} (h : ∀ k, k < 64 → b64 x k = b64 y k) : x = y :=
  Int64.toBitVec_inj.mp (BitVec.eq_of_getLsbD_eq (fun k hk => h k hk))
theorem b64_and (x y : Int64) (k : Nat) : b64 (x &&& y) k = (b64 x k && b64 y k) := by simp [b64]
theorem b64_or (x y : Int64) (k : Nat) : b64 (x ||| y) k = (b64 x k || b64 y k) := by simp [b64]
theorem b64_not (x : Int64) (k : Nat) (hk : k < 64) : b64 (x ^^^ (-1)) k = !b64 x k := by
  have e : (-1 : Int64).toBitVec = BitVec.allOnes 64 := by decide
  have e2 : (x ^^^ (-1)).toBitVec = x.toBitVec ^^^ (-1 : Int64).toBitVec := Int64.toBitVec_xor ..
  unfold b64
  rw [e2, e, BitVec.getLsbD_xor, BitVec.getLsbD_allOnes]
  simp [hk]
theorem b64_zero (k : Nat) : b64 0 k = false := by
  have e : (0 : Int64).toBitVec = 0#64 := by decide
  unfold b64; rw [e]; simp
def cel (x0 x1 e1 e2 : Int64) : Nat → Int64
  | 0 => x0 &&& e1 &&& e2
  | 1 => x0 &&& e1 &&& (e2 ^^^ (-1))
  | 2 => x0 &&& (e1 ^^^ (-1)) &&& e2
  | 3 => x0 &&& (e1 ^^^ (-1)) &&& (e2 ^^^ (-1))
  | 4 => x1 &&& e1 &&& e2
  | 5 => x1 &&& e1 &&& (e2 ^^^ (-1))
  | 6 => x1 &&& (e1 ^^^ (-1)) &&& e2
  | 7 => x1 &&& (e1 ^^^ (-1)) &&& (e2 ^^^ (-1))
  | 8 => ((x0 ||| x1) ^^^ (-1)) &&& e1 &&& e2
  | 9 => ((x0 ||| x1) ^^^ (-1)) &&& e1 &&& (e2 ^^^ (-1))
  | 10 => ((x0 ||| x1) ^^^ (-1)) &&& (e1 ^^^ (-1)) &&& e2
  | _ => 0
def ownB (a b c d : Bool) : Nat := if a then (if c then (if d then 0 else 1) else (if d then 2 else 3)) else if b then (if c then (if d then 4 else 5) else (if d then 6 else 7)) else if c then (if d then 8 else 9) else (if d then 10 else 11)
theorem ownB_le (a b c d : Bool) : ownB a b c d ≤ 11 := by cases a <;> cases b <;> cases c <;> cases d <;> decide
def ow (x0 x1 e1 e2 : Int64) (k : Nat) : Nat := ownB (b64 x0 k) (b64 x1 k) (b64 e1 k) (b64 e2 k)
section Cel
variable {x0 x1 e1 e2 : Int64}
theorem disj (hd : x0 &&& x1 = 0) (k : Nat) : (b64 x0 k && b64 x1 k) = false := by rw [← b64_and, hd, b64_zero]
theorem cel_bit (hd : x0 &&& x1 = 0) (i : Nat) (hi : i < 11) (k : Nat) (hk : k < 64) : b64 (cel x0 x1 e1 e2 i) k = decide (ow x0 x1 e1 e2 k = i) := by
  have h := disj hd k
  unfold ow
  match i, hi with
  | 0, _ | 1, _ | 2, _ | 3, _ | 4, _ | 5, _ | 6, _ | 7, _ | 8, _ | 9, _ | 10, _ =>
    simp only [cel, b64_and, b64_or, b64_not _ k hk]
    generalize b64 x0 k = a at *
    generalize b64 x1 k = b at *
    generalize b64 e1 k = c at *
    generalize b64 e2 k = d at *
    revert h
    cases a <;> cases b <;> cases c <;> cases d <;> decide
def ph (c : Nat → Int64) : Nat → Nat → Int64
  | 0, _ => 0
  | n + 1, m => (if m.testBit n then c n else 0) ||| ph c n m
theorem ph_bit (hd : x0 &&& x1 = 0) (m k : Nat) (hk : k < 64) : ∀ n, n ≤ 11 → b64 (ph (cel x0 x1 e1 e2) n m) k = (decide (ow x0 x1 e1 e2 k < n) && m.testBit (ow x0 x1 e1 e2 k)) := by
  intro n
  induction n with
  | zero => intro _; simp [ph, b64_zero]
  | succ n ih =>
    intro hn
    unfold ph
    rw [b64_or, ih (by omega)]
    have hc := cel_bit (e1 := e1) (e2 := e2) hd n (by omega) k hk
    generalize ow x0 x1 e1 e2 k = w at *
    by_cases q : m.testBit n
    · rw [if_pos q, hc]
      by_cases g : w = n
      · subst g; simp [q]
      · rw [decide_eq_false g]
        have : decide (w < n + 1) = decide (w < n) := decide_eq_decide.mpr (by omega)
        rw [this]; simp
    · rw [if_neg q, b64_zero]
      by_cases g : w = n
      · subst g; simp [q]
      · have : decide (w < n + 1) = decide (w < n) := decide_eq_decide.mpr (by omega)
        rw [this]; simp
abbrev fi (x0 x1 e1 e2 : Int64) (m : Nat) : Int64 := ph (cel x0 x1 e1 e2) 11 m
theorem fi_and (hd : x0 &&& x1 = 0) (a b : Nat) : fi x0 x1 e1 e2 (a &&& b) = fi x0 x1 e1 e2 a &&& fi x0 x1 e1 e2 b := by
  apply b64_ext
  intro k hk
  rw [b64_and, ph_bit hd _ _ hk 11 (Nat.le_refl _), ph_bit hd _ _ hk 11 (Nat.le_refl _), ph_bit hd _ _ hk 11 (Nat.le_refl _), Nat.testBit_and]
  cases decide (ow x0 x1 e1 e2 k < 11) <;> simp
theorem fi_or (hd : x0 &&& x1 = 0) (a b : Nat) : fi x0 x1 e1 e2 (a ||| b) = fi x0 x1 e1 e2 a ||| fi x0 x1 e1 e2 b := by
  apply b64_ext
  intro k hk
  rw [b64_or, ph_bit hd _ _ hk 11 (Nat.le_refl _), ph_bit hd _ _ hk 11 (Nat.le_refl _), ph_bit hd _ _ hk 11 (Nat.le_refl _), Nat.testBit_or]
  cases decide (ow x0 x1 e1 e2 k < 11) <;> simp
theorem fi_nS (hd : x0 &&& x1 = 0) (a b : Nat) : fi x0 x1 e1 e2 (nS a b) = fi x0 x1 e1 e2 a &&& (fi x0 x1 e1 e2 b ^^^ (-1)) := by
  apply b64_ext
  intro k hk
  unfold nS
  rw [b64_and, b64_not _ _ hk, ph_bit hd _ _ hk 11 (Nat.le_refl _), ph_bit hd _ _ hk 11 (Nat.le_refl _), ph_bit hd _ _ hk 11 (Nat.le_refl _), Nat.testBit_xor, Nat.testBit_and]
  cases decide (ow x0 x1 e1 e2 k < 11) <;> cases a.testBit (ow x0 x1 e1 e2 k) <;> cases b.testBit (ow x0 x1 e1 e2 k) <;> simp
theorem fi_const (hd : x0 &&& x1 = 0) (m : Nat) (y : Int64) (g : Bool → Bool → Bool → Bool → Bool) (hg : ∀ a b c d, (a && b) = false → (decide (ownB a b c d < 11) && m.testBit (ownB a b c d)) = g a b c d) (hy : ∀ k, k < 64 → b64 y k = g (b64 x0 k) (b64 x1 k) (b64 e1 k) (b64 e2 k)) : fi x0 x1 e1 e2 m = y := by
  apply b64_ext
  intro k hk
  rw [ph_bit hd _ _ hk 11 (Nat.le_refl _), hy k hk]
  exact hg _ _ _ _ (disj hd k)
theorem fi_15 (hd : x0 &&& x1 = 0) : fi x0 x1 e1 e2 15 = x0 := fi_const hd 15 x0 (fun a _ _ _ => a) (by decide) (fun _ _ => rfl)
theorem fi_240 (hd : x0 &&& x1 = 0) : fi x0 x1 e1 e2 240 = x1 := fi_const hd 240 x1 (fun _ b _ _ => b) (by decide) (fun _ _ => rfl)
theorem fi_819 (hd : x0 &&& x1 = 0) : fi x0 x1 e1 e2 819 = e1 := fi_const hd 819 e1 (fun _ _ c _ => c) (by decide) (fun _ _ => rfl)
theorem fi_1365 (hd : x0 &&& x1 = 0) : fi x0 x1 e1 e2 1365 = e2 := fi_const hd 1365 e2 (fun _ _ _ d => d) (by decide) (fun _ _ => rfl)
theorem fi_all (hd : x0 &&& x1 = 0) : fi x0 x1 e1 e2 2047 = x0 ||| x1 ||| e1 ||| e2 := fi_const hd 2047 _ (fun a b c d => a || b || c || d) (by decide) (fun k _ => by rw [b64_or, b64_or, b64_or])
-- the mask of the cells that are not empty
def vv (f : Nat → Bool) : Nat → Nat
  | 0 => 0
  | n + 1 => (if f n then 2 ^ n else 0) ||| vv f n
theorem vv_bit (f : Nat → Bool) (i : Nat) : ∀ n, (vv f n).testBit i = (decide (i < n) && f i) := by
  intro n
  induction n with
  | zero => simp [vv]
  | succ n ih =>
    unfold vv
    rw [Nat.testBit_or, ih]
    by_cases q : f n
    · rw [if_pos q, Nat.testBit_two_pow]
      by_cases g : n = i
      · subst g; simp [q]
      · rw [decide_eq_false g]
        have : decide (i < n + 1) = decide (i < n) := decide_eq_decide.mpr (by omega)
        rw [this]; simp
    · rw [if_neg q]
      by_cases g : n = i
      · subst g; simp [q]
      · have : decide (i < n + 1) = decide (i < n) := decide_eq_decide.mpr (by omega)
        rw [this]; simp
theorem vv_lt (f : Nat → Bool) : ∀ n, vv f n < 2 ^ n := by
  intro n
  induction n with
  | zero => simp [vv]
  | succ n ih =>
    unfold vv
    have h1 : (2 : Nat) ^ n < 2 ^ (n + 1) := Nat.pow_lt_pow_right (by decide) (by omega)
    apply Nat.or_lt_two_pow
    · split
      · exact h1
      · exact Nat.pos_of_ne_zero (by simp)
    · omega
def V (x0 x1 e1 e2 : Int64) : Nat := vv (fun i => !decide (cel x0 x1 e1 e2 i = 0)) 11
theorem V_bit (i : Nat) (hi : i < 11) : (V x0 x1 e1 e2).testBit i = !decide (cel x0 x1 e1 e2 i = 0) := by
  unfold V; rw [vv_bit]; simp [hi]
theorem V_lt : V x0 x1 e1 e2 < 2048 := vv_lt _ 11
def OkM (v m : Nat) : Prop := m &&& v = m ∧ m < 2048
theorem or0 {x y : Int64} (h : x ||| y = 0) : x = 0 ∧ y = 0 := by
  refine ⟨b64_ext fun k hk => ?_, b64_ext fun k hk => ?_⟩ <;>
  · have := congrArg (fun z => b64 z k) h
    simp only [b64_or, b64_zero] at this ⊢
    revert this
    cases b64 x k <;> cases b64 y k <;> simp
theorem ph_z (c : Nat → Int64) (m : Nat) : ∀ n, ph c n m = 0 → ∀ i, i < n → m.testBit i = true → c i = 0 := by
  intro n
  induction n with
  | zero => intro _ i hi; omega
  | succ n ih =>
    intro h i hi hm
    unfold ph at h
    obtain ⟨h1, h2⟩ := or0 h
    by_cases g : i = n
    · subst g; rw [if_pos hm] at h1; exact h1
    · exact ih h2 i (by omega) hm
theorem fi_0 (hd : x0 &&& x1 = 0) : fi x0 x1 e1 e2 0 = 0 := fi_const hd 0 0 (fun _ _ _ _ => false) (by simp) (fun k _ => b64_zero k)
theorem fi_z (hd : x0 &&& x1 = 0) (m : Nat) (ok : OkM (V x0 x1 e1 e2) m) : fi x0 x1 e1 e2 m = 0 ↔ m = 0 := by
  refine ⟨fun h => ?_, fun h => by rw [h]; exact fi_0 hd⟩
  apply Nat.eq_of_testBit_eq
  intro i
  rw [Nat.zero_testBit]
  by_cases hi : i < 11
  · cases hm : m.testBit i with
    | false => rfl
    | true =>
      have hc := ph_z _ _ 11 h i hi hm
      have hv := congrArg (fun z => Nat.testBit z i) ok.1
      simp only [Nat.testBit_and, hm, V_bit i hi, hc] at hv
      simp at hv
  · exact Nat.testBit_lt_two_pow (Nat.lt_of_lt_of_le ok.2 (Nat.pow_le_pow_right (n := 2) (by decide) (show 11 ≤ i by omega)))
theorem fi_V (hd : x0 &&& x1 = 0) (m : Nat) : fi x0 x1 e1 e2 (V x0 x1 e1 e2 &&& m) = fi x0 x1 e1 e2 m := by
  apply b64_ext
  intro k hk
  rw [ph_bit hd _ _ hk 11 (Nat.le_refl _), ph_bit hd _ _ hk 11 (Nat.le_refl _), Nat.testBit_and]
  by_cases g : ow x0 x1 e1 e2 k < 11
  · have hc := cel_bit (e1 := e1) (e2 := e2) hd _ g k hk
    rw [decide_eq_true rfl] at hc
    have : (V x0 x1 e1 e2).testBit (ow x0 x1 e1 e2 k) = true := by
      rw [V_bit _ g]
      cases q : decide (cel x0 x1 e1 e2 (ow x0 x1 e1 e2 k) = 0) with
      | false => rfl
      | true =>
        rw [of_decide_eq_true q, b64_zero] at hc
        exact absurd hc (by decide)
    rw [this]; simp
  · rw [decide_eq_false g]; simp
theorem ok_V (m : Nat) : OkM (V x0 x1 e1 e2) (V x0 x1 e1 e2 &&& m) := by
  refine ⟨?_, Nat.lt_of_le_of_lt Nat.and_le_left V_lt⟩
  apply Nat.eq_of_testBit_eq
  intro i
  simp only [Nat.testBit_and]
  cases (V x0 x1 e1 e2).testBit i <;> cases m.testBit i <;> rfl
theorem ok_and {v : Nat} (a b : Nat) (h : OkM v a) : OkM v (a &&& b) := by
  refine ⟨?_, Nat.lt_of_le_of_lt Nat.and_le_left h.2⟩
  rw [Nat.and_assoc, Nat.and_comm b v, ← Nat.and_assoc, h.1]
theorem ok_nS {v : Nat} (a b : Nat) (h : OkM v a) : OkM v (nS a b) := by
  have e : nS a b &&& a = nS a b := by
    apply Nat.eq_of_testBit_eq
    intro i
    simp only [nS, Nat.testBit_and, Nat.testBit_xor]
    cases a.testBit i <;> cases b.testBit i <;> rfl
  refine ⟨?_, ?_⟩
  · rw [← e, Nat.and_assoc, h.1]
  · rw [← e]; exact Nat.lt_of_le_of_lt Nat.and_le_right h.2
end Cel
-- WHAT split ANSWERS
abbrev lA (a b : Int64) : Int64 := a &&& b
abbrev lS (a b : Int64) : Int64 := a &&& (b ^^^ (-1))
def gO (t x0 x1 : Int64) : Int64 := if t &&& x0 = 0 then (if t &&& x1 = 0 then (x0 ||| x1) ^^^ (-1) else x1) else x0
def gC (t e : Int64) : Int64 := if t &&& e = 0 then e ^^^ (-1) else e
def GoodT (t x0 x1 e1 e2 : Int64) : Prop := ¬ t = 0 ∧ t = gO t x0 x1 &&& gC t e1 &&& gC t e2
def nzF (v : Int64) : Int32 := if v = 0 then 0 else 1
def ceF (o e1 e2 : Int64) : Int32 := nzF (o &&& e1 &&& e2) + nzF (o &&& e1 &&& (e2 ^^^ (-1))) + nzF (o &&& (e1 ^^^ (-1)) &&& e2) + nzF (o &&& (e1 ^^^ (-1)) &&& (e2 ^^^ (-1)))
def ini (x0 x1 : Int64) : List Int64 := if x0 = 0 then [] else if x1 = 0 then [x0] else [x0, x1]
def uu (x0 x1 e1 e2 : Int64) : List Int64 := uP lA lS 0 e2 (uP lA lS 0 e1 (ini x0 x1))
section Fin
variable {x0 x1 e1 e2 : Int64}
theorem cel_and (hd : x0 &&& x1 = 0) (i : Nat) (hi : i < 11) (y : Int64) (g : Bool → Bool → Bool → Bool → Bool) (r : Bool) (hg : ∀ a b c d, (a && b) = false → ownB a b c d = i → g a b c d = r) (hy : ∀ k, k < 64 → b64 y k = g (b64 x0 k) (b64 x1 k) (b64 e1 k) (b64 e2 k)) : cel x0 x1 e1 e2 i &&& y = if r then cel x0 x1 e1 e2 i else 0 := by
  apply b64_ext
  intro k hk
  rw [b64_and, cel_bit hd i hi k hk, hy k hk]
  have hq := hg _ _ (b64 e1 k) (b64 e2 k) (disj hd k)
  by_cases q : ow x0 x1 e1 e2 k = i
  · rw [hq q, decide_eq_true q]
    cases r
    · rw [if_neg (by decide), b64_zero]; rfl
    · rw [if_pos rfl, cel_bit hd i hi k hk, decide_eq_true q]; rfl
  · rw [decide_eq_false q]
    cases r
    · rw [if_neg (by decide), b64_zero]; rfl
    · rw [if_pos rfl, cel_bit hd i hi k hk, decide_eq_false q]; rfl
theorem gO_0 {t : Int64} (h : ¬ t &&& x0 = 0) : gO t x0 x1 = x0 := if_neg h
theorem gO_1 {t : Int64} (h : t &&& x0 = 0) (h' : ¬ t &&& x1 = 0) : gO t x0 x1 = x1 := (if_pos h).trans (if_neg h')
theorem gO_2 {t : Int64} (h : t &&& x0 = 0) (h' : t &&& x1 = 0) : gO t x0 x1 = (x0 ||| x1) ^^^ (-1) := (if_pos h).trans (if_pos h')
theorem gC_0 {t e : Int64} (h : ¬ t &&& e = 0) : gC t e = e := if_neg h
theorem gC_1 {t e : Int64} (h : t &&& e = 0) : gC t e = e ^^^ (-1) := if_pos h
theorem good_0 (hd : x0 &&& x1 = 0) (hn : ¬ cel x0 x1 e1 e2 0 = 0) : GoodT (cel x0 x1 e1 e2 0) x0 x1 e1 e2 := by
  have h0 := cel_and (e1 := e1) (e2 := e2) hd 0 (by decide) x0 (fun a _ _ _ => a) true (by decide) (fun _ _ => rfl)
  rw [if_pos rfl] at h0
  have h0n : ¬ cel x0 x1 e1 e2 0 &&& x0 = 0 := by rw [h0]; exact hn
  have h2 := cel_and (e1 := e1) (e2 := e2) hd 0 (by decide) e1 (fun _ _ c _ => c) true (by decide) (fun _ _ => rfl)
  rw [if_pos rfl] at h2
  have h2n : ¬ cel x0 x1 e1 e2 0 &&& e1 = 0 := by rw [h2]; exact hn
  have h3 := cel_and (e1 := e1) (e2 := e2) hd 0 (by decide) e2 (fun _ _ _ d => d) true (by decide) (fun _ _ => rfl)
  rw [if_pos rfl] at h3
  have h3n : ¬ cel x0 x1 e1 e2 0 &&& e2 = 0 := by rw [h3]; exact hn
  refine ⟨hn, ?_⟩
  rw [gO_0 h0n, gC_0 h2n, gC_0 h3n]
  rfl
theorem good_1 (hd : x0 &&& x1 = 0) (hn : ¬ cel x0 x1 e1 e2 1 = 0) : GoodT (cel x0 x1 e1 e2 1) x0 x1 e1 e2 := by
  have h0 := cel_and (e1 := e1) (e2 := e2) hd 1 (by decide) x0 (fun a _ _ _ => a) true (by decide) (fun _ _ => rfl)
  rw [if_pos rfl] at h0
  have h0n : ¬ cel x0 x1 e1 e2 1 &&& x0 = 0 := by rw [h0]; exact hn
  have h2 := cel_and (e1 := e1) (e2 := e2) hd 1 (by decide) e1 (fun _ _ c _ => c) true (by decide) (fun _ _ => rfl)
  rw [if_pos rfl] at h2
  have h2n : ¬ cel x0 x1 e1 e2 1 &&& e1 = 0 := by rw [h2]; exact hn
  have h3 := cel_and (e1 := e1) (e2 := e2) hd 1 (by decide) e2 (fun _ _ _ d => d) false (by decide) (fun _ _ => rfl)
  rw [if_neg (by decide)] at h3
  refine ⟨hn, ?_⟩
  rw [gO_0 h0n, gC_0 h2n, gC_1 h3]
  rfl
theorem good_2 (hd : x0 &&& x1 = 0) (hn : ¬ cel x0 x1 e1 e2 2 = 0) : GoodT (cel x0 x1 e1 e2 2) x0 x1 e1 e2 := by
  have h0 := cel_and (e1 := e1) (e2 := e2) hd 2 (by decide) x0 (fun a _ _ _ => a) true (by decide) (fun _ _ => rfl)
  rw [if_pos rfl] at h0
  have h0n : ¬ cel x0 x1 e1 e2 2 &&& x0 = 0 := by rw [h0]; exact hn
  have h2 := cel_and (e1 := e1) (e2 := e2) hd 2 (by decide) e1 (fun _ _ c _ => c) false (by decide) (fun _ _ => rfl)
  rw [if_neg (by decide)] at h2
  have h3 := cel_and (e1 := e1) (e2 := e2) hd 2 (by decide) e2 (fun _ _ _ d => d) true (by decide) (fun _ _ => rfl)
  rw [if_pos rfl] at h3
  have h3n : ¬ cel x0 x1 e1 e2 2 &&& e2 = 0 := by rw [h3]; exact hn
  refine ⟨hn, ?_⟩
  rw [gO_0 h0n, gC_1 h2, gC_0 h3n]
  rfl
theorem good_3 (hd : x0 &&& x1 = 0) (hn : ¬ cel x0 x1 e1 e2 3 = 0) : GoodT (cel x0 x1 e1 e2 3) x0 x1 e1 e2 := by
  have h0 := cel_and (e1 := e1) (e2 := e2) hd 3 (by decide) x0 (fun a _ _ _ => a) true (by decide) (fun _ _ => rfl)
  rw [if_pos rfl] at h0
  have h0n : ¬ cel x0 x1 e1 e2 3 &&& x0 = 0 := by rw [h0]; exact hn
  have h2 := cel_and (e1 := e1) (e2 := e2) hd 3 (by decide) e1 (fun _ _ c _ => c) false (by decide) (fun _ _ => rfl)
  rw [if_neg (by decide)] at h2
  have h3 := cel_and (e1 := e1) (e2 := e2) hd 3 (by decide) e2 (fun _ _ _ d => d) false (by decide) (fun _ _ => rfl)
  rw [if_neg (by decide)] at h3
  refine ⟨hn, ?_⟩
  rw [gO_0 h0n, gC_1 h2, gC_1 h3]
  rfl
theorem good_4 (hd : x0 &&& x1 = 0) (hn : ¬ cel x0 x1 e1 e2 4 = 0) : GoodT (cel x0 x1 e1 e2 4) x0 x1 e1 e2 := by
  have h0 := cel_and (e1 := e1) (e2 := e2) hd 4 (by decide) x0 (fun a _ _ _ => a) false (by decide) (fun _ _ => rfl)
  rw [if_neg (by decide)] at h0
  have h1 := cel_and (e1 := e1) (e2 := e2) hd 4 (by decide) x1 (fun _ b _ _ => b) true (by decide) (fun _ _ => rfl)
  rw [if_pos rfl] at h1
  have h1n : ¬ cel x0 x1 e1 e2 4 &&& x1 = 0 := by rw [h1]; exact hn
  have h2 := cel_and (e1 := e1) (e2 := e2) hd 4 (by decide) e1 (fun _ _ c _ => c) true (by decide) (fun _ _ => rfl)
  rw [if_pos rfl] at h2
  have h2n : ¬ cel x0 x1 e1 e2 4 &&& e1 = 0 := by rw [h2]; exact hn
  have h3 := cel_and (e1 := e1) (e2 := e2) hd 4 (by decide) e2 (fun _ _ _ d => d) true (by decide) (fun _ _ => rfl)
  rw [if_pos rfl] at h3
  have h3n : ¬ cel x0 x1 e1 e2 4 &&& e2 = 0 := by rw [h3]; exact hn
  refine ⟨hn, ?_⟩
  rw [gO_1 h0 h1n, gC_0 h2n, gC_0 h3n]
  rfl
theorem good_5 (hd : x0 &&& x1 = 0) (hn : ¬ cel x0 x1 e1 e2 5 = 0) : GoodT (cel x0 x1 e1 e2 5) x0 x1 e1 e2 := by
  have h0 := cel_and (e1 := e1) (e2 := e2) hd 5 (by decide) x0 (fun a _ _ _ => a) false (by decide) (fun _ _ => rfl)
  rw [if_neg (by decide)] at h0
  have h1 := cel_and (e1 := e1) (e2 := e2) hd 5 (by decide) x1 (fun _ b _ _ => b) true (by decide) (fun _ _ => rfl)
  rw [if_pos rfl] at h1
  have h1n : ¬ cel x0 x1 e1 e2 5 &&& x1 = 0 := by rw [h1]; exact hn
  have h2 := cel_and (e1 := e1) (e2 := e2) hd 5 (by decide) e1 (fun _ _ c _ => c) true (by decide) (fun _ _ => rfl)
  rw [if_pos rfl] at h2
  have h2n : ¬ cel x0 x1 e1 e2 5 &&& e1 = 0 := by rw [h2]; exact hn
  have h3 := cel_and (e1 := e1) (e2 := e2) hd 5 (by decide) e2 (fun _ _ _ d => d) false (by decide) (fun _ _ => rfl)
  rw [if_neg (by decide)] at h3
  refine ⟨hn, ?_⟩
  rw [gO_1 h0 h1n, gC_0 h2n, gC_1 h3]
  rfl
theorem good_6 (hd : x0 &&& x1 = 0) (hn : ¬ cel x0 x1 e1 e2 6 = 0) : GoodT (cel x0 x1 e1 e2 6) x0 x1 e1 e2 := by
  have h0 := cel_and (e1 := e1) (e2 := e2) hd 6 (by decide) x0 (fun a _ _ _ => a) false (by decide) (fun _ _ => rfl)
  rw [if_neg (by decide)] at h0
  have h1 := cel_and (e1 := e1) (e2 := e2) hd 6 (by decide) x1 (fun _ b _ _ => b) true (by decide) (fun _ _ => rfl)
  rw [if_pos rfl] at h1
  have h1n : ¬ cel x0 x1 e1 e2 6 &&& x1 = 0 := by rw [h1]; exact hn
  have h2 := cel_and (e1 := e1) (e2 := e2) hd 6 (by decide) e1 (fun _ _ c _ => c) false (by decide) (fun _ _ => rfl)
  rw [if_neg (by decide)] at h2
  have h3 := cel_and (e1 := e1) (e2 := e2) hd 6 (by decide) e2 (fun _ _ _ d => d) true (by decide) (fun _ _ => rfl)
  rw [if_pos rfl] at h3
  have h3n : ¬ cel x0 x1 e1 e2 6 &&& e2 = 0 := by rw [h3]; exact hn
  refine ⟨hn, ?_⟩
  rw [gO_1 h0 h1n, gC_1 h2, gC_0 h3n]
  rfl
theorem good_7 (hd : x0 &&& x1 = 0) (hn : ¬ cel x0 x1 e1 e2 7 = 0) : GoodT (cel x0 x1 e1 e2 7) x0 x1 e1 e2 := by
  have h0 := cel_and (e1 := e1) (e2 := e2) hd 7 (by decide) x0 (fun a _ _ _ => a) false (by decide) (fun _ _ => rfl)
  rw [if_neg (by decide)] at h0
  have h1 := cel_and (e1 := e1) (e2 := e2) hd 7 (by decide) x1 (fun _ b _ _ => b) true (by decide) (fun _ _ => rfl)
  rw [if_pos rfl] at h1
  have h1n : ¬ cel x0 x1 e1 e2 7 &&& x1 = 0 := by rw [h1]; exact hn
  have h2 := cel_and (e1 := e1) (e2 := e2) hd 7 (by decide) e1 (fun _ _ c _ => c) false (by decide) (fun _ _ => rfl)
  rw [if_neg (by decide)] at h2
  have h3 := cel_and (e1 := e1) (e2 := e2) hd 7 (by decide) e2 (fun _ _ _ d => d) false (by decide) (fun _ _ => rfl)
  rw [if_neg (by decide)] at h3
  refine ⟨hn, ?_⟩
  rw [gO_1 h0 h1n, gC_1 h2, gC_1 h3]
  rfl
theorem good_8 (hd : x0 &&& x1 = 0) (hn : ¬ cel x0 x1 e1 e2 8 = 0) : GoodT (cel x0 x1 e1 e2 8) x0 x1 e1 e2 := by
  have h0 := cel_and (e1 := e1) (e2 := e2) hd 8 (by decide) x0 (fun a _ _ _ => a) false (by decide) (fun _ _ => rfl)
  rw [if_neg (by decide)] at h0
  have h1 := cel_and (e1 := e1) (e2 := e2) hd 8 (by decide) x1 (fun _ b _ _ => b) false (by decide) (fun _ _ => rfl)
  rw [if_neg (by decide)] at h1
  have h2 := cel_and (e1 := e1) (e2 := e2) hd 8 (by decide) e1 (fun _ _ c _ => c) true (by decide) (fun _ _ => rfl)
  rw [if_pos rfl] at h2
  have h2n : ¬ cel x0 x1 e1 e2 8 &&& e1 = 0 := by rw [h2]; exact hn
  have h3 := cel_and (e1 := e1) (e2 := e2) hd 8 (by decide) e2 (fun _ _ _ d => d) true (by decide) (fun _ _ => rfl)
  rw [if_pos rfl] at h3
  have h3n : ¬ cel x0 x1 e1 e2 8 &&& e2 = 0 := by rw [h3]; exact hn
  refine ⟨hn, ?_⟩
  rw [gO_2 h0 h1, gC_0 h2n, gC_0 h3n]
  rfl
theorem good_9 (hd : x0 &&& x1 = 0) (hn : ¬ cel x0 x1 e1 e2 9 = 0) : GoodT (cel x0 x1 e1 e2 9) x0 x1 e1 e2 := by
  have h0 := cel_and (e1 := e1) (e2 := e2) hd 9 (by decide) x0 (fun a _ _ _ => a) false (by decide) (fun _ _ => rfl)
  rw [if_neg (by decide)] at h0
  have h1 := cel_and (e1 := e1) (e2 := e2) hd 9 (by decide) x1 (fun _ b _ _ => b) false (by decide) (fun _ _ => rfl)
  rw [if_neg (by decide)] at h1
  have h2 := cel_and (e1 := e1) (e2 := e2) hd 9 (by decide) e1 (fun _ _ c _ => c) true (by decide) (fun _ _ => rfl)
  rw [if_pos rfl] at h2
  have h2n : ¬ cel x0 x1 e1 e2 9 &&& e1 = 0 := by rw [h2]; exact hn
  have h3 := cel_and (e1 := e1) (e2 := e2) hd 9 (by decide) e2 (fun _ _ _ d => d) false (by decide) (fun _ _ => rfl)
  rw [if_neg (by decide)] at h3
  refine ⟨hn, ?_⟩
  rw [gO_2 h0 h1, gC_0 h2n, gC_1 h3]
  rfl
theorem good_10 (hd : x0 &&& x1 = 0) (hn : ¬ cel x0 x1 e1 e2 10 = 0) : GoodT (cel x0 x1 e1 e2 10) x0 x1 e1 e2 := by
  have h0 := cel_and (e1 := e1) (e2 := e2) hd 10 (by decide) x0 (fun a _ _ _ => a) false (by decide) (fun _ _ => rfl)
  rw [if_neg (by decide)] at h0
  have h1 := cel_and (e1 := e1) (e2 := e2) hd 10 (by decide) x1 (fun _ b _ _ => b) false (by decide) (fun _ _ => rfl)
  rw [if_neg (by decide)] at h1
  have h2 := cel_and (e1 := e1) (e2 := e2) hd 10 (by decide) e1 (fun _ _ c _ => c) false (by decide) (fun _ _ => rfl)
  rw [if_neg (by decide)] at h2
  have h3 := cel_and (e1 := e1) (e2 := e2) hd 10 (by decide) e2 (fun _ _ _ d => d) true (by decide) (fun _ _ => rfl)
  rw [if_pos rfl] at h3
  have h3n : ¬ cel x0 x1 e1 e2 10 &&& e2 = 0 := by rw [h3]; exact hn
  refine ⟨hn, ?_⟩
  rw [gO_2 h0 h1, gC_1 h2, gC_0 h3n]
  rfl
theorem good_cel (hd : x0 &&& x1 = 0) (i : Nat) (hi : i < 11) (hn : ¬ cel x0 x1 e1 e2 i = 0) : GoodT (cel x0 x1 e1 e2 i) x0 x1 e1 e2 := by
  match i, hi with
  | 0, _ => exact good_0 hd hn
  | 1, _ => exact good_1 hd hn
  | 2, _ => exact good_2 hd hn
  | 3, _ => exact good_3 hd hn
  | 4, _ => exact good_4 hd hn
  | 5, _ => exact good_5 hd hn
  | 6, _ => exact good_6 hd hn
  | 7, _ => exact good_7 hd hn
  | 8, _ => exact good_8 hd hn
  | 9, _ => exact good_9 hd hn
  | 10, _ => exact good_10 hd hn
theorem fi_pow (hd : x0 &&& x1 = 0) (i : Nat) (hi : i < 11) : fi x0 x1 e1 e2 (2 ^ i) = cel x0 x1 e1 e2 i := by
  apply b64_ext
  intro k hk
  rw [ph_bit hd _ _ hk 11 (Nat.le_refl _), cel_bit hd i hi k hk, Nat.testBit_two_pow]
  generalize ow x0 x1 e1 e2 k = w
  by_cases q : i = w
  · subst q; simp [hi]
  · have q2 : ¬ w = i := fun z => q z.symm
    rw [decide_eq_false q, decide_eq_false q2]; simp
theorem fi_15V (hd : x0 &&& x1 = 0) : fi x0 x1 e1 e2 (V x0 x1 e1 e2 &&& 15) = x0 := (fi_V hd _).trans (fi_15 hd)
theorem fi_240V (hd : x0 &&& x1 = 0) : fi x0 x1 e1 e2 (V x0 x1 e1 e2 &&& 240) = x1 := (fi_V hd _).trans (fi_240 hd)
theorem z15 (hd : x0 &&& x1 = 0) : V x0 x1 e1 e2 &&& 15 = 0 ↔ x0 = 0 := by
  rw [← fi_z hd _ (ok_V 15), fi_15V hd]
theorem z240 (hd : x0 &&& x1 = 0) : V x0 x1 e1 e2 &&& 240 = 0 ↔ x1 = 0 := by
  rw [← fi_z hd _ (ok_V 240), fi_240V hd]
theorem init_map (hd : x0 &&& x1 = 0) : (init (V x0 x1 e1 e2)).map (fi x0 x1 e1 e2) = ini x0 x1 ∧ ∀ m ∈ init (V x0 x1 e1 e2), OkM (V x0 x1 e1 e2) m := by
  unfold init ini
  by_cases q : x0 = 0
  · rw [if_pos q, if_pos ((z15 hd).mpr q)]
    exact ⟨rfl, fun m hm => nomatch hm⟩
  · rw [if_neg q, if_neg (fun z => q ((z15 hd).mp z))]
    by_cases g : x1 = 0
    · rw [if_pos g, if_pos ((z240 hd).mpr g)]
      refine ⟨by rw [List.map_cons, fi_15V hd]; rfl, fun m hm => ?_⟩
      rw [List.mem_singleton.mp hm]; exact ok_V _
    · rw [if_neg g, if_neg (fun z => g ((z240 hd).mp z))]
      refine ⟨by rw [List.map_cons, List.map_cons, fi_15V hd, fi_240V hd]; rfl, fun m hm => ?_⟩
      rcases List.mem_cons.mp hm with rfl | hm
      · exact ok_V _
      · rw [List.mem_singleton.mp hm]; exact ok_V _
theorem uu_map (hd : x0 &&& x1 = 0) : uu x0 x1 e1 e2 = (mB (V x0 x1 e1 e2)).map (fi x0 x1 e1 e2) ∧ ∀ m ∈ mB (V x0 x1 e1 e2), OkM (V x0 x1 e1 e2) m := by
  obtain ⟨a1, a2⟩ := init_map (e1 := e1) (e2 := e2) hd
  obtain ⟨b1, b2⟩ := uP_map (an' := lA) (sb' := lS) (z' := 0) (an := (· &&& ·)) (sb := nS) (z := 0) (f := fi x0 x1 e1 e2) (Ok := OkM (V x0 x1 e1 e2)) (fi_and hd) (fi_nS hd) (fi_z hd) ok_and ok_nS (V x0 x1 e1 e2 &&& 819) (ok_V _) _ a2
  obtain ⟨c1, c2⟩ := uP_map (an' := lA) (sb' := lS) (z' := 0) (an := (· &&& ·)) (sb := nS) (z := 0) (f := fi x0 x1 e1 e2) (Ok := OkM (V x0 x1 e1 e2)) (fi_and hd) (fi_nS hd) (fi_z hd) ok_and ok_nS (V x0 x1 e1 e2 &&& 1365) (ok_V _) _ b2
  refine ⟨?_, c2⟩
  unfold uu mB
  rw [← c1, ← b1, a1, fi_V hd, fi_V hd, fi_819 hd, fi_1365 hd]
theorem okV (hd : x0 &&& x1 = 0) (hx : x0 = 0 → x1 = 0) : (mB (V x0 x1 e1 e2)).length = pc 11 (V x0 x1 e1 e2) ∧ (∀ m ∈ mB (V x0 x1 e1 e2), ∃ i, i < 11 ∧ m = 2 ^ i) ∧ (mB (V x0 x1 e1 e2)).foldl (· ||| ·) 0 = V x0 x1 e1 e2 ∧ (x0 = 0 ∨ ((mB (V x0 x1 e1 e2)).getD 0 0 &&& 15 = (mB (V x0 x1 e1 e2)).getD 0 0 ∧ (x1 = 0 ∨ (mB (V x0 x1 e1 e2)).getD 1 0 &&& 240 = (mB (V x0 x1 e1 e2)).getD 1 0))) := by
  have h := List.all_eq_true.mp okM_all _ (List.mem_range.mpr (V_lt (x0 := x0) (x1 := x1) (e1 := e1) (e2 := e2)))
  unfold okM at h
  simp only [Bool.or_eq_true, Bool.and_eq_true, decide_eq_true_eq, List.all_eq_true] at h
  rw [z15 hd, z240 hd] at h
  rcases h with h | ⟨h1, h2, h3, h4⟩
  · exact absurd (hx h.1) h.2
  · refine ⟨h1, fun m hm => ?_, h3, h4⟩
    have := h2 m hm
    unfold isBit at this
    obtain ⟨i, hi, e⟩ := List.any_eq_true.mp this
    exact ⟨i, List.mem_range.mp hi, eq_of_beq e⟩
theorem pc_le (v : Nat) : ∀ n, pc n v ≤ n := by
  intro n
  induction n with
  | zero => exact Nat.le_refl _
  | succ n ih =>
    unfold pc
    split <;> omega
theorem uu_len (hd : x0 &&& x1 = 0) (hx : x0 = 0 → x1 = 0) : (uu x0 x1 e1 e2).length = pc 11 (V x0 x1 e1 e2) := by
  rw [(uu_map hd).1, List.length_map]
  exact (okV hd hx).1
theorem uu_11 (hd : x0 &&& x1 = 0) (hx : x0 = 0 → x1 = 0) : (uu x0 x1 e1 e2).length ≤ 11 := by
  rw [uu_len hd hx]; exact pc_le _ 11
theorem uu_good (hd : x0 &&& x1 = 0) (hx : x0 = 0 → x1 = 0) (t : Int64) (ht : t ∈ uu x0 x1 e1 e2) : GoodT t x0 x1 e1 e2 := by
  obtain ⟨e, ok⟩ := uu_map (e1 := e1) (e2 := e2) hd
  rw [e] at ht
  obtain ⟨m, hm, rfl⟩ := List.mem_map.mp ht
  obtain ⟨i, hi, em⟩ := (okV hd hx).2.1 m hm
  have hz := fi_z hd m (ok m hm)
  have hn : ¬ m = 0 := by rw [em]; exact Nat.ne_of_gt (Nat.pow_pos (by decide))
  have hn2 : ¬ fi x0 x1 e1 e2 m = 0 := fun z => hn (hz.mp z)
  rw [em, fi_pow hd i hi] at hn2 ⊢
  exact good_cel hd i hi hn2
theorem fold_map (hd : x0 &&& x1 = 0) : ∀ (L : List Nat) (a : Nat), (L.map (fi x0 x1 e1 e2)).foldl (· ||| ·) (fi x0 x1 e1 e2 a) = fi x0 x1 e1 e2 (L.foldl (· ||| ·) a) := by
  intro L
  induction L with
  | nil => intro a; rfl
  | cons b L ih =>
    intro a
    rw [List.map_cons, List.foldl_cons, List.foldl_cons, ← fi_or hd, ih]
theorem fi_VV (hd : x0 &&& x1 = 0) : fi x0 x1 e1 e2 (V x0 x1 e1 e2) = x0 ||| x1 ||| e1 ||| e2 := by
  have h := fi_V (e1 := e1) (e2 := e2) hd 2047
  have e : V x0 x1 e1 e2 &&& 2047 = V x0 x1 e1 e2 := (Nat.and_two_pow_sub_one_eq_mod _ 11).trans (Nat.mod_eq_of_lt V_lt)
  rw [e, fi_all hd] at h
  exact h
theorem uu_fold (hd : x0 &&& x1 = 0) (hx : x0 = 0 → x1 = 0) : (uu x0 x1 e1 e2).foldl (· ||| ·) 0 = x0 ||| x1 ||| e1 ||| e2 := by
  have h := fold_map (e1 := e1) (e2 := e2) hd (mB (V x0 x1 e1 e2)) 0
  rw [(okV hd hx).2.2.1, fi_VV hd, fi_0 hd] at h
  rw [(uu_map hd).1]
  exact h
theorem or_get (U : List Int64) (h : U.length ≤ 11) : U.getD 0 0 ||| U.getD 1 0 ||| U.getD 2 0 ||| U.getD 3 0 ||| U.getD 4 0 ||| U.getD 5 0 ||| U.getD 6 0 ||| U.getD 7 0 ||| U.getD 8 0 ||| U.getD 9 0 ||| U.getD 10 0 = U.foldl (· ||| ·) 0 := by
  match U, h with
  | [], _ => simp
  | [a0], _ => simp
  | [a0, a1], _ => simp
  | [a0, a1, a2], _ => simp
  | [a0, a1, a2, a3], _ => simp
  | [a0, a1, a2, a3, a4], _ => simp
  | [a0, a1, a2, a3, a4, a5], _ => simp
  | [a0, a1, a2, a3, a4, a5, a6], _ => simp
  | [a0, a1, a2, a3, a4, a5, a6, a7], _ => simp
  | [a0, a1, a2, a3, a4, a5, a6, a7, a8], _ => simp
  | [a0, a1, a2, a3, a4, a5, a6, a7, a8, a9], _ => simp
  | [a0, a1, a2, a3, a4, a5, a6, a7, a8, a9, a10], _ => simp
theorem sub_x {y x : Int64} (h : y &&& x = y) : y &&& (x ^^^ (-1)) = 0 := by
  apply b64_ext
  intro k hk
  have := congrArg (fun z => b64 z k) h
  simp only [b64_and, b64_not _ k hk, b64_zero] at this ⊢
  revert this
  cases b64 y k <;> cases b64 x k <;> simp
theorem gd_map {α β : Type} (f : α → β) (L : List α) (i : Nat) (d : α) : (L.map f).getD i (f d) = f (L.getD i d) := by
  rw [List.getD_eq_getElem?_getD, List.getD_eq_getElem?_getD, List.getElem?_map]
  cases L[i]? <;> rfl
theorem uu_0 (hd : x0 &&& x1 = 0) (hx : x0 = 0 → x1 = 0) (h : ¬ x0 = 0) : 1 ≤ (uu x0 x1 e1 e2).length ∧ (uu x0 x1 e1 e2).getD 0 0 &&& (x0 ^^^ (-1)) = 0 := by
  refine ⟨?_, sub_x ?_⟩
  · have a := uP_len (an := lA) (sb := lS) (z := 0) (s := e1) (ini x0 x1)
    have b := uP_len (an := lA) (sb := lS) (z := 0) (s := e2) (uP lA lS 0 e1 (ini x0 x1))
    have c : 1 ≤ (ini x0 x1).length := by unfold ini; rw [if_neg h]; split <;> simp
    unfold uu
    omega
  · have g := gd_map (fi x0 x1 e1 e2) (mB (V x0 x1 e1 e2)) 0 0
    rw [fi_0 hd] at g
    rw [(uu_map hd).1, g]
    have q := (((okV (e1 := e1) (e2 := e2) hd hx).2.2.2).resolve_left h).1
    have f := fi_and (e1 := e1) (e2 := e2) hd ((mB (V x0 x1 e1 e2)).getD 0 0) 15
    rw [q, fi_15 hd] at f
    exact f.symm
theorem uu_1 (hd : x0 &&& x1 = 0) (hx : x0 = 0 → x1 = 0) (h : ¬ x0 = 0) (h' : ¬ x1 = 0) : 2 ≤ (uu x0 x1 e1 e2).length ∧ (uu x0 x1 e1 e2).getD 1 0 &&& (x1 ^^^ (-1)) = 0 := by
  refine ⟨?_, sub_x ?_⟩
  · have a := uP_len (an := lA) (sb := lS) (z := 0) (s := e1) (ini x0 x1)
    have b := uP_len (an := lA) (sb := lS) (z := 0) (s := e2) (uP lA lS 0 e1 (ini x0 x1))
    have c : 2 ≤ (ini x0 x1).length := by unfold ini; rw [if_neg h, if_neg h']; simp
    unfold uu
    omega
  · have g := gd_map (fi x0 x1 e1 e2) (mB (V x0 x1 e1 e2)) 1 0
    rw [fi_0 hd] at g
    rw [(uu_map hd).1, g]
    have q := ((((okV (e1 := e1) (e2 := e2) hd hx).2.2.2).resolve_left h).2).resolve_left h'
    have f := fi_and (e1 := e1) (e2 := e2) hd ((mB (V x0 x1 e1 e2)).getD 1 0) 240
    rw [q, fi_240 hd] at f
    exact f.symm
theorem nz_cel (i : Nat) (hi : i < 11) : nzF (cel x0 x1 e1 e2 i) = Int32.ofNat (if (V x0 x1 e1 e2).testBit i then 1 else 0) := by
  rw [V_bit i hi]
  unfold nzF
  by_cases q : cel x0 x1 e1 e2 i = 0
  · rw [if_pos q, decide_eq_true q]; rfl
  · rw [if_neg q, decide_eq_false q]; rfl
theorem exp_eq : ceF x0 e1 e2 + ceF x1 e1 e2 + nzF (((x0 ||| x1) ^^^ (-1)) &&& e1 &&& e2) + nzF (((x0 ||| x1) ^^^ (-1)) &&& e1 &&& (e2 ^^^ (-1))) + nzF (((x0 ||| x1) ^^^ (-1)) &&& (e1 ^^^ (-1)) &&& e2) = Int32.ofNat (pc 11 (V x0 x1 e1 e2)) := by
  have h : ∀ i, i < 11 → nzF (cel x0 x1 e1 e2 i) = Int32.ofNat (if (V x0 x1 e1 e2).testBit i then 1 else 0) := fun i hi => nz_cel i hi
  have h0 := h 0 (by decide)
  have h1 := h 1 (by decide)
  have h2 := h 2 (by decide)
  have h3 := h 3 (by decide)
  have h4 := h 4 (by decide)
  have h5 := h 5 (by decide)
  have h6 := h 6 (by decide)
  have h7 := h 7 (by decide)
  have h8 := h 8 (by decide)
  have h9 := h 9 (by decide)
  have h10 := h 10 (by decide)
  simp only [cel] at h0 h1 h2 h3 h4 h5 h6 h7 h8 h9 h10
  unfold ceF
  rw [h0, h1, h2, h3, h4, h5, h6, h7, h8, h9, h10]
  simp only [pc]
  generalize (if (V x0 x1 e1 e2).testBit 0 = true then 1 else 0 : Nat) = m0
  generalize (if (V x0 x1 e1 e2).testBit 1 = true then 1 else 0 : Nat) = m1
  generalize (if (V x0 x1 e1 e2).testBit 2 = true then 1 else 0 : Nat) = m2
  generalize (if (V x0 x1 e1 e2).testBit 3 = true then 1 else 0 : Nat) = m3
  generalize (if (V x0 x1 e1 e2).testBit 4 = true then 1 else 0 : Nat) = m4
  generalize (if (V x0 x1 e1 e2).testBit 5 = true then 1 else 0 : Nat) = m5
  generalize (if (V x0 x1 e1 e2).testBit 6 = true then 1 else 0 : Nat) = m6
  generalize (if (V x0 x1 e1 e2).testBit 7 = true then 1 else 0 : Nat) = m7
  generalize (if (V x0 x1 e1 e2).testBit 8 = true then 1 else 0 : Nat) = m8
  generalize (if (V x0 x1 e1 e2).testBit 9 = true then 1 else 0 : Nat) = m9
  generalize (if (V x0 x1 e1 e2).testBit 10 = true then 1 else 0 : Nat) = m10
  simp only [← Int32.ofNat_add]
  exact congrArg Int32.ofNat (by omega)
end Fin
-- THE CAPPED SPLIT
def cS (c : Nat) : List Int64 → List Int64 → Option (List Int64)
  | [], A => some A
  | s :: ts, A => match cP1 lA lS 0 s c A with
    | none => none
    | some B => cS c ts B
theorem cS_n {c : Nat} {s : Int64} {ts A : List Int64} (h : cP1 lA lS 0 s c A = none) : cS c (s :: ts) A = none := by
  unfold cS; rw [h]
theorem cS_s {c : Nat} {s : Int64} {ts A B : List Int64} (h : cP1 lA lS 0 s c A = some B) : cS c (s :: ts) A = cS c ts B := by
  show (match cP1 lA lS 0 s c A with | none => none | some B => cS c ts B) = _
  rw [h]
theorem uz (A : List Int64) : uP lA lS 0 0 A = A := uP_z (an := lA) (sb := lS) (z := 0) (fun a => by simp [lA]) (fun a => by simp [lS]) A
theorem cS_eq (c cn : Nat) (hcn : cn ≤ 2) (x0 x1 e1 e2 s1 s2 : Int64) (h1 : e1 = if 1 ≤ cn then s1 else 0) (h2 : e2 = if 2 ≤ cn then s2 else 0) (hA : (ini x0 x1).length ≤ c) : cS c ([s1, s2].take cn) (ini x0 x1) = if (uu x0 x1 e1 e2).length ≤ c then some (uu x0 x1 e1 e2) else none := by
  unfold uu
  match cn, hcn with
  | 0, _ =>
    rw [if_neg (by decide)] at h1 h2
    rw [h1, h2, uz, uz, if_pos hA]; rfl
  | 1, _ =>
    rw [if_pos (by decide)] at h1
    rw [if_neg (by decide)] at h2
    rw [h1, h2, uz]
    have e := cP1_eq (an := lA) (sb := lS) (z := 0) (s := s1) (ini x0 x1) hA
    show cS c [s1] (ini x0 x1) = _
    by_cases g : (uP lA lS 0 s1 (ini x0 x1)).length ≤ c
    · rw [if_pos g] at e ⊢; rw [cS_s e]; rfl
    · rw [if_neg g] at e ⊢; exact cS_n e
  | 2, _ =>
    rw [if_pos (by decide)] at h1 h2
    rw [h1, h2]
    have e := cP1_eq (an := lA) (sb := lS) (z := 0) (s := s1) (ini x0 x1) hA
    have ln := uP_len (an := lA) (sb := lS) (z := 0) (s := s2) (uP lA lS 0 s1 (ini x0 x1))
    show cS c [s1, s2] (ini x0 x1) = _
    by_cases g : (uP lA lS 0 s1 (ini x0 x1)).length ≤ c
    · rw [if_pos g] at e; rw [cS_s e]
      have e' := cP1_eq (an := lA) (sb := lS) (z := 0) (s := s2) _ g
      by_cases g2 : (uP lA lS 0 s2 (uP lA lS 0 s1 (ini x0 x1))).length ≤ c
      · rw [if_pos g2] at e' ⊢; rw [cS_s e']; rfl
      · rw [if_neg g2] at e' ⊢; exact cS_n e'
    · rw [if_neg g] at e; rw [if_neg (by omega)]; exact cS_n e
-- THE WALK
section Ci
variable {α : Type} [DecidableEq α] {an sb : α → α → α} {z s : α} {c : Nat}
theorem cI_t {a : α} {dn td ex : List α} {r : α} (h : an a s = z ∨ sb a s = z) : cI an sb z s c dn (a :: td) ex r = cI an sb z s c (dn ++ [a]) td ex (sb r a) := by
  rw [cI]; exact if_pos h
theorem cI_n {a : α} {dn td ex : List α} {r : α} (h : ¬ (an a s = z ∨ sb a s = z)) (g : dn.length + (td.length + 1) + ex.length = c) : cI an sb z s c dn (a :: td) ex r = none := by
  rw [cI, if_neg h]; exact if_pos g
theorem cI_f {a : α} {dn td ex : List α} {r : α} (h : ¬ (an a s = z ∨ sb a s = z)) (g : ¬ dn.length + (td.length + 1) + ex.length = c) : cI an sb z s c dn (a :: td) ex r = cI an sb z s c (dn ++ [an a s]) td (ex ++ [sb a s]) (sb r a) := by
  rw [cI, if_neg h]; exact if_neg g
theorem cP1_n {A : List α} (h : cI an sb z s c [] A [] s = none) : cP1 an sb z s c A = none := by
  unfold cP1; rw [h]
theorem cP1_f {A B : List α} {r : α} (h : cI an sb z s c [] A [] s = some (B, r)) (hr : ¬ r = z) (g : B.length = c) : cP1 an sb z s c A = none := by
  unfold cP1; rw [h]; dsimp only; rw [if_neg hr, if_pos g]
theorem cP1_s {A B B' : List α} {r : α} (h : cI an sb z s c [] A [] s = some (B, r)) (e : B' = if r = z then B else B ++ [r]) (g : ¬ r = z → ¬ B.length = c) : cP1 an sb z s c A = some B' := by
  unfold cP1; rw [h, e]; dsimp only
  by_cases q : r = z
  · rw [if_pos q, if_pos q]
  · rw [if_neg q, if_neg q, if_neg (g q)]
end Ci
theorem own_st {α : Type} {X Y : List α} {x w : α} {n : Nat} (h : n = X.length) : (X ++ x :: Y).set n w = X ++ w :: Y := by
  subst h; simp
theorem own_cat {α : Type} (dn td ex pd : List α) (a b : α) : dn ++ [a] ++ td ++ (ex ++ [b]) ++ pd = (dn ++ a :: (td ++ ex)) ++ b :: pd := by simp
def Pr (a b : Slot) : Prop := (a = .unset ∧ b = .unset) ∨ ∃ z, a = .val (.long z) ∧ b = .second
def Pi1 (a : Slot) : Prop := a = .unset ∨ ∃ z, a = .val (.int z)
set_option maxRecDepth 65536 in
set_option maxHeartbeats 40000000 in
theorem loop29 (l : Launch) (Z : State) (a0 : Array Value) (hw : ∀ d ∈ tables_1, d.before a0 Z = true) (n0 : Nat) {Q : Option Value → Heap → Prop} (aS aA : Nat) (ct kn ix : Int32) (ss : List Int64) (sv : Int64) (cap bf : Nat) (hcap : cap < 2147483648) (ga : n0 ≤ aA) (ne_aS_aA : aS ≠ aA) : ∀ (td dn ex pd : List Int64) (r : Int64) (i fd : Nat) (h : Heap) (s12 s13 s14 s15 s16 s17 : Slot), i = dn.length → fd = bf + ex.length → dn.length + td.length = bf → bf + ex.length + pd.length = cap → AryJ Z h aA (dn ++ td ++ ex ++ pd) → AryJ Z h aS ss → Pr s12 s13 → Pr s14 s15 → Pr s16 s17 → (cI lA lS 0 sv cap dn td ex r = none → ∀ h', Q (some (.int (-1))) h') → (∀ (B : List Int64) (r' : Int64) (pd' : List Int64) (fd' : Nat) (h' : Heap) (s12 s13 s14 s15 s16 s17 : Slot), cI lA lS 0 sv cap dn td ex r = some (B, r') → fd' = B.length → AryJ Z h' aA (B ++ pd') → (B ++ pd').length = cap → AryJ Z h' aS ss → Pr s12 s13 → Pr s14 s15 → Pr s16 s17 → Go l Z n0 M_sp ({ frames := 0, cells := 0, slots := 0, locals := 0 } : Room) Q h' 0 0 115 #[.val (.ref aS), .val (.int ct), .val (.ref aA), .val (.int kn), .val (.int (Int32.ofNat fd')), .val (.int ix), .val (.long sv), .second, .val (.long r'), .second, .val (.int (Int32.ofNat bf)), .val (.int (Int32.ofNat bf)), s12, s13, s14, s15, s16, s17] []) →
    Go l Z n0 M_sp ({ frames := 0, cells := 0, slots := 0, locals := 0 } : Room) Q h 0 0 29 #[.val (.ref aS), .val (.int ct), .val (.ref aA), .val (.int kn), .val (.int (Int32.ofNat fd)), .val (.int ix), .val (.long sv), .second, .val (.long r), .second, .val (.int (Int32.ofNat bf)), .val (.int (Int32.ofNat i)), s12, s13, s14, s15, s16, s17] [] := by
  intro td
  induction td with
  | nil =>
    intro dn ex pd r i fd h s12 s13 s14 s15 s16 s17 hi' hfd hb hl A SS u1 u2 u3 hn kk
    simp at hb
    refine g_iload 31 dsp_29 rfl rfl ?_
    refine g_iload 33 dsp_31 rfl rfl ?_
    refine g_icmpT 115 dsp_33 (fun z => absurd ((own_lt (by omega) (by omega)).mp z) (by omega)) rfl ?_
    have eb : i = bf := by omega
    rw [eb]
    exact kk (dn ++ ex) r pd fd h s12 s13 s14 s15 s16 s17 rfl (by simp; omega) (by simpa using A) (by simp; omega) SS u1 u2 u3
  | cons y td ih =>
    intro dn ex pd r i fd h s12 s13 s14 s15 s16 s17 hi' hfd hb hl A SS u1 u2 u3 hn kk
    simp at hb
    refine g_iload 31 dsp_29 rfl rfl ?_
    refine g_iload 33 dsp_31 rfl rfl ?_
    refine g_icmpF 36 dsp_33 (fun z => z ((own_lt (by omega) (by omega)).mpr (by omega))) rfl ?_
    refine g_aload_n 37 dsp_36 rfl rfl rfl ?_
    refine g_iload 39 dsp_37 rfl rfl ?_
    refine g_ldJ (x := y) 40 i dsp_39 A (own_ti (by omega)) (by rw [hi']; simp) rfl ?_
    refine g_lstore 42 #[.val (.ref aS), .val (.int ct), .val (.ref aA), .val (.int kn), .val (.int (Int32.ofNat fd)), .val (.int ix), .val (.long sv), .second, .val (.long r), .second, .val (.int (Int32.ofNat bf)), .val (.int (Int32.ofNat i)), .val (.long y), .second, s14, s15, s16, s17] dsp_40 (by rcases u1 with ⟨rfl, rfl⟩ | ⟨z, rfl, rfl⟩ <;> rfl) rfl ?_
    refine g_lload 44 dsp_42 rfl rfl ?_
    refine g_lload 46 dsp_44 rfl rfl ?_
    refine g_land 47 dsp_46 rfl ?_
    refine g_lstore 49 #[.val (.ref aS), .val (.int ct), .val (.ref aA), .val (.int kn), .val (.int (Int32.ofNat fd)), .val (.int ix), .val (.long sv), .second, .val (.long r), .second, .val (.int (Int32.ofNat bf)), .val (.int (Int32.ofNat i)), .val (.long y), .second, .val (.long (y &&& sv)), .second, s16, s17] dsp_47 (by rcases u2 with ⟨rfl, rfl⟩ | ⟨z, rfl, rfl⟩ <;> rfl) rfl ?_
    refine g_lload 51 dsp_49 rfl rfl ?_
    refine g_lload 53 dsp_51 rfl rfl ?_
    refine g_ldc2J (w := -1) 56 dsp_53 (wd hw 19 rfl) rfl ?_
    refine g_lxor 57 dsp_56 rfl ?_
    refine g_land 58 dsp_57 rfl ?_
    refine g_lstore 60 #[.val (.ref aS), .val (.int ct), .val (.ref aA), .val (.int kn), .val (.int (Int32.ofNat fd)), .val (.int ix), .val (.long sv), .second, .val (.long r), .second, .val (.int (Int32.ofNat bf)), .val (.int (Int32.ofNat i)), .val (.long y), .second, .val (.long (y &&& sv)), .second, .val (.long (y &&& ((sv ^^^ ((-1 : Int64)))))), .second] dsp_58 (by rcases u3 with ⟨rfl, rfl⟩ | ⟨z, rfl, rfl⟩ <;> rfl) rfl ?_
    refine g_lload 62 dsp_60 rfl rfl ?_
    refine g_lload 64 dsp_62 rfl rfl ?_
    refine g_ldc2J (w := -1) 67 dsp_64 (wd hw 19 rfl) rfl ?_
    refine g_lxor 68 dsp_67 rfl ?_
    refine g_land 69 dsp_68 rfl ?_
    refine g_lstore 71 #[.val (.ref aS), .val (.int ct), .val (.ref aA), .val (.int kn), .val (.int (Int32.ofNat fd)), .val (.int ix), .val (.long sv), .second, .val (.long (r &&& ((y ^^^ ((-1 : Int64)))))), .second, .val (.int (Int32.ofNat bf)), .val (.int (Int32.ofNat i)), .val (.long y), .second, .val (.long (y &&& sv)), .second, .val (.long (y &&& ((sv ^^^ ((-1 : Int64)))))), .second] dsp_69 rfl rfl ?_
    refine g_lload 73 dsp_71 rfl rfl ?_
    refine g_lconst 74 (0 : Int64) dsp_73 rfl rfl ?_
    refine g_lcmp 109 78 dsp_74 dsp_75 rfl rfl (fun q1 => ?_) (fun q1 => ?_)
    · refine g_iinc 112 #[.val (.ref aS), .val (.int ct), .val (.ref aA), .val (.int kn), .val (.int (Int32.ofNat fd)), .val (.int ix), .val (.long sv), .second, .val (.long (r &&& ((y ^^^ ((-1 : Int64)))))), .second, .val (.int (Int32.ofNat bf)), .val (.int (((Int32.ofNat i)) + (1 : Int32))), .val (.long y), .second, .val (.long (y &&& sv)), .second, .val (.long (y &&& ((sv ^^^ ((-1 : Int64)))))), .second] dsp_109 rfl rfl rfl ?_
      refine g_goto 29 dsp_112 rfl ?_
      rw [own_one]
      have eI : cI lA lS 0 sv cap dn (y :: td) ex r = cI lA lS 0 sv cap (dn ++ [y]) td ex (lS r y) := cI_t (Or.inl q1)
      rw [eI] at hn kk
      exact ih (dn ++ [y]) ex pd (lS r y) (i + 1) fd h _ _ _ _ _ _ (by simp; omega) hfd (by simp; omega) hl (by simpa using A) SS (Or.inr ⟨_, rfl, rfl⟩) (Or.inr ⟨_, rfl, rfl⟩) (Or.inr ⟨_, rfl, rfl⟩) hn kk
    · refine g_lload 80 dsp_78 rfl rfl ?_
      refine g_lconst 81 (0 : Int64) dsp_80 rfl rfl ?_
      refine g_lcmp 109 85 dsp_81 dsp_82 rfl rfl (fun q2 => ?_) (fun q2 => ?_)
      · refine g_iinc 112 #[.val (.ref aS), .val (.int ct), .val (.ref aA), .val (.int kn), .val (.int (Int32.ofNat fd)), .val (.int ix), .val (.long sv), .second, .val (.long (r &&& ((y ^^^ ((-1 : Int64)))))), .second, .val (.int (Int32.ofNat bf)), .val (.int (((Int32.ofNat i)) + (1 : Int32))), .val (.long y), .second, .val (.long (y &&& sv)), .second, .val (.long (y &&& ((sv ^^^ ((-1 : Int64)))))), .second] dsp_109 rfl rfl rfl ?_
        refine g_goto 29 dsp_112 rfl ?_
        rw [own_one]
        have eI : cI lA lS 0 sv cap dn (y :: td) ex r = cI lA lS 0 sv cap (dn ++ [y]) td ex (lS r y) := cI_t (Or.inr q2)
        rw [eI] at hn kk
        exact ih (dn ++ [y]) ex pd (lS r y) (i + 1) fd h _ _ _ _ _ _ (by simp; omega) hfd (by simp; omega) hl (by simpa using A) SS (Or.inr ⟨_, rfl, rfl⟩) (Or.inr ⟨_, rfl, rfl⟩) (Or.inr ⟨_, rfl, rfl⟩) hn kk
      · refine g_iload 87 dsp_85 rfl rfl ?_
        refine g_aload_n 88 dsp_87 rfl rfl rfl ?_
        refine g_lenJ 89 ((Int32.ofNat cap)) dsp_88 A (by congr 1; simp; omega) rfl ?_
        refine g_icmp 94 92 dsp_89 rfl rfl (fun q3 => ?_) (fun q3 => ?_)
        · have gq : ¬ fd = cap := fun z => q3 (by rw [z])
          obtain ⟨p0, pd', epd⟩ : ∃ p0 pd', pd = p0 :: pd' := by
            cases pd with
            | nil => simp at hl; omega
            | cons p0 pd' => exact ⟨p0, pd', rfl⟩
          subst epd
          have hl2 : bf + ex.length + (pd'.length + 1) = cap := hl
          clear hl
          have hl := hl2
          refine g_aload_n 95 dsp_94 rfl rfl rfl ?_
          refine g_iload 97 dsp_95 rfl rfl ?_
          refine g_lload 99 dsp_97 rfl rfl ?_
          refine g_stJ 100 i dsp_99 A (own_ti (by omega)) (by simp; omega) ga rfl (fun hh1 gW1 => ?_)
          have gA2 := A.set gW1
          have gA3 := SS.other gW1 ne_aS_aA
          refine g_aload_n 101 dsp_100 rfl rfl rfl ?_
          refine g_iload 103 dsp_101 rfl rfl ?_
          refine g_iinc 106 #[.val (.ref aS), .val (.int ct), .val (.ref aA), .val (.int kn), .val (.int (((Int32.ofNat fd)) + (1 : Int32))), .val (.int ix), .val (.long sv), .second, .val (.long (r &&& ((y ^^^ ((-1 : Int64)))))), .second, .val (.int (Int32.ofNat bf)), .val (.int (Int32.ofNat i)), .val (.long y), .second, .val (.long (y &&& sv)), .second, .val (.long (y &&& ((sv ^^^ ((-1 : Int64)))))), .second] dsp_103 rfl rfl rfl ?_
          refine g_lload 108 dsp_106 rfl rfl ?_
          refine g_stJ 109 fd dsp_108 gA2 (own_ti (by omega)) (by simp; omega) ga rfl (fun hh4 gW4 => ?_)
          have gA5 := gA2.set gW4
          have gA6 := gA3.other gW4 ne_aS_aA
          refine g_iinc 112 #[.val (.ref aS), .val (.int ct), .val (.ref aA), .val (.int kn), .val (.int (((Int32.ofNat fd)) + (1 : Int32))), .val (.int ix), .val (.long sv), .second, .val (.long (r &&& ((y ^^^ ((-1 : Int64)))))), .second, .val (.int (Int32.ofNat bf)), .val (.int (((Int32.ofNat i)) + (1 : Int32))), .val (.long y), .second, .val (.long (y &&& sv)), .second, .val (.long (y &&& ((sv ^^^ ((-1 : Int64)))))), .second] dsp_109 rfl rfl rfl ?_
          refine g_goto 29 dsp_112 rfl ?_
          rw [own_one, own_one]
          have eI : cI lA lS 0 sv cap dn (y :: td) ex r = cI lA lS 0 sv cap (dn ++ [lA y sv]) td (ex ++ [lS y sv]) (lS r y) := cI_f (fun z => z.elim q1 q2) (fun z => gq (by omega))
          rw [eI] at hn kk
          have A2 := gA5
          rw [show dn ++ y :: td ++ ex ++ p0 :: pd' = dn ++ y :: (td ++ ex ++ p0 :: pd') by simp, own_st (α := Int64) hi', show dn ++ (y &&& sv) :: (td ++ ex ++ p0 :: pd') = (dn ++ (y &&& sv) :: (td ++ ex)) ++ p0 :: pd' by simp, own_st (α := Int64) (by simp; omega)] at A2
          exact ih (dn ++ [lA y sv]) (ex ++ [lS y sv])  pd' (lS r y) (i + 1) (fd + 1) hh4 _ _ _ _ _ _ (by simp; omega) (by simp; omega) (by simp; omega) (by simp; omega) (by rw [own_cat]; exact A2) gA6 (Or.inr ⟨_, rfl, rfl⟩) (Or.inr ⟨_, rfl, rfl⟩) (Or.inr ⟨_, rfl, rfl⟩) hn kk
        · refine g_iconst 93 (-1 : Int32) dsp_92 rfl rfl ?_
          refine g_retI dsp_93 rfl (Nat.le_of_ble_eq_true rfl) (Nat.le_of_ble_eq_true rfl) ?_
          exact hn (cI_n (fun z => z.elim q1 q2) (by have := (own_eq (by omega) (by omega)).mp (Classical.not_not.mp q3); omega)) _
set_option maxRecDepth 65536 in
set_option maxHeartbeats 40000000 in
theorem k115 (l : Launch) (Z : State) (a0 : Array Value) (hw : ∀ d ∈ tables_1, d.before a0 Z = true) (n0 : Nat) {Q : Option Value → Heap → Prop} (aS aA : Nat) (ct kn : Int32) (i : Nat) (ss : List Int64) (sv : Int64) (cap bf : Nat) (hcap : cap < 2147483648) (ga : n0 ≤ aA) (ne_aS_aA : aS ≠ aA) (B pd : List Int64) (r : Int64) (fd : Nat) (h : Heap) (s12 s13 s14 s15 s16 s17 : Slot) (hfd : fd = B.length) (A : AryJ Z h aA (B ++ pd)) (hl : (B ++ pd).length = cap) (SS : AryJ Z h aS ss) (u1 : Pr s12 s13) (u2 : Pr s14 s15) (u3 : Pr s16 s17)
    (hn : ¬ r = 0 → B.length = cap → ∀ h', Q (some (.int (-1))) h') (kk : (∀ (B' pd' : List Int64) (fd' : Nat) (h' : Heap) (s6 s7 s8 s9 s10 s11 s12 s13 s14 s15 s16 s17 : Slot), (B' = (if r = 0 then B else B ++ [r]) ∧ (¬ r = 0 → ¬ B.length = cap)) → fd' = B'.length → AryJ Z h' aA (B' ++ pd') → (B' ++ pd').length = cap → AryJ Z h' aS ss → Pr s6 s7 → Pr s8 s9 → Pi1 s10 → Pi1 s11 → Pr s12 s13 → Pr s14 s15 → Pr s16 s17 → Go l Z n0 M_sp ({ frames := 0, cells := 0, slots := 0, locals := 0 } : Room) Q h' 0 0 6 #[.val (.ref aS), .val (.int ct), .val (.ref aA), .val (.int kn), .val (.int (Int32.ofNat fd')), .val (.int (Int32.ofNat (i + 1))), s6, s7, s8, s9, s10, s11, s12, s13, s14, s15, s16, s17] [])) :
    Go l Z n0 M_sp ({ frames := 0, cells := 0, slots := 0, locals := 0 } : Room) Q h 0 0 115 #[.val (.ref aS), .val (.int ct), .val (.ref aA), .val (.int kn), .val (.int (Int32.ofNat fd)), .val (.int (Int32.ofNat i)), .val (.long sv), .second, .val (.long r), .second, .val (.int (Int32.ofNat bf)), .val (.int (Int32.ofNat bf)), s12, s13, s14, s15, s16, s17] [] := by
  refine g_lload 117 dsp_115 rfl rfl ?_
  refine g_lconst 118 (0 : Int64) dsp_117 rfl rfl ?_
  refine g_lcmp 140 122 dsp_118 dsp_119 rfl rfl (fun q1 => ?_) (fun q1 => ?_)
  · refine g_iinc 143 #[.val (.ref aS), .val (.int ct), .val (.ref aA), .val (.int kn), .val (.int (Int32.ofNat fd)), .val (.int (((Int32.ofNat i)) + (1 : Int32))), .val (.long sv), .second, .val (.long r), .second, .val (.int (Int32.ofNat bf)), .val (.int (Int32.ofNat bf)), s12, s13, s14, s15, s16, s17] dsp_140 rfl rfl rfl ?_
    refine g_goto 6 dsp_143 rfl ?_
    rw [own_one]
    exact kk B pd fd h _ _ _ _ _ _ _ _ _ _ _ _ ⟨(if_pos q1).symm, fun z => absurd q1 z⟩ hfd A hl SS (Or.inr ⟨_, rfl, rfl⟩) (Or.inr ⟨_, rfl, rfl⟩) (Or.inr ⟨_, rfl⟩) (Or.inr ⟨_, rfl⟩) u1 u2 u3
  · refine g_iload 124 dsp_122 rfl rfl ?_
    refine g_aload_n 125 dsp_124 rfl rfl rfl ?_
    refine g_lenJ 126 ((Int32.ofNat cap)) dsp_125 A (by rw [hl]) rfl ?_
    refine g_icmp 131 129 dsp_126 rfl rfl (fun q3 => ?_) (fun q3 => ?_)
    · have gq : ¬ fd = cap := fun z => q3 (by rw [z])
      obtain ⟨p0, pd', epd⟩ : ∃ p0 pd', pd = p0 :: pd' := by
        cases pd with
        | nil => simp at hl; omega
        | cons p0 pd' => exact ⟨p0, pd', rfl⟩
      subst epd
      refine g_aload_n 132 dsp_131 rfl rfl rfl ?_
      refine g_iload 134 dsp_132 rfl rfl ?_
      refine g_iinc 137 #[.val (.ref aS), .val (.int ct), .val (.ref aA), .val (.int kn), .val (.int (((Int32.ofNat fd)) + (1 : Int32))), .val (.int (Int32.ofNat i)), .val (.long sv), .second, .val (.long r), .second, .val (.int (Int32.ofNat bf)), .val (.int (Int32.ofNat bf)), s12, s13, s14, s15, s16, s17] dsp_134 rfl rfl rfl ?_
      refine g_lload 139 dsp_137 rfl rfl ?_
      refine g_stJ 140 fd dsp_139 A (own_ti (by simp at hl; omega)) (by simp at hl ⊢; omega) ga rfl (fun hh1 gW1 => ?_)
      have gA2 := A.set gW1
      have gA3 := SS.other gW1 ne_aS_aA
      refine g_iinc 143 #[.val (.ref aS), .val (.int ct), .val (.ref aA), .val (.int kn), .val (.int (((Int32.ofNat fd)) + (1 : Int32))), .val (.int (((Int32.ofNat i)) + (1 : Int32))), .val (.long sv), .second, .val (.long r), .second, .val (.int (Int32.ofNat bf)), .val (.int (Int32.ofNat bf)), s12, s13, s14, s15, s16, s17] dsp_140 rfl rfl rfl ?_
      refine g_goto 6 dsp_143 rfl ?_
      rw [own_one, own_one]
      have A2 := gA2
      rw [own_st (α := Int64) hfd] at A2
      exact kk (B ++ [r]) pd' (fd + 1) hh1 _ _ _ _ _ _ _ _ _ _ _ _ ⟨(if_neg q1).symm, fun _ z => gq (by omega)⟩ (by simp; omega) (by simpa using A2) (by simp at hl ⊢; omega) gA3 (Or.inr ⟨_, rfl, rfl⟩) (Or.inr ⟨_, rfl, rfl⟩) (Or.inr ⟨_, rfl⟩) (Or.inr ⟨_, rfl⟩) u1 u2 u3
    · refine g_iconst 130 (-1 : Int32) dsp_129 rfl rfl ?_
      refine g_retI dsp_130 rfl (Nat.le_of_ble_eq_true rfl) (Nat.le_of_ble_eq_true rfl) ?_
      exact hn q1 (by have := (own_eq (by simp at hl; omega) (by omega)).mp (Classical.not_not.mp q3); omega) _
set_option maxRecDepth 65536 in
set_option maxHeartbeats 40000000 in
theorem kpass (l : Launch) (Z : State) (a0 : Array Value) (hw : ∀ d ∈ tables_1, d.before a0 Z = true) (n0 : Nat) {Q : Option Value → Heap → Prop} (aS aA : Nat) (cn : Nat) (kn : Int32) (i : Nat) (ss : List Int64) (sv : Int64) (cap : Nat) (hcap : cap < 2147483648) (ga : n0 ≤ aA) (ne_aS_aA : aS ≠ aA) (hcn : cn < 2147483648) (hict : i < cn) (hsv : ss[i]? = some sv) (A0 pd : List Int64) (fd : Nat) (h : Heap) (s6 s7 s8 s9 s10 s11 s12 s13 s14 s15 s16 s17 : Slot) (hfd : fd = A0.length) (A : AryJ Z h aA (A0 ++ pd)) (hl : (A0 ++ pd).length = cap) (SS : AryJ Z h aS ss) (u1 : Pr s6 s7) (u2 : Pr s8 s9) (u3 : Pi1 s10) (u4 : Pi1 s11) (u5 : Pr s12 s13) (u6 : Pr s14 s15) (u7 : Pr s16 s17)
    (hn : cP1 lA lS 0 sv cap A0 = none → ∀ h', Q (some (.int (-1))) h') (kk : (∀ (B' pd' : List Int64) (fd' : Nat) (h' : Heap) (s6 s7 s8 s9 s10 s11 s12 s13 s14 s15 s16 s17 : Slot), cP1 lA lS 0 sv cap A0 = some B' → fd' = B'.length → AryJ Z h' aA (B' ++ pd') → (B' ++ pd').length = cap → AryJ Z h' aS ss → Pr s6 s7 → Pr s8 s9 → Pi1 s10 → Pi1 s11 → Pr s12 s13 → Pr s14 s15 → Pr s16 s17 → Go l Z n0 M_sp ({ frames := 0, cells := 0, slots := 0, locals := 0 } : Room) Q h' 0 0 6 #[.val (.ref aS), .val (.int (Int32.ofNat cn)), .val (.ref aA), .val (.int kn), .val (.int (Int32.ofNat fd')), .val (.int (Int32.ofNat (i + 1))), s6, s7, s8, s9, s10, s11, s12, s13, s14, s15, s16, s17] [])) :
    Go l Z n0 M_sp ({ frames := 0, cells := 0, slots := 0, locals := 0 } : Room) Q h 0 0 6 #[.val (.ref aS), .val (.int (Int32.ofNat cn)), .val (.ref aA), .val (.int kn), .val (.int (Int32.ofNat fd)), .val (.int (Int32.ofNat i)), s6, s7, s8, s9, s10, s11, s12, s13, s14, s15, s16, s17] [] := by
  refine g_iload 8 dsp_6 rfl rfl ?_
  refine g_iload_n 9 dsp_8 rfl rfl ?_
  refine g_icmpF 12 dsp_9 (fun z => z ((own_lt (by omega) (by omega)).mpr hict)) rfl ?_
  refine g_aload_n 13 dsp_12 rfl rfl rfl ?_
  refine g_iload 15 dsp_13 rfl rfl ?_
  refine g_ldJ (x := sv) 16 i dsp_15 SS (own_ti (by omega)) hsv rfl ?_
  refine g_lstore 18 #[.val (.ref aS), .val (.int (Int32.ofNat cn)), .val (.ref aA), .val (.int kn), .val (.int (Int32.ofNat fd)), .val (.int (Int32.ofNat i)), .val (.long sv), .second, s8, s9, s10, s11, s12, s13, s14, s15, s16, s17] dsp_16 (by rcases u1 with ⟨rfl, rfl⟩ | ⟨z, rfl, rfl⟩ <;> rfl) rfl ?_
  refine g_lload 20 dsp_18 rfl rfl ?_
  refine g_lstore 22 #[.val (.ref aS), .val (.int (Int32.ofNat cn)), .val (.ref aA), .val (.int kn), .val (.int (Int32.ofNat fd)), .val (.int (Int32.ofNat i)), .val (.long sv), .second, .val (.long sv), .second, s10, s11, s12, s13, s14, s15, s16, s17] dsp_20 (by rcases u2 with ⟨rfl, rfl⟩ | ⟨z, rfl, rfl⟩ <;> rfl) rfl ?_
  refine g_iload 24 dsp_22 rfl rfl ?_
  refine g_istore 26 #[.val (.ref aS), .val (.int (Int32.ofNat cn)), .val (.ref aA), .val (.int kn), .val (.int (Int32.ofNat fd)), .val (.int (Int32.ofNat i)), .val (.long sv), .second, .val (.long sv), .second, .val (.int (Int32.ofNat fd)), s11, s12, s13, s14, s15, s16, s17] dsp_24 (by rcases u3 with rfl | ⟨z, rfl⟩ <;> rfl) rfl ?_
  refine g_iconst 27 (0 : Int32) dsp_26 rfl rfl ?_
  refine g_istore 29 #[.val (.ref aS), .val (.int (Int32.ofNat cn)), .val (.ref aA), .val (.int kn), .val (.int (Int32.ofNat fd)), .val (.int (Int32.ofNat i)), .val (.long sv), .second, .val (.long sv), .second, .val (.int (Int32.ofNat fd)), .val (.int (0 : Int32)), s12, s13, s14, s15, s16, s17] dsp_27 (by rcases u4 with rfl | ⟨z, rfl⟩ <;> rfl) rfl ?_
  exact loop29 l Z a0 hw n0 aS aA (Int32.ofNat cn) kn (Int32.ofNat i) ss sv cap fd hcap ga ne_aS_aA A0 [] [] pd sv 0 fd h s12 s13 s14 s15 s16 s17 rfl rfl (by simp; omega) (by simp at hl ⊢; omega) (by simpa using A) SS u5 u6 u7
    (fun z => hn (cP1_n z))
    (fun B r' pd' fd' h' t12 t13 t14 t15 t16 t17 eI hfd' A' hl' SS' v1 v2 v3 => k115 l Z a0 hw n0 aS aA (Int32.ofNat cn) kn i ss sv cap fd hcap ga ne_aS_aA B pd' r' fd' h' t12 t13 t14 t15 t16 t17 hfd' A' hl' SS' v1 v2 v3
      (fun z1 z2 => hn (cP1_f eI z1 z2)) (fun B' pd2 fd2 h2 t6 t7 t8 t9 t10 t11 t12 t13 t14 t15 t16 t17 c => kk B' pd2 fd2 h2 t6 t7 t8 t9 t10 t11 t12 t13 t14 t15 t16 t17 (cP1_s eI c.1 c.2)))
set_option maxRecDepth 65536 in
set_option maxHeartbeats 40000000 in
theorem kall (l : Launch) (Z : State) (a0 : Array Value) (hw : ∀ d ∈ tables_1, d.before a0 Z = true) (n0 : Nat) (aS aA : Nat) (cn : Nat) (kn : Int32) (ss : List Int64) (cap : Nat) (hcap : cap < 2147483648) (ga : n0 ≤ aA) (ne_aS_aA : aS ≠ aA) (hcn : cn < 2147483648) (TS A0 vs : List Int64) : ∀ (ts us A1 pd : List Int64) (i fd : Nat) (h : Heap) (s6 s7 s8 s9 s10 s11 s12 s13 s14 s15 s16 s17 : Slot), ss = us ++ ts ++ vs → i = us.length → cn = us.length + ts.length → cS cap TS A0 = cS cap ts A1 → fd = A1.length → AryJ Z h aA (A1 ++ pd) → (A1 ++ pd).length = cap → AryJ Z h aS ss → Pr s6 s7 → Pr s8 s9 → Pi1 s10 → Pi1 s11 → Pr s12 s13 → Pr s14 s15 → Pr s16 s17 →
    Go l Z n0 M_sp ({ frames := 0, cells := 0, slots := 0, locals := 0 } : Room) (fun v h => (cS cap TS A0 = none ∧ v = some (.int (-1))) ∨ ∃ B pd, cS cap TS A0 = some B ∧ v = some (.int (Int32.ofNat B.length)) ∧ AryJ Z h aA (B ++ pd)) h 0 0 6 #[.val (.ref aS), .val (.int (Int32.ofNat cn)), .val (.ref aA), .val (.int kn), .val (.int (Int32.ofNat fd)), .val (.int (Int32.ofNat i)), s6, s7, s8, s9, s10, s11, s12, s13, s14, s15, s16, s17] [] := by
  intro ts
  induction ts with
  | nil =>
    intro us A1 pd i fd h s6 s7 s8 s9 s10 s11 s12 s13 s14 s15 s16 s17 hss hi' hc hR hfd A hl SS u1 u2 u3 u4 u5 u6 u7
    simp at hc
    refine g_iload 8 dsp_6 rfl rfl ?_
    refine g_iload_n 9 dsp_8 rfl rfl ?_
    refine g_icmpT 146 dsp_9 (fun z => absurd ((own_lt (by omega) (by omega)).mp z) (by omega)) rfl ?_
    refine g_iload 148 dsp_146 rfl rfl ?_
    refine g_retI dsp_148 rfl (Nat.le_of_ble_eq_true rfl) (Nat.le_of_ble_eq_true rfl) ?_
    rw [hfd]
    exact Or.inr ⟨A1, pd, hR.trans rfl, rfl, A⟩
  | cons sv ts ih =>
    intro us A1 pd i fd h s6 s7 s8 s9 s10 s11 s12 s13 s14 s15 s16 s17 hss hi' hc hR hfd A hl SS u1 u2 u3 u4 u5 u6 u7
    simp at hc
    refine kpass l Z a0 hw n0 aS aA cn kn i ss sv cap hcap ga ne_aS_aA hcn (by omega) (by rw [hss, hi']; simp) A1 pd fd h s6 s7 s8 s9 s10 s11 s12 s13 s14 s15 s16 s17 hfd A hl SS u1 u2 u3 u4 u5 u6 u7 (fun z h' => Or.inl ⟨hR.trans (cS_n z), rfl⟩) ?_
    intro B' pd2 fd2 h2 t6 t7 t8 t9 t10 t11 t12 t13 t14 t15 t16 t17 c
    exact ih (us ++ [sv]) B' pd2 (i + 1) fd2 h2 t6 t7 t8 t9 t10 t11 t12 t13 t14 t15 t16 t17 (by rw [hss]; simp) (by simp; omega) (by simp; omega) (hR.trans (cS_s c))
set_option maxRecDepth 65536 in
set_option maxHeartbeats 40000000 in
theorem c_sp (l : Launch) (Z : State) (a0 : Array Value) (hw : ∀ d ∈ tables_1, d.before a0 Z = true) (n0 : Nat) (h0 : Heap) (aS aA cn kn : Nat) (ss : List Int64) (cap : Nat) (hcap : cap < 2147483648) (ga : n0 ≤ aA) (ne_aS_aA : aS ≠ aA) (TS A0 vs pd : List Int64) (hcn0 : cn = TS.length) (hcn : cn < 2147483648) (hss : ss = TS ++ vs) (hkn : kn = A0.length) (A : AryJ Z h0 aA (A0 ++ pd)) (hl : (A0 ++ pd).length = cap) (SS : AryJ Z h0 aS ss) :
    Con l Z n0 M_sp ({ frames := 0, cells := 0, slots := 0, locals := 0 } : Room) #[(.ref aS), (.int (Int32.ofNat cn)), (.ref aA), (.int (Int32.ofNat kn))] h0 (fun v h => (cS cap TS A0 = none ∧ v = some (.int (-1))) ∨ ∃ B pd, cS cap TS A0 = some B ∧ v = some (.int (Int32.ofNat B.length)) ∧ AryJ Z h aA (B ++ pd)) := by
  refine con_intro pl_sp #[.val (.ref aS), .val (.int (Int32.ofNat cn)), .val (.ref aA), .val (.int (Int32.ofNat kn)), .unset, .unset, .unset, .unset, .unset, .unset, .unset, .unset, .unset, .unset, .unset, .unset, .unset, .unset] (fun m => by first | (simp [entryFrame, mkF, argsToLocals, Value.category, maxLocals]; done) | rfl) (fun Zs_h0 => ?_)
  refine g_iload_n 1 dsp_0 rfl rfl ?_
  refine g_istore 3 #[.val (.ref aS), .val (.int (Int32.ofNat cn)), .val (.ref aA), .val (.int (Int32.ofNat kn)), .val (.int (Int32.ofNat kn)), .unset, .unset, .unset, .unset, .unset, .unset, .unset, .unset, .unset, .unset, .unset, .unset, .unset] dsp_1 rfl rfl ?_
  refine g_iconst 4 (0 : Int32) dsp_3 rfl rfl ?_
  refine g_istore 6 #[.val (.ref aS), .val (.int (Int32.ofNat cn)), .val (.ref aA), .val (.int (Int32.ofNat kn)), .val (.int (Int32.ofNat kn)), .val (.int (0 : Int32)), .unset, .unset, .unset, .unset, .unset, .unset, .unset, .unset, .unset, .unset, .unset, .unset] dsp_4 rfl rfl ?_
  exact kall l Z a0 hw n0 aS aA cn (Int32.ofNat kn) ss cap hcap ga ne_aS_aA hcn TS A0 vs TS [] A0 pd 0 kn h0 _ _ _ _ _ _ _ _ _ _ _ _ hss rfl (by simp; omega) rfl hkn A hl SS (Or.inl ⟨rfl, rfl⟩) (Or.inl ⟨rfl, rfl⟩) (Or.inl rfl) (Or.inl rfl) (Or.inl ⟨rfl, rfl⟩) (Or.inl ⟨rfl, rfl⟩) (Or.inl ⟨rfl, rfl⟩)
theorem own_ga {B pd : List Int64} {i : Nat} (h : i < B.length) : (B ++ pd)[i]? = some (B.getD i 0) := by
  rw [List.getElem?_append_left h, List.getD_eq_getElem?_getD, List.getElem?_eq_getElem h]; rfl
theorem own_gz {B : List Int64} {i : Nat} (h : ¬ i < B.length) : B.getD i 0 = 0 := by
  rw [List.getD_eq_getElem?_getD, List.getElem?_eq_none (by omega)]; rfl
theorem own_gt {B pd : List Int64} {i : Nat} {x0 x1 e1 e2 : Int64} (h : i < B.length) (hg : ∀ t ∈ B, GoodT t x0 x1 e1 e2) : ∃ t, (B ++ pd)[i]? = some t ∧ GoodT t x0 x1 e1 e2 := by
  refine ⟨B[i], ?_, hg _ (List.getElem_mem h)⟩
  rw [List.getElem?_append_left h, List.getElem?_eq_getElem h]
theorem own_r10 (x : Int32) : ∃ r : Nat, r < 10 ∧ ((x &&& 15) % 10) = Int32.ofNat r := by
  have h0 := (c_and x 15 (by decide)).1
  have h1 := (c_irem (x &&& 15) (10 : Int32) 10 rfl).1 h0
  have h2 := Int.emod_nonneg (x &&& 15).toInt (b := 10) (by omega)
  have h3 := Int.emod_lt_of_pos (x &&& 15).toInt (b := 10) (by omega)
  obtain ⟨n, e1, e2, e3⟩ := own_of (x := (x &&& 15) % 10) (by omega)
  exact ⟨n, by omega, e1⟩
theorem own_r3 (x : Int32) : ∃ r : Nat, r < 4 ∧ (x &&& 3) = Int32.ofNat r := by
  have h0 := c_and x 3 (by decide)
  have e3 : (3 : Int32).toInt = 3 := rfl
  obtain ⟨n, e1, e2, e3⟩ := own_of (x := x &&& 3) h0.1
  exact ⟨n, by omega, e1⟩
theorem own_dj (p q : Int64) : p &&& (q &&& (p ^^^ (-1))) = 0 := by
  apply b64_ext
  intro k hk
  simp only [b64_and, b64_not _ k hk, b64_zero]
  cases b64 p k <;> cases b64 q k <;> rfl
set_option maxRecDepth 65536 in
set_option maxHeartbeats 40000000 in
theorem c_nz (l : Launch) (Z : State) (a0 : Array Value) (hw : ∀ d ∈ tables_1, d.before a0 Z = true) (n0 : Nat) (h0 : Heap) (x : Int64) :
    Con l Z n0 M_nz ({ frames := 0, cells := 0, slots := 0, locals := 0 } : Room) #[(.long x)] h0 (fun v h => h0 = h ∧ v = some (.int (nzF x))) := by
  refine con_intro pl_nz #[.val (.long x), .second] (fun m => by first | (simp [entryFrame, mkF, argsToLocals, Value.category, maxLocals]; done) | rfl) (fun Zs_h0 => ?_)
  refine g_lload_n 1 dnz_0 rfl rfl ?_
  refine g_lconst 2 (0 : Int64) dnz_1 rfl rfl ?_
  refine g_lcmp 10 6 dnz_2 dnz_3 rfl rfl (fun q => ?_) (fun q => ?_)
  · refine g_iconst 11 (0 : Int32) dnz_10 rfl rfl ?_
    refine g_retI dnz_11 rfl (Nat.le_of_ble_eq_true rfl) (Nat.le_of_ble_eq_true rfl) ?_
    exact ⟨rfl, congrArg (fun z => some (Value.int z)) (Eq.symm (if_pos q))⟩
  · refine g_iconst 7 (1 : Int32) dnz_6 rfl rfl ?_
    refine g_goto 11 dnz_7 rfl ?_
    refine g_retI dnz_11 rfl (Nat.le_of_ble_eq_true rfl) (Nat.le_of_ble_eq_true rfl) ?_
    exact ⟨rfl, congrArg (fun z => some (Value.int z)) (Eq.symm (if_neg q))⟩
set_option maxRecDepth 65536 in
set_option maxHeartbeats 40000000 in
theorem c_ce (l : Launch) (Z : State) (a0 : Array Value) (hw : ∀ d ∈ tables_1, d.before a0 Z = true) (n0 : Nat) (h0 : Heap) (o e1 e2 : Int64) :
    Con l Z n0 M_ce ({ frames := 1, cells := 0, slots := 0, locals := 14 } : Room) #[(.long o), (.long e1), (.long e2)] h0 (fun v h => h0 = h ∧ v = some (.int (ceF o e1 e2))) := by
  refine con_intro pl_ce #[.val (.long o), .second, .val (.long e1), .second, .val (.long e2), .second] (fun m => by first | (simp [entryFrame, mkF, argsToLocals, Value.category, maxLocals]; done) | rfl) (fun Zs_h0 => ?_)
  refine g_lload_n 1 dce_0 rfl rfl ?_
  refine g_lload_n 2 dce_1 rfl rfl ?_
  refine g_land 3 dce_2 rfl ?_
  refine g_lload 5 dce_3 rfl rfl ?_
  refine g_land 6 dce_5 rfl ?_
  refine g_callS 9 (N := M_nz) [(.long (((o &&& e1)) &&& e2))] [] dce_6 (wd hw 10 rfl) (wd hw 11 rfl) (wd hw 8 rfl) (wd hw 12 rfl) (by decide) (c_nz l Z a0 hw n0 h0 ((((o &&& e1)) &&& e2))) rfl pd_nz rfl rfl (Nat.le_of_ble_eq_true rfl) (Nat.le_of_ble_eq_true rfl) (Nat.le_of_ble_eq_true rfl) (Nat.le_of_ble_eq_true rfl) rfl ?_
  rintro v _ ⟨rfl, rfl⟩
  show Go _ _ _ _ _ _ _ _ _ 9 #[.val (.long o), .second, .val (.long e1), .second, .val (.long e2), .second] [(.int (nzF ((((o &&& e1)) &&& e2))))]
  refine g_lload_n 10 dce_9 rfl rfl ?_
  refine g_lload_n 11 dce_10 rfl rfl ?_
  refine g_land 12 dce_11 rfl ?_
  refine g_lload 14 dce_12 rfl rfl ?_
  refine g_ldc2J (w := -1) 17 dce_14 (wd hw 0 rfl) rfl ?_
  refine g_lxor 18 dce_17 rfl ?_
  refine g_land 19 dce_18 rfl ?_
  refine g_callS 22 (N := M_nz) [(.long (((o &&& e1)) &&& ((e2 ^^^ ((-1 : Int64))))))] [(.int (nzF ((((o &&& e1)) &&& e2))))] dce_19 (wd hw 10 rfl) (wd hw 11 rfl) (wd hw 8 rfl) (wd hw 12 rfl) (by decide) (c_nz l Z a0 hw n0 h0 ((((o &&& e1)) &&& ((e2 ^^^ ((-1 : Int64))))))) rfl pd_nz rfl rfl (Nat.le_of_ble_eq_true rfl) (Nat.le_of_ble_eq_true rfl) (Nat.le_of_ble_eq_true rfl) (Nat.le_of_ble_eq_true rfl) rfl ?_
  rintro v _ ⟨rfl, rfl⟩
  show Go _ _ _ _ _ _ _ _ _ 22 #[.val (.long o), .second, .val (.long e1), .second, .val (.long e2), .second] [(.int (nzF ((((o &&& e1)) &&& ((e2 ^^^ ((-1 : Int64)))))))), (.int (nzF ((((o &&& e1)) &&& e2))))]
  refine g_iadd 23 dce_22 rfl ?_
  refine g_lload_n 24 dce_23 rfl rfl ?_
  refine g_lload_n 25 dce_24 rfl rfl ?_
  refine g_ldc2J (w := -1) 28 dce_25 (wd hw 0 rfl) rfl ?_
  refine g_lxor 29 dce_28 rfl ?_
  refine g_land 30 dce_29 rfl ?_
  refine g_lload 32 dce_30 rfl rfl ?_
  refine g_land 33 dce_32 rfl ?_
  refine g_callS 36 (N := M_nz) [(.long (((o &&& ((e1 ^^^ ((-1 : Int64)))))) &&& e2))] [(.int (((nzF ((((o &&& e1)) &&& e2)))) + ((nzF ((((o &&& e1)) &&& ((e2 ^^^ ((-1 : Int64))))))))))] dce_33 (wd hw 10 rfl) (wd hw 11 rfl) (wd hw 8 rfl) (wd hw 12 rfl) (by decide) (c_nz l Z a0 hw n0 h0 ((((o &&& ((e1 ^^^ ((-1 : Int64)))))) &&& e2))) rfl pd_nz rfl rfl (Nat.le_of_ble_eq_true rfl) (Nat.le_of_ble_eq_true rfl) (Nat.le_of_ble_eq_true rfl) (Nat.le_of_ble_eq_true rfl) rfl ?_
  rintro v _ ⟨rfl, rfl⟩
  show Go _ _ _ _ _ _ _ _ _ 36 #[.val (.long o), .second, .val (.long e1), .second, .val (.long e2), .second] [(.int (nzF ((((o &&& ((e1 ^^^ ((-1 : Int64)))))) &&& e2)))), (.int (((nzF ((((o &&& e1)) &&& e2)))) + ((nzF ((((o &&& e1)) &&& ((e2 ^^^ ((-1 : Int64))))))))))]
  refine g_iadd 37 dce_36 rfl ?_
  refine g_lload_n 38 dce_37 rfl rfl ?_
  refine g_lload_n 39 dce_38 rfl rfl ?_
  refine g_ldc2J (w := -1) 42 dce_39 (wd hw 0 rfl) rfl ?_
  refine g_lxor 43 dce_42 rfl ?_
  refine g_land 44 dce_43 rfl ?_
  refine g_lload 46 dce_44 rfl rfl ?_
  refine g_ldc2J (w := -1) 49 dce_46 (wd hw 0 rfl) rfl ?_
  refine g_lxor 50 dce_49 rfl ?_
  refine g_land 51 dce_50 rfl ?_
  refine g_callS 54 (N := M_nz) [(.long (((o &&& ((e1 ^^^ ((-1 : Int64)))))) &&& ((e2 ^^^ ((-1 : Int64))))))] [(.int (((((nzF ((((o &&& e1)) &&& e2)))) + ((nzF ((((o &&& e1)) &&& ((e2 ^^^ ((-1 : Int64)))))))))) + ((nzF ((((o &&& ((e1 ^^^ ((-1 : Int64)))))) &&& e2))))))] dce_51 (wd hw 10 rfl) (wd hw 11 rfl) (wd hw 8 rfl) (wd hw 12 rfl) (by decide) (c_nz l Z a0 hw n0 h0 ((((o &&& ((e1 ^^^ ((-1 : Int64)))))) &&& ((e2 ^^^ ((-1 : Int64))))))) rfl pd_nz rfl rfl (Nat.le_of_ble_eq_true rfl) (Nat.le_of_ble_eq_true rfl) (Nat.le_of_ble_eq_true rfl) (Nat.le_of_ble_eq_true rfl) rfl ?_
  rintro v _ ⟨rfl, rfl⟩
  show Go _ _ _ _ _ _ _ _ _ 54 #[.val (.long o), .second, .val (.long e1), .second, .val (.long e2), .second] [(.int (nzF ((((o &&& ((e1 ^^^ ((-1 : Int64)))))) &&& ((e2 ^^^ ((-1 : Int64)))))))), (.int (((((nzF ((((o &&& e1)) &&& e2)))) + ((nzF ((((o &&& e1)) &&& ((e2 ^^^ ((-1 : Int64)))))))))) + ((nzF ((((o &&& ((e1 ^^^ ((-1 : Int64)))))) &&& e2))))))]
  refine g_iadd 55 dce_54 rfl ?_
  refine g_retI dce_55 rfl (Nat.le_of_ble_eq_true rfl) (Nat.le_of_ble_eq_true rfl) ?_
  exact ⟨rfl, rfl⟩
set_option maxRecDepth 65536 in
set_option maxHeartbeats 40000000 in
theorem c_at (l : Launch) (Z : State) (a0 : Array Value) (hw : ∀ d ∈ tables_1, d.before a0 Z = true) (n0 : Nat) (h0 : Heap) (aA : Nat) (i : Nat) (B pd : List Int64) (hi : i < 2147483648) (hB : B.length < 2147483648) (A : AryJ Z h0 aA (B ++ pd)) :
    Con l Z n0 M_at ({ frames := 0, cells := 0, slots := 0, locals := 0 } : Room) #[(.ref aA), (.int (Int32.ofNat i)), (.int (Int32.ofNat B.length))] h0 (fun v h => h0 = h ∧ v = some (.long (B.getD i 0))) := by
  refine con_intro pl_at #[.val (.ref aA), .val (.int (Int32.ofNat i)), .val (.int (Int32.ofNat B.length))] (fun m => by first | (simp [entryFrame, mkF, argsToLocals, Value.category, maxLocals]; done) | rfl) (fun Zs_h0 => ?_)
  refine g_iload_n 1 dat_0 rfl rfl ?_
  refine g_iload_n 2 dat_1 rfl rfl ?_
  refine g_icmp 7 5 dat_2 rfl rfl (fun q => ?_) (fun q => ?_)
  · have g : i < B.length := (own_lt (by omega) (by omega)).mp q
    refine g_aload_n 8 dat_7 rfl rfl rfl ?_
    refine g_iload_n 9 dat_8 rfl rfl ?_
    refine g_ldJ (x := (B.getD i 0)) 10 i dat_9 A (own_ti (by omega)) (own_ga g) rfl ?_
    refine g_retJ dat_10 rfl (Nat.le_of_ble_eq_true rfl) (Nat.le_of_ble_eq_true rfl) ?_
    exact ⟨rfl, rfl⟩
  · have g : ¬ i < B.length := fun z => q ((own_lt (by omega) (by omega)).mpr z)
    refine g_lconst 6 (0 : Int64) dat_5 rfl rfl ?_
    refine g_retJ dat_6 rfl (Nat.le_of_ble_eq_true rfl) (Nat.le_of_ble_eq_true rfl) ?_
    exact ⟨rfl, congrArg (fun z => some (Value.long z)) (own_gz g).symm⟩
set_option maxRecDepth 65536 in
set_option maxHeartbeats 40000000 in
theorem c_gd (l : Launch) (Z : State) (a0 : Array Value) (hw : ∀ d ∈ tables_1, d.before a0 Z = true) (n0 : Nat) (h0 : Heap) (aA : Nat) (i : Nat) (B pd : List Int64) (hi : i < 2147483648) (hB : B.length < 2147483648) (A : AryJ Z h0 aA (B ++ pd)) (x0 x1 e1 e2 : Int64) (hg : ∀ t ∈ B, GoodT t x0 x1 e1 e2) :
    Con l Z n0 M_gd ({ frames := 0, cells := 0, slots := 0, locals := 0 } : Room) #[(.ref aA), (.int (Int32.ofNat i)), (.int (Int32.ofNat B.length)), (.long x0), (.long x1), (.long e1), (.long e2)] h0 (fun v h => h0 = h ∧ v = some (.int 1)) := by
  refine con_intro pl_gd #[.val (.ref aA), .val (.int (Int32.ofNat i)), .val (.int (Int32.ofNat B.length)), .val (.long x0), .second, .val (.long x1), .second, .val (.long e1), .second, .val (.long e2), .second, .unset, .unset, .unset, .unset, .unset, .unset, .unset, .unset] (fun m => by first | (simp [entryFrame, mkF, argsToLocals, Value.category, maxLocals]; done) | rfl) (fun Zs_h0 => ?_)
  refine g_iload_n 1 dgd_0 rfl rfl ?_
  refine g_iload_n 2 dgd_1 rfl rfl ?_
  refine g_icmp 7 5 dgd_2 rfl rfl (fun q => ?_) (fun q => ?_)
  · have g : i < B.length := (own_lt (by omega) (by omega)).mp q
    obtain ⟨t, ht, hG⟩ := own_gt (pd := pd) g hg
    refine g_aload_n 8 dgd_7 rfl rfl rfl ?_
    refine g_iload_n 9 dgd_8 rfl rfl ?_
    refine g_ldJ (x := t) 10 i dgd_9 A (own_ti (by omega)) ht rfl ?_
    refine g_lstore 12 #[.val (.ref aA), .val (.int (Int32.ofNat i)), .val (.int (Int32.ofNat B.length)), .val (.long x0), .second, .val (.long x1), .second, .val (.long e1), .second, .val (.long e2), .second, .val (.long t), .second, .unset, .unset, .unset, .unset, .unset, .unset] dgd_10 rfl rfl ?_
    refine g_lload 14 dgd_12 rfl rfl ?_
    refine g_lconst 15 (0 : Int64) dgd_14 rfl rfl ?_
    refine g_lcmpT 21 dgd_15 dgd_16 hG.1 rfl ?_
    refine g_lload 23 dgd_21 rfl rfl ?_
    refine g_lload_n 24 dgd_23 rfl rfl ?_
    refine g_land 25 dgd_24 rfl ?_
    refine g_lconst 26 (0 : Int64) dgd_25 rfl rfl ?_
    refine g_lcmp 36 30 dgd_26 dgd_27 rfl rfl (fun q1 => ?_) (fun q1 => ?_)
    · refine g_lload 38 dgd_36 rfl rfl ?_
      refine g_lload 40 dgd_38 rfl rfl ?_
      refine g_land 41 dgd_40 rfl ?_
      refine g_lconst 42 (0 : Int64) dgd_41 rfl rfl ?_
      refine g_lcmp 53 46 dgd_42 dgd_43 rfl rfl (fun q2 => ?_) (fun q2 => ?_)
      · refine g_lload_n 54 dgd_53 rfl rfl ?_
        refine g_lload 56 dgd_54 rfl rfl ?_
        refine g_lor 57 dgd_56 rfl ?_
        refine g_ldc2J (w := -1) 60 dgd_57 (wd hw 0 rfl) rfl ?_
        refine g_lxor 61 dgd_60 rfl ?_
        refine g_lstore 63 #[.val (.ref aA), .val (.int (Int32.ofNat i)), .val (.int (Int32.ofNat B.length)), .val (.long x0), .second, .val (.long x1), .second, .val (.long e1), .second, .val (.long e2), .second, .val (.long t), .second, .val (.long (((x0 ||| x1)) ^^^ ((-1 : Int64)))), .second, .unset, .unset, .unset, .unset] dgd_61 rfl rfl ?_
        refine g_lload 65 dgd_63 rfl rfl ?_
        refine g_lload 67 dgd_65 rfl rfl ?_
        refine g_land 68 dgd_67 rfl ?_
        refine g_lconst 69 (0 : Int64) dgd_68 rfl rfl ?_
        refine g_lcmp 78 73 dgd_69 dgd_70 rfl rfl (fun q3 => ?_) (fun q3 => ?_)
        · refine g_lload 80 dgd_78 rfl rfl ?_
          refine g_ldc2J (w := -1) 83 dgd_80 (wd hw 0 rfl) rfl ?_
          refine g_lxor 84 dgd_83 rfl ?_
          refine g_lstore 86 #[.val (.ref aA), .val (.int (Int32.ofNat i)), .val (.int (Int32.ofNat B.length)), .val (.long x0), .second, .val (.long x1), .second, .val (.long e1), .second, .val (.long e2), .second, .val (.long t), .second, .val (.long (((x0 ||| x1)) ^^^ ((-1 : Int64)))), .second, .val (.long (e1 ^^^ ((-1 : Int64)))), .second, .unset, .unset] dgd_84 rfl rfl ?_
          refine g_lload 88 dgd_86 rfl rfl ?_
          refine g_lload 90 dgd_88 rfl rfl ?_
          refine g_land 91 dgd_90 rfl ?_
          refine g_lconst 92 (0 : Int64) dgd_91 rfl rfl ?_
          refine g_lcmp 101 96 dgd_92 dgd_93 rfl rfl (fun q4 => ?_) (fun q4 => ?_)
          · refine g_lload 103 dgd_101 rfl rfl ?_
            refine g_ldc2J (w := -1) 106 dgd_103 (wd hw 0 rfl) rfl ?_
            refine g_lxor 107 dgd_106 rfl ?_
            refine g_lstore 109 #[.val (.ref aA), .val (.int (Int32.ofNat i)), .val (.int (Int32.ofNat B.length)), .val (.long x0), .second, .val (.long x1), .second, .val (.long e1), .second, .val (.long e2), .second, .val (.long t), .second, .val (.long (((x0 ||| x1)) ^^^ ((-1 : Int64)))), .second, .val (.long (e1 ^^^ ((-1 : Int64)))), .second, .val (.long (e2 ^^^ ((-1 : Int64)))), .second] dgd_107 rfl rfl ?_
            refine g_lload 111 dgd_109 rfl rfl ?_
            refine g_lload 113 dgd_111 rfl rfl ?_
            refine g_lload 115 dgd_113 rfl rfl ?_
            refine g_land 116 dgd_115 rfl ?_
            refine g_lload 118 dgd_116 rfl rfl ?_
            refine g_land 119 dgd_118 rfl ?_
            refine g_lcmpF 123 dgd_119 dgd_120 (fun z => z (hG.2.trans (by rw [gO_2 (t := t) (x0 := x0) (x1 := x1) q1 q2, gC_1 (t := t) (e := e1) q3, gC_1 (t := t) (e := e2) q4]))) rfl ?_
            refine g_iconst 124 (1 : Int32) dgd_123 rfl rfl ?_
            refine g_goto 128 dgd_124 rfl ?_
            refine g_retZ dgd_128 rfl rfl (Nat.le_of_ble_eq_true rfl) (Nat.le_of_ble_eq_true rfl) ?_
            exact ⟨rfl, rfl⟩
          · refine g_lload 98 dgd_96 rfl rfl ?_
            refine g_goto 107 dgd_98 rfl ?_
            refine g_lstore 109 #[.val (.ref aA), .val (.int (Int32.ofNat i)), .val (.int (Int32.ofNat B.length)), .val (.long x0), .second, .val (.long x1), .second, .val (.long e1), .second, .val (.long e2), .second, .val (.long t), .second, .val (.long (((x0 ||| x1)) ^^^ ((-1 : Int64)))), .second, .val (.long (e1 ^^^ ((-1 : Int64)))), .second, .val (.long e2), .second] dgd_107 rfl rfl ?_
            refine g_lload 111 dgd_109 rfl rfl ?_
            refine g_lload 113 dgd_111 rfl rfl ?_
            refine g_lload 115 dgd_113 rfl rfl ?_
            refine g_land 116 dgd_115 rfl ?_
            refine g_lload 118 dgd_116 rfl rfl ?_
            refine g_land 119 dgd_118 rfl ?_
            refine g_lcmpF 123 dgd_119 dgd_120 (fun z => z (hG.2.trans (by rw [gO_2 (t := t) (x0 := x0) (x1 := x1) q1 q2, gC_1 (t := t) (e := e1) q3, gC_0 (t := t) (e := e2) q4]))) rfl ?_
            refine g_iconst 124 (1 : Int32) dgd_123 rfl rfl ?_
            refine g_goto 128 dgd_124 rfl ?_
            refine g_retZ dgd_128 rfl rfl (Nat.le_of_ble_eq_true rfl) (Nat.le_of_ble_eq_true rfl) ?_
            exact ⟨rfl, rfl⟩
        · refine g_lload 75 dgd_73 rfl rfl ?_
          refine g_goto 84 dgd_75 rfl ?_
          refine g_lstore 86 #[.val (.ref aA), .val (.int (Int32.ofNat i)), .val (.int (Int32.ofNat B.length)), .val (.long x0), .second, .val (.long x1), .second, .val (.long e1), .second, .val (.long e2), .second, .val (.long t), .second, .val (.long (((x0 ||| x1)) ^^^ ((-1 : Int64)))), .second, .val (.long e1), .second, .unset, .unset] dgd_84 rfl rfl ?_
          refine g_lload 88 dgd_86 rfl rfl ?_
          refine g_lload 90 dgd_88 rfl rfl ?_
          refine g_land 91 dgd_90 rfl ?_
          refine g_lconst 92 (0 : Int64) dgd_91 rfl rfl ?_
          refine g_lcmp 101 96 dgd_92 dgd_93 rfl rfl (fun q4 => ?_) (fun q4 => ?_)
          · refine g_lload 103 dgd_101 rfl rfl ?_
            refine g_ldc2J (w := -1) 106 dgd_103 (wd hw 0 rfl) rfl ?_
            refine g_lxor 107 dgd_106 rfl ?_
            refine g_lstore 109 #[.val (.ref aA), .val (.int (Int32.ofNat i)), .val (.int (Int32.ofNat B.length)), .val (.long x0), .second, .val (.long x1), .second, .val (.long e1), .second, .val (.long e2), .second, .val (.long t), .second, .val (.long (((x0 ||| x1)) ^^^ ((-1 : Int64)))), .second, .val (.long e1), .second, .val (.long (e2 ^^^ ((-1 : Int64)))), .second] dgd_107 rfl rfl ?_
            refine g_lload 111 dgd_109 rfl rfl ?_
            refine g_lload 113 dgd_111 rfl rfl ?_
            refine g_lload 115 dgd_113 rfl rfl ?_
            refine g_land 116 dgd_115 rfl ?_
            refine g_lload 118 dgd_116 rfl rfl ?_
            refine g_land 119 dgd_118 rfl ?_
            refine g_lcmpF 123 dgd_119 dgd_120 (fun z => z (hG.2.trans (by rw [gO_2 (t := t) (x0 := x0) (x1 := x1) q1 q2, gC_0 (t := t) (e := e1) q3, gC_1 (t := t) (e := e2) q4]))) rfl ?_
            refine g_iconst 124 (1 : Int32) dgd_123 rfl rfl ?_
            refine g_goto 128 dgd_124 rfl ?_
            refine g_retZ dgd_128 rfl rfl (Nat.le_of_ble_eq_true rfl) (Nat.le_of_ble_eq_true rfl) ?_
            exact ⟨rfl, rfl⟩
          · refine g_lload 98 dgd_96 rfl rfl ?_
            refine g_goto 107 dgd_98 rfl ?_
            refine g_lstore 109 #[.val (.ref aA), .val (.int (Int32.ofNat i)), .val (.int (Int32.ofNat B.length)), .val (.long x0), .second, .val (.long x1), .second, .val (.long e1), .second, .val (.long e2), .second, .val (.long t), .second, .val (.long (((x0 ||| x1)) ^^^ ((-1 : Int64)))), .second, .val (.long e1), .second, .val (.long e2), .second] dgd_107 rfl rfl ?_
            refine g_lload 111 dgd_109 rfl rfl ?_
            refine g_lload 113 dgd_111 rfl rfl ?_
            refine g_lload 115 dgd_113 rfl rfl ?_
            refine g_land 116 dgd_115 rfl ?_
            refine g_lload 118 dgd_116 rfl rfl ?_
            refine g_land 119 dgd_118 rfl ?_
            refine g_lcmpF 123 dgd_119 dgd_120 (fun z => z (hG.2.trans (by rw [gO_2 (t := t) (x0 := x0) (x1 := x1) q1 q2, gC_0 (t := t) (e := e1) q3, gC_0 (t := t) (e := e2) q4]))) rfl ?_
            refine g_iconst 124 (1 : Int32) dgd_123 rfl rfl ?_
            refine g_goto 128 dgd_124 rfl ?_
            refine g_retZ dgd_128 rfl rfl (Nat.le_of_ble_eq_true rfl) (Nat.le_of_ble_eq_true rfl) ?_
            exact ⟨rfl, rfl⟩
      · refine g_lload 48 dgd_46 rfl rfl ?_
        refine g_lstore 50 #[.val (.ref aA), .val (.int (Int32.ofNat i)), .val (.int (Int32.ofNat B.length)), .val (.long x0), .second, .val (.long x1), .second, .val (.long e1), .second, .val (.long e2), .second, .val (.long t), .second, .val (.long x1), .second, .unset, .unset, .unset, .unset] dgd_48 rfl rfl ?_
        refine g_goto 63 dgd_50 rfl ?_
        refine g_lload 65 dgd_63 rfl rfl ?_
        refine g_lload 67 dgd_65 rfl rfl ?_
        refine g_land 68 dgd_67 rfl ?_
        refine g_lconst 69 (0 : Int64) dgd_68 rfl rfl ?_
        refine g_lcmp 78 73 dgd_69 dgd_70 rfl rfl (fun q3 => ?_) (fun q3 => ?_)
        · refine g_lload 80 dgd_78 rfl rfl ?_
          refine g_ldc2J (w := -1) 83 dgd_80 (wd hw 0 rfl) rfl ?_
          refine g_lxor 84 dgd_83 rfl ?_
          refine g_lstore 86 #[.val (.ref aA), .val (.int (Int32.ofNat i)), .val (.int (Int32.ofNat B.length)), .val (.long x0), .second, .val (.long x1), .second, .val (.long e1), .second, .val (.long e2), .second, .val (.long t), .second, .val (.long x1), .second, .val (.long (e1 ^^^ ((-1 : Int64)))), .second, .unset, .unset] dgd_84 rfl rfl ?_
          refine g_lload 88 dgd_86 rfl rfl ?_
          refine g_lload 90 dgd_88 rfl rfl ?_
          refine g_land 91 dgd_90 rfl ?_
          refine g_lconst 92 (0 : Int64) dgd_91 rfl rfl ?_
          refine g_lcmp 101 96 dgd_92 dgd_93 rfl rfl (fun q4 => ?_) (fun q4 => ?_)
          · refine g_lload 103 dgd_101 rfl rfl ?_
            refine g_ldc2J (w := -1) 106 dgd_103 (wd hw 0 rfl) rfl ?_
            refine g_lxor 107 dgd_106 rfl ?_
            refine g_lstore 109 #[.val (.ref aA), .val (.int (Int32.ofNat i)), .val (.int (Int32.ofNat B.length)), .val (.long x0), .second, .val (.long x1), .second, .val (.long e1), .second, .val (.long e2), .second, .val (.long t), .second, .val (.long x1), .second, .val (.long (e1 ^^^ ((-1 : Int64)))), .second, .val (.long (e2 ^^^ ((-1 : Int64)))), .second] dgd_107 rfl rfl ?_
            refine g_lload 111 dgd_109 rfl rfl ?_
            refine g_lload 113 dgd_111 rfl rfl ?_
            refine g_lload 115 dgd_113 rfl rfl ?_
            refine g_land 116 dgd_115 rfl ?_
            refine g_lload 118 dgd_116 rfl rfl ?_
            refine g_land 119 dgd_118 rfl ?_
            refine g_lcmpF 123 dgd_119 dgd_120 (fun z => z (hG.2.trans (by rw [gO_1 (t := t) (x0 := x0) (x1 := x1) q1 q2, gC_1 (t := t) (e := e1) q3, gC_1 (t := t) (e := e2) q4]))) rfl ?_
            refine g_iconst 124 (1 : Int32) dgd_123 rfl rfl ?_
            refine g_goto 128 dgd_124 rfl ?_
            refine g_retZ dgd_128 rfl rfl (Nat.le_of_ble_eq_true rfl) (Nat.le_of_ble_eq_true rfl) ?_
            exact ⟨rfl, rfl⟩
          · refine g_lload 98 dgd_96 rfl rfl ?_
            refine g_goto 107 dgd_98 rfl ?_
            refine g_lstore 109 #[.val (.ref aA), .val (.int (Int32.ofNat i)), .val (.int (Int32.ofNat B.length)), .val (.long x0), .second, .val (.long x1), .second, .val (.long e1), .second, .val (.long e2), .second, .val (.long t), .second, .val (.long x1), .second, .val (.long (e1 ^^^ ((-1 : Int64)))), .second, .val (.long e2), .second] dgd_107 rfl rfl ?_
            refine g_lload 111 dgd_109 rfl rfl ?_
            refine g_lload 113 dgd_111 rfl rfl ?_
            refine g_lload 115 dgd_113 rfl rfl ?_
            refine g_land 116 dgd_115 rfl ?_
            refine g_lload 118 dgd_116 rfl rfl ?_
            refine g_land 119 dgd_118 rfl ?_
            refine g_lcmpF 123 dgd_119 dgd_120 (fun z => z (hG.2.trans (by rw [gO_1 (t := t) (x0 := x0) (x1 := x1) q1 q2, gC_1 (t := t) (e := e1) q3, gC_0 (t := t) (e := e2) q4]))) rfl ?_
            refine g_iconst 124 (1 : Int32) dgd_123 rfl rfl ?_
            refine g_goto 128 dgd_124 rfl ?_
            refine g_retZ dgd_128 rfl rfl (Nat.le_of_ble_eq_true rfl) (Nat.le_of_ble_eq_true rfl) ?_
            exact ⟨rfl, rfl⟩
        · refine g_lload 75 dgd_73 rfl rfl ?_
          refine g_goto 84 dgd_75 rfl ?_
          refine g_lstore 86 #[.val (.ref aA), .val (.int (Int32.ofNat i)), .val (.int (Int32.ofNat B.length)), .val (.long x0), .second, .val (.long x1), .second, .val (.long e1), .second, .val (.long e2), .second, .val (.long t), .second, .val (.long x1), .second, .val (.long e1), .second, .unset, .unset] dgd_84 rfl rfl ?_
          refine g_lload 88 dgd_86 rfl rfl ?_
          refine g_lload 90 dgd_88 rfl rfl ?_
          refine g_land 91 dgd_90 rfl ?_
          refine g_lconst 92 (0 : Int64) dgd_91 rfl rfl ?_
          refine g_lcmp 101 96 dgd_92 dgd_93 rfl rfl (fun q4 => ?_) (fun q4 => ?_)
          · refine g_lload 103 dgd_101 rfl rfl ?_
            refine g_ldc2J (w := -1) 106 dgd_103 (wd hw 0 rfl) rfl ?_
            refine g_lxor 107 dgd_106 rfl ?_
            refine g_lstore 109 #[.val (.ref aA), .val (.int (Int32.ofNat i)), .val (.int (Int32.ofNat B.length)), .val (.long x0), .second, .val (.long x1), .second, .val (.long e1), .second, .val (.long e2), .second, .val (.long t), .second, .val (.long x1), .second, .val (.long e1), .second, .val (.long (e2 ^^^ ((-1 : Int64)))), .second] dgd_107 rfl rfl ?_
            refine g_lload 111 dgd_109 rfl rfl ?_
            refine g_lload 113 dgd_111 rfl rfl ?_
            refine g_lload 115 dgd_113 rfl rfl ?_
            refine g_land 116 dgd_115 rfl ?_
            refine g_lload 118 dgd_116 rfl rfl ?_
            refine g_land 119 dgd_118 rfl ?_
            refine g_lcmpF 123 dgd_119 dgd_120 (fun z => z (hG.2.trans (by rw [gO_1 (t := t) (x0 := x0) (x1 := x1) q1 q2, gC_0 (t := t) (e := e1) q3, gC_1 (t := t) (e := e2) q4]))) rfl ?_
            refine g_iconst 124 (1 : Int32) dgd_123 rfl rfl ?_
            refine g_goto 128 dgd_124 rfl ?_
            refine g_retZ dgd_128 rfl rfl (Nat.le_of_ble_eq_true rfl) (Nat.le_of_ble_eq_true rfl) ?_
            exact ⟨rfl, rfl⟩
          · refine g_lload 98 dgd_96 rfl rfl ?_
            refine g_goto 107 dgd_98 rfl ?_
            refine g_lstore 109 #[.val (.ref aA), .val (.int (Int32.ofNat i)), .val (.int (Int32.ofNat B.length)), .val (.long x0), .second, .val (.long x1), .second, .val (.long e1), .second, .val (.long e2), .second, .val (.long t), .second, .val (.long x1), .second, .val (.long e1), .second, .val (.long e2), .second] dgd_107 rfl rfl ?_
            refine g_lload 111 dgd_109 rfl rfl ?_
            refine g_lload 113 dgd_111 rfl rfl ?_
            refine g_lload 115 dgd_113 rfl rfl ?_
            refine g_land 116 dgd_115 rfl ?_
            refine g_lload 118 dgd_116 rfl rfl ?_
            refine g_land 119 dgd_118 rfl ?_
            refine g_lcmpF 123 dgd_119 dgd_120 (fun z => z (hG.2.trans (by rw [gO_1 (t := t) (x0 := x0) (x1 := x1) q1 q2, gC_0 (t := t) (e := e1) q3, gC_0 (t := t) (e := e2) q4]))) rfl ?_
            refine g_iconst 124 (1 : Int32) dgd_123 rfl rfl ?_
            refine g_goto 128 dgd_124 rfl ?_
            refine g_retZ dgd_128 rfl rfl (Nat.le_of_ble_eq_true rfl) (Nat.le_of_ble_eq_true rfl) ?_
            exact ⟨rfl, rfl⟩
    · refine g_lload_n 31 dgd_30 rfl rfl ?_
      refine g_lstore 33 #[.val (.ref aA), .val (.int (Int32.ofNat i)), .val (.int (Int32.ofNat B.length)), .val (.long x0), .second, .val (.long x1), .second, .val (.long e1), .second, .val (.long e2), .second, .val (.long t), .second, .val (.long x0), .second, .unset, .unset, .unset, .unset] dgd_31 rfl rfl ?_
      refine g_goto 63 dgd_33 rfl ?_
      refine g_lload 65 dgd_63 rfl rfl ?_
      refine g_lload 67 dgd_65 rfl rfl ?_
      refine g_land 68 dgd_67 rfl ?_
      refine g_lconst 69 (0 : Int64) dgd_68 rfl rfl ?_
      refine g_lcmp 78 73 dgd_69 dgd_70 rfl rfl (fun q3 => ?_) (fun q3 => ?_)
      · refine g_lload 80 dgd_78 rfl rfl ?_
        refine g_ldc2J (w := -1) 83 dgd_80 (wd hw 0 rfl) rfl ?_
        refine g_lxor 84 dgd_83 rfl ?_
        refine g_lstore 86 #[.val (.ref aA), .val (.int (Int32.ofNat i)), .val (.int (Int32.ofNat B.length)), .val (.long x0), .second, .val (.long x1), .second, .val (.long e1), .second, .val (.long e2), .second, .val (.long t), .second, .val (.long x0), .second, .val (.long (e1 ^^^ ((-1 : Int64)))), .second, .unset, .unset] dgd_84 rfl rfl ?_
        refine g_lload 88 dgd_86 rfl rfl ?_
        refine g_lload 90 dgd_88 rfl rfl ?_
        refine g_land 91 dgd_90 rfl ?_
        refine g_lconst 92 (0 : Int64) dgd_91 rfl rfl ?_
        refine g_lcmp 101 96 dgd_92 dgd_93 rfl rfl (fun q4 => ?_) (fun q4 => ?_)
        · refine g_lload 103 dgd_101 rfl rfl ?_
          refine g_ldc2J (w := -1) 106 dgd_103 (wd hw 0 rfl) rfl ?_
          refine g_lxor 107 dgd_106 rfl ?_
          refine g_lstore 109 #[.val (.ref aA), .val (.int (Int32.ofNat i)), .val (.int (Int32.ofNat B.length)), .val (.long x0), .second, .val (.long x1), .second, .val (.long e1), .second, .val (.long e2), .second, .val (.long t), .second, .val (.long x0), .second, .val (.long (e1 ^^^ ((-1 : Int64)))), .second, .val (.long (e2 ^^^ ((-1 : Int64)))), .second] dgd_107 rfl rfl ?_
          refine g_lload 111 dgd_109 rfl rfl ?_
          refine g_lload 113 dgd_111 rfl rfl ?_
          refine g_lload 115 dgd_113 rfl rfl ?_
          refine g_land 116 dgd_115 rfl ?_
          refine g_lload 118 dgd_116 rfl rfl ?_
          refine g_land 119 dgd_118 rfl ?_
          refine g_lcmpF 123 dgd_119 dgd_120 (fun z => z (hG.2.trans (by rw [gO_0 (t := t) (x0 := x0) (x1 := x1) q1, gC_1 (t := t) (e := e1) q3, gC_1 (t := t) (e := e2) q4]))) rfl ?_
          refine g_iconst 124 (1 : Int32) dgd_123 rfl rfl ?_
          refine g_goto 128 dgd_124 rfl ?_
          refine g_retZ dgd_128 rfl rfl (Nat.le_of_ble_eq_true rfl) (Nat.le_of_ble_eq_true rfl) ?_
          exact ⟨rfl, rfl⟩
        · refine g_lload 98 dgd_96 rfl rfl ?_
          refine g_goto 107 dgd_98 rfl ?_
          refine g_lstore 109 #[.val (.ref aA), .val (.int (Int32.ofNat i)), .val (.int (Int32.ofNat B.length)), .val (.long x0), .second, .val (.long x1), .second, .val (.long e1), .second, .val (.long e2), .second, .val (.long t), .second, .val (.long x0), .second, .val (.long (e1 ^^^ ((-1 : Int64)))), .second, .val (.long e2), .second] dgd_107 rfl rfl ?_
          refine g_lload 111 dgd_109 rfl rfl ?_
          refine g_lload 113 dgd_111 rfl rfl ?_
          refine g_lload 115 dgd_113 rfl rfl ?_
          refine g_land 116 dgd_115 rfl ?_
          refine g_lload 118 dgd_116 rfl rfl ?_
          refine g_land 119 dgd_118 rfl ?_
          refine g_lcmpF 123 dgd_119 dgd_120 (fun z => z (hG.2.trans (by rw [gO_0 (t := t) (x0 := x0) (x1 := x1) q1, gC_1 (t := t) (e := e1) q3, gC_0 (t := t) (e := e2) q4]))) rfl ?_
          refine g_iconst 124 (1 : Int32) dgd_123 rfl rfl ?_
          refine g_goto 128 dgd_124 rfl ?_
          refine g_retZ dgd_128 rfl rfl (Nat.le_of_ble_eq_true rfl) (Nat.le_of_ble_eq_true rfl) ?_
          exact ⟨rfl, rfl⟩
      · refine g_lload 75 dgd_73 rfl rfl ?_
        refine g_goto 84 dgd_75 rfl ?_
        refine g_lstore 86 #[.val (.ref aA), .val (.int (Int32.ofNat i)), .val (.int (Int32.ofNat B.length)), .val (.long x0), .second, .val (.long x1), .second, .val (.long e1), .second, .val (.long e2), .second, .val (.long t), .second, .val (.long x0), .second, .val (.long e1), .second, .unset, .unset] dgd_84 rfl rfl ?_
        refine g_lload 88 dgd_86 rfl rfl ?_
        refine g_lload 90 dgd_88 rfl rfl ?_
        refine g_land 91 dgd_90 rfl ?_
        refine g_lconst 92 (0 : Int64) dgd_91 rfl rfl ?_
        refine g_lcmp 101 96 dgd_92 dgd_93 rfl rfl (fun q4 => ?_) (fun q4 => ?_)
        · refine g_lload 103 dgd_101 rfl rfl ?_
          refine g_ldc2J (w := -1) 106 dgd_103 (wd hw 0 rfl) rfl ?_
          refine g_lxor 107 dgd_106 rfl ?_
          refine g_lstore 109 #[.val (.ref aA), .val (.int (Int32.ofNat i)), .val (.int (Int32.ofNat B.length)), .val (.long x0), .second, .val (.long x1), .second, .val (.long e1), .second, .val (.long e2), .second, .val (.long t), .second, .val (.long x0), .second, .val (.long e1), .second, .val (.long (e2 ^^^ ((-1 : Int64)))), .second] dgd_107 rfl rfl ?_
          refine g_lload 111 dgd_109 rfl rfl ?_
          refine g_lload 113 dgd_111 rfl rfl ?_
          refine g_lload 115 dgd_113 rfl rfl ?_
          refine g_land 116 dgd_115 rfl ?_
          refine g_lload 118 dgd_116 rfl rfl ?_
          refine g_land 119 dgd_118 rfl ?_
          refine g_lcmpF 123 dgd_119 dgd_120 (fun z => z (hG.2.trans (by rw [gO_0 (t := t) (x0 := x0) (x1 := x1) q1, gC_0 (t := t) (e := e1) q3, gC_1 (t := t) (e := e2) q4]))) rfl ?_
          refine g_iconst 124 (1 : Int32) dgd_123 rfl rfl ?_
          refine g_goto 128 dgd_124 rfl ?_
          refine g_retZ dgd_128 rfl rfl (Nat.le_of_ble_eq_true rfl) (Nat.le_of_ble_eq_true rfl) ?_
          exact ⟨rfl, rfl⟩
        · refine g_lload 98 dgd_96 rfl rfl ?_
          refine g_goto 107 dgd_98 rfl ?_
          refine g_lstore 109 #[.val (.ref aA), .val (.int (Int32.ofNat i)), .val (.int (Int32.ofNat B.length)), .val (.long x0), .second, .val (.long x1), .second, .val (.long e1), .second, .val (.long e2), .second, .val (.long t), .second, .val (.long x0), .second, .val (.long e1), .second, .val (.long e2), .second] dgd_107 rfl rfl ?_
          refine g_lload 111 dgd_109 rfl rfl ?_
          refine g_lload 113 dgd_111 rfl rfl ?_
          refine g_lload 115 dgd_113 rfl rfl ?_
          refine g_land 116 dgd_115 rfl ?_
          refine g_lload 118 dgd_116 rfl rfl ?_
          refine g_land 119 dgd_118 rfl ?_
          refine g_lcmpF 123 dgd_119 dgd_120 (fun z => z (hG.2.trans (by rw [gO_0 (t := t) (x0 := x0) (x1 := x1) q1, gC_0 (t := t) (e := e1) q3, gC_0 (t := t) (e := e2) q4]))) rfl ?_
          refine g_iconst 124 (1 : Int32) dgd_123 rfl rfl ?_
          refine g_goto 128 dgd_124 rfl ?_
          refine g_retZ dgd_128 rfl rfl (Nat.le_of_ble_eq_true rfl) (Nat.le_of_ble_eq_true rfl) ?_
          exact ⟨rfl, rfl⟩
  · refine g_iconst 6 (1 : Int32) dgd_5 rfl rfl ?_
    refine g_retZ dgd_6 rfl rfl (Nat.le_of_ble_eq_true rfl) (Nat.le_of_ble_eq_true rfl) ?_
    exact ⟨rfl, rfl⟩
set_option maxRecDepth 65536 in
set_option maxHeartbeats 40000000 in
theorem k692 (l : Launch) (Z : State) (a0 : Array Value) (hw : ∀ d ∈ tables_1, d.before a0 Z = true) (n0 : Nat) (h0 : Heap) (kc ks : Nat) (hkc : kc ≤ room_1.cells) (hks : ks ≤ room_1.slots) (p q s1 s2 : Int64) (md : Int32) (kn cn cap : Nat) (a1 : Int64) (aA aS : Nat) (hkn : kn ≤ 2) (hcn : cn ≤ 2) (hcap : cap ≤ 11) (x0 x1 e1 e2 : Int64) (ex : Int32) (B pd : List Int64) (hB : B.length ≤ 11) (A : AryJ Z h0 aA (B ++ pd)) (hg : ∀ t ∈ B, GoodT t x0 x1 e1 e2) (hU : B.foldl (· ||| ·) 0 = x0 ||| x1 ||| e1 ||| e2) (h1 : 1 ≤ kn → 1 ≤ B.length ∧ B.getD 0 0 &&& (p ^^^ (-1)) = 0) (h2 : 2 ≤ kn → 2 ≤ B.length ∧ B.getD 1 0 &&& (a1 ^^^ (-1)) = 0) (uu1 : Int64) : Go l Z n0 M_law room_1 (fun v _ => v = some (.int 1)) h0 kc ks 692 #[.val (.long p), .second, .val (.long q), .second, .val (.long s1), .second, .val (.long s2), .second, .val (.int md), .val (.int (Int32.ofNat kn)), .val (.int (Int32.ofNat cn)), .val (.long p), .second, .val (.long a1), .second, .val (.int (Int32.ofNat cap)), .val (.ref aA), .val (.ref aS), .val (.int (Int32.ofNat B.length)), .val (.long x0), .second, .val (.long x1), .second, .val (.long ((x0 ||| x1) ^^^ (-1 : Int64))), .second, .val (.long e1), .second, .val (.long e2), .second, .val (.int ex), .val (.int (1 : Int32)), .val (.long uu1), .second] [] := by
  refine g_iload 694 at_692 rfl rfl ?_
  refine g_iconst 695 (2 : Int32) at_694 rfl rfl ?_
  refine g_icmp 726 698 at_695 rfl rfl (fun c2 => ?_) (fun c2 => ?_)
  · refine g_iload 728 at_726 rfl rfl ?_
    refine g_retZ at_728 rfl rfl (by first | exact hkc | exact hks) (by first | exact hkc | exact hks) ?_
    rfl
  · have g2 : 2 ≤ kn := by
      have := mt (own_lt (a := kn) (b := 2) (by omega) (by decide)).mpr c2
      omega
    refine g_iload 700 at_698 rfl rfl ?_
    refine g_ifF 703 at_700 (fun z => absurd (show (1 : Int32) = 0 from z) (by decide)) rfl ?_
    refine g_aload 705 at_703 rfl rfl rfl ?_
    refine g_iconst 706 (1 : Int32) at_705 rfl rfl ?_
    refine g_ldJ (x := (B.getD 1 0)) 707 1 at_706 A rfl (own_ga (h2 g2).1) rfl ?_
    refine g_lload 709 at_707 rfl rfl ?_
    refine g_ldc2J (w := -1) 712 at_709 (wd hw 0 rfl) rfl ?_
    refine g_lxor 713 at_712 rfl ?_
    refine g_land 714 at_713 rfl ?_
    refine g_lconst 715 (0 : Int64) at_714 rfl rfl ?_
    refine g_lcmpF 719 at_715 at_716 (fun z => z (h2 g2).2) rfl ?_
    refine g_iconst 720 (1 : Int32) at_719 rfl rfl ?_
    refine g_goto 724 at_720 rfl ?_
    refine g_istore 726 #[.val (.long p), .second, .val (.long q), .second, .val (.long s1), .second, .val (.long s2), .second, .val (.int md), .val (.int (Int32.ofNat kn)), .val (.int (Int32.ofNat cn)), .val (.long p), .second, .val (.long a1), .second, .val (.int (Int32.ofNat cap)), .val (.ref aA), .val (.ref aS), .val (.int (Int32.ofNat B.length)), .val (.long x0), .second, .val (.long x1), .second, .val (.long ((x0 ||| x1) ^^^ (-1 : Int64))), .second, .val (.long e1), .second, .val (.long e2), .second, .val (.int ex), .val (.int (1 : Int32)), .val (.long uu1), .second] at_724 rfl rfl ?_
    refine g_iload 728 at_726 rfl rfl ?_
    refine g_retZ at_728 rfl rfl (by first | exact hkc | exact hks) (by first | exact hkc | exact hks) ?_
    rfl
set_option maxRecDepth 65536 in
set_option maxHeartbeats 40000000 in
theorem k524 (l : Launch) (Z : State) (a0 : Array Value) (hw : ∀ d ∈ tables_1, d.before a0 Z = true) (n0 : Nat) (h0 : Heap) (kc ks : Nat) (hkc : kc ≤ room_1.cells) (hks : ks ≤ room_1.slots) (p q s1 s2 : Int64) (md : Int32) (kn cn cap : Nat) (a1 : Int64) (aA aS : Nat) (hkn : kn ≤ 2) (hcn : cn ≤ 2) (hcap : cap ≤ 11) (x0 x1 e1 e2 : Int64) (ex : Int32) (B pd : List Int64) (hB : B.length ≤ 11) (A : AryJ Z h0 aA (B ++ pd)) (hg : ∀ t ∈ B, GoodT t x0 x1 e1 e2) (hU : B.foldl (· ||| ·) 0 = x0 ||| x1 ||| e1 ||| e2) (h1 : 1 ≤ kn → 1 ≤ B.length ∧ B.getD 0 0 &&& (p ^^^ (-1)) = 0) (h2 : 2 ≤ kn → 2 ≤ B.length ∧ B.getD 1 0 &&& (a1 ^^^ (-1)) = 0) : Go l Z n0 M_law room_1 (fun v _ => v = some (.int 1)) h0 kc ks 524 #[.val (.long p), .second, .val (.long q), .second, .val (.long s1), .second, .val (.long s2), .second, .val (.int md), .val (.int (Int32.ofNat kn)), .val (.int (Int32.ofNat cn)), .val (.long p), .second, .val (.long a1), .second, .val (.int (Int32.ofNat cap)), .val (.ref aA), .val (.ref aS), .val (.int (Int32.ofNat B.length)), .val (.long x0), .second, .val (.long x1), .second, .val (.long ((x0 ||| x1) ^^^ (-1 : Int64))), .second, .val (.long e1), .second, .val (.long e2), .second, .val (.int ex), .val (.int (1 : Int32)), .unset, .unset] [] := by
  refine g_aload 526 at_524 rfl rfl rfl ?_
  refine g_iconst 527 (0 : Int32) at_526 rfl rfl ?_
  refine g_iload 529 at_527 rfl rfl ?_
  refine g_callS 532 (N := M_at) [(.ref aA), (.int (0 : Int32)), (.int (Int32.ofNat B.length))] [] at_529 (wd hw 16 rfl) (wd hw 17 rfl) (wd hw 8 rfl) (wd hw 18 rfl) (by decide) (c_at l Z a0 hw n0 h0 aA 0 B pd (by decide) (by omega) A) rfl pd_at rfl rfl (Nat.le_of_ble_eq_true rfl) (Nat.le_of_ble_eq_true rfl) hkc hks rfl ?_
  rintro v _ ⟨rfl, rfl⟩
  show Go _ _ _ _ _ _ _ _ _ 532 #[.val (.long p), .second, .val (.long q), .second, .val (.long s1), .second, .val (.long s2), .second, .val (.int md), .val (.int (Int32.ofNat kn)), .val (.int (Int32.ofNat cn)), .val (.long p), .second, .val (.long a1), .second, .val (.int (Int32.ofNat cap)), .val (.ref aA), .val (.ref aS), .val (.int (Int32.ofNat B.length)), .val (.long x0), .second, .val (.long x1), .second, .val (.long ((x0 ||| x1) ^^^ (-1 : Int64))), .second, .val (.long e1), .second, .val (.long e2), .second, .val (.int ex), .val (.int (1 : Int32)), .unset, .unset] [(.long (B.getD 0 0))]
  refine g_aload 534 at_532 rfl rfl rfl ?_
  refine g_iconst 535 (1 : Int32) at_534 rfl rfl ?_
  refine g_iload 537 at_535 rfl rfl ?_
  refine g_callS 540 (N := M_at) [(.ref aA), (.int (1 : Int32)), (.int (Int32.ofNat B.length))] [(.long (B.getD 0 0))] at_537 (wd hw 16 rfl) (wd hw 17 rfl) (wd hw 8 rfl) (wd hw 18 rfl) (by decide) (c_at l Z a0 hw n0 h0 aA 1 B pd (by decide) (by omega) A) rfl pd_at rfl rfl (Nat.le_of_ble_eq_true rfl) (Nat.le_of_ble_eq_true rfl) hkc hks rfl ?_
  rintro v _ ⟨rfl, rfl⟩
  show Go _ _ _ _ _ _ _ _ _ 540 #[.val (.long p), .second, .val (.long q), .second, .val (.long s1), .second, .val (.long s2), .second, .val (.int md), .val (.int (Int32.ofNat kn)), .val (.int (Int32.ofNat cn)), .val (.long p), .second, .val (.long a1), .second, .val (.int (Int32.ofNat cap)), .val (.ref aA), .val (.ref aS), .val (.int (Int32.ofNat B.length)), .val (.long x0), .second, .val (.long x1), .second, .val (.long ((x0 ||| x1) ^^^ (-1 : Int64))), .second, .val (.long e1), .second, .val (.long e2), .second, .val (.int ex), .val (.int (1 : Int32)), .unset, .unset] [(.long (B.getD 1 0)), (.long (B.getD 0 0))]
  refine g_lor 541 at_540 rfl ?_
  refine g_aload 543 at_541 rfl rfl rfl ?_
  refine g_iconst 544 (2 : Int32) at_543 rfl rfl ?_
  refine g_iload 546 at_544 rfl rfl ?_
  refine g_callS 549 (N := M_at) [(.ref aA), (.int (2 : Int32)), (.int (Int32.ofNat B.length))] [(.long (((B.getD 0 0)) ||| ((B.getD 1 0))))] at_546 (wd hw 16 rfl) (wd hw 17 rfl) (wd hw 8 rfl) (wd hw 18 rfl) (by decide) (c_at l Z a0 hw n0 h0 aA 2 B pd (by decide) (by omega) A) rfl pd_at rfl rfl (Nat.le_of_ble_eq_true rfl) (Nat.le_of_ble_eq_true rfl) hkc hks rfl ?_
  rintro v _ ⟨rfl, rfl⟩
  show Go _ _ _ _ _ _ _ _ _ 549 #[.val (.long p), .second, .val (.long q), .second, .val (.long s1), .second, .val (.long s2), .second, .val (.int md), .val (.int (Int32.ofNat kn)), .val (.int (Int32.ofNat cn)), .val (.long p), .second, .val (.long a1), .second, .val (.int (Int32.ofNat cap)), .val (.ref aA), .val (.ref aS), .val (.int (Int32.ofNat B.length)), .val (.long x0), .second, .val (.long x1), .second, .val (.long ((x0 ||| x1) ^^^ (-1 : Int64))), .second, .val (.long e1), .second, .val (.long e2), .second, .val (.int ex), .val (.int (1 : Int32)), .unset, .unset] [(.long (B.getD 2 0)), (.long (((B.getD 0 0)) ||| ((B.getD 1 0))))]
  refine g_lor 550 at_549 rfl ?_
  refine g_aload 552 at_550 rfl rfl rfl ?_
  refine g_iconst 553 (3 : Int32) at_552 rfl rfl ?_
  refine g_iload 555 at_553 rfl rfl ?_
  refine g_callS 558 (N := M_at) [(.ref aA), (.int (3 : Int32)), (.int (Int32.ofNat B.length))] [(.long (((((B.getD 0 0)) ||| ((B.getD 1 0)))) ||| ((B.getD 2 0))))] at_555 (wd hw 16 rfl) (wd hw 17 rfl) (wd hw 8 rfl) (wd hw 18 rfl) (by decide) (c_at l Z a0 hw n0 h0 aA 3 B pd (by decide) (by omega) A) rfl pd_at rfl rfl (Nat.le_of_ble_eq_true rfl) (Nat.le_of_ble_eq_true rfl) hkc hks rfl ?_
  rintro v _ ⟨rfl, rfl⟩
  show Go _ _ _ _ _ _ _ _ _ 558 #[.val (.long p), .second, .val (.long q), .second, .val (.long s1), .second, .val (.long s2), .second, .val (.int md), .val (.int (Int32.ofNat kn)), .val (.int (Int32.ofNat cn)), .val (.long p), .second, .val (.long a1), .second, .val (.int (Int32.ofNat cap)), .val (.ref aA), .val (.ref aS), .val (.int (Int32.ofNat B.length)), .val (.long x0), .second, .val (.long x1), .second, .val (.long ((x0 ||| x1) ^^^ (-1 : Int64))), .second, .val (.long e1), .second, .val (.long e2), .second, .val (.int ex), .val (.int (1 : Int32)), .unset, .unset] [(.long (B.getD 3 0)), (.long (((((B.getD 0 0)) ||| ((B.getD 1 0)))) ||| ((B.getD 2 0))))]
  refine g_lor 559 at_558 rfl ?_
  refine g_aload 561 at_559 rfl rfl rfl ?_
  refine g_iconst 562 (4 : Int32) at_561 rfl rfl ?_
  refine g_iload 564 at_562 rfl rfl ?_
  refine g_callS 567 (N := M_at) [(.ref aA), (.int (4 : Int32)), (.int (Int32.ofNat B.length))] [(.long (((((((B.getD 0 0)) ||| ((B.getD 1 0)))) ||| ((B.getD 2 0)))) ||| ((B.getD 3 0))))] at_564 (wd hw 16 rfl) (wd hw 17 rfl) (wd hw 8 rfl) (wd hw 18 rfl) (by decide) (c_at l Z a0 hw n0 h0 aA 4 B pd (by decide) (by omega) A) rfl pd_at rfl rfl (Nat.le_of_ble_eq_true rfl) (Nat.le_of_ble_eq_true rfl) hkc hks rfl ?_
  rintro v _ ⟨rfl, rfl⟩
  show Go _ _ _ _ _ _ _ _ _ 567 #[.val (.long p), .second, .val (.long q), .second, .val (.long s1), .second, .val (.long s2), .second, .val (.int md), .val (.int (Int32.ofNat kn)), .val (.int (Int32.ofNat cn)), .val (.long p), .second, .val (.long a1), .second, .val (.int (Int32.ofNat cap)), .val (.ref aA), .val (.ref aS), .val (.int (Int32.ofNat B.length)), .val (.long x0), .second, .val (.long x1), .second, .val (.long ((x0 ||| x1) ^^^ (-1 : Int64))), .second, .val (.long e1), .second, .val (.long e2), .second, .val (.int ex), .val (.int (1 : Int32)), .unset, .unset] [(.long (B.getD 4 0)), (.long (((((((B.getD 0 0)) ||| ((B.getD 1 0)))) ||| ((B.getD 2 0)))) ||| ((B.getD 3 0))))]
  refine g_lor 568 at_567 rfl ?_
  refine g_aload 570 at_568 rfl rfl rfl ?_
  refine g_iconst 571 (5 : Int32) at_570 rfl rfl ?_
  refine g_iload 573 at_571 rfl rfl ?_
  refine g_callS 576 (N := M_at) [(.ref aA), (.int (5 : Int32)), (.int (Int32.ofNat B.length))] [(.long (((((((((B.getD 0 0)) ||| ((B.getD 1 0)))) ||| ((B.getD 2 0)))) ||| ((B.getD 3 0)))) ||| ((B.getD 4 0))))] at_573 (wd hw 16 rfl) (wd hw 17 rfl) (wd hw 8 rfl) (wd hw 18 rfl) (by decide) (c_at l Z a0 hw n0 h0 aA 5 B pd (by decide) (by omega) A) rfl pd_at rfl rfl (Nat.le_of_ble_eq_true rfl) (Nat.le_of_ble_eq_true rfl) hkc hks rfl ?_
  rintro v _ ⟨rfl, rfl⟩
  show Go _ _ _ _ _ _ _ _ _ 576 #[.val (.long p), .second, .val (.long q), .second, .val (.long s1), .second, .val (.long s2), .second, .val (.int md), .val (.int (Int32.ofNat kn)), .val (.int (Int32.ofNat cn)), .val (.long p), .second, .val (.long a1), .second, .val (.int (Int32.ofNat cap)), .val (.ref aA), .val (.ref aS), .val (.int (Int32.ofNat B.length)), .val (.long x0), .second, .val (.long x1), .second, .val (.long ((x0 ||| x1) ^^^ (-1 : Int64))), .second, .val (.long e1), .second, .val (.long e2), .second, .val (.int ex), .val (.int (1 : Int32)), .unset, .unset] [(.long (B.getD 5 0)), (.long (((((((((B.getD 0 0)) ||| ((B.getD 1 0)))) ||| ((B.getD 2 0)))) ||| ((B.getD 3 0)))) ||| ((B.getD 4 0))))]
  refine g_lor 577 at_576 rfl ?_
  refine g_aload 579 at_577 rfl rfl rfl ?_
  refine g_bipush 581 (6 : Int32) at_579 rfl rfl ?_
  refine g_iload 583 at_581 rfl rfl ?_
  refine g_callS 586 (N := M_at) [(.ref aA), (.int (6 : Int32)), (.int (Int32.ofNat B.length))] [(.long (((((((((((B.getD 0 0)) ||| ((B.getD 1 0)))) ||| ((B.getD 2 0)))) ||| ((B.getD 3 0)))) ||| ((B.getD 4 0)))) ||| ((B.getD 5 0))))] at_583 (wd hw 16 rfl) (wd hw 17 rfl) (wd hw 8 rfl) (wd hw 18 rfl) (by decide) (c_at l Z a0 hw n0 h0 aA 6 B pd (by decide) (by omega) A) rfl pd_at rfl rfl (Nat.le_of_ble_eq_true rfl) (Nat.le_of_ble_eq_true rfl) hkc hks rfl ?_
  rintro v _ ⟨rfl, rfl⟩
  show Go _ _ _ _ _ _ _ _ _ 586 #[.val (.long p), .second, .val (.long q), .second, .val (.long s1), .second, .val (.long s2), .second, .val (.int md), .val (.int (Int32.ofNat kn)), .val (.int (Int32.ofNat cn)), .val (.long p), .second, .val (.long a1), .second, .val (.int (Int32.ofNat cap)), .val (.ref aA), .val (.ref aS), .val (.int (Int32.ofNat B.length)), .val (.long x0), .second, .val (.long x1), .second, .val (.long ((x0 ||| x1) ^^^ (-1 : Int64))), .second, .val (.long e1), .second, .val (.long e2), .second, .val (.int ex), .val (.int (1 : Int32)), .unset, .unset] [(.long (B.getD 6 0)), (.long (((((((((((B.getD 0 0)) ||| ((B.getD 1 0)))) ||| ((B.getD 2 0)))) ||| ((B.getD 3 0)))) ||| ((B.getD 4 0)))) ||| ((B.getD 5 0))))]
  refine g_lor 587 at_586 rfl ?_
  refine g_aload 589 at_587 rfl rfl rfl ?_
  refine g_bipush 591 (7 : Int32) at_589 rfl rfl ?_
  refine g_iload 593 at_591 rfl rfl ?_
  refine g_callS 596 (N := M_at) [(.ref aA), (.int (7 : Int32)), (.int (Int32.ofNat B.length))] [(.long (((((((((((((B.getD 0 0)) ||| ((B.getD 1 0)))) ||| ((B.getD 2 0)))) ||| ((B.getD 3 0)))) ||| ((B.getD 4 0)))) ||| ((B.getD 5 0)))) ||| ((B.getD 6 0))))] at_593 (wd hw 16 rfl) (wd hw 17 rfl) (wd hw 8 rfl) (wd hw 18 rfl) (by decide) (c_at l Z a0 hw n0 h0 aA 7 B pd (by decide) (by omega) A) rfl pd_at rfl rfl (Nat.le_of_ble_eq_true rfl) (Nat.le_of_ble_eq_true rfl) hkc hks rfl ?_
  rintro v _ ⟨rfl, rfl⟩
  show Go _ _ _ _ _ _ _ _ _ 596 #[.val (.long p), .second, .val (.long q), .second, .val (.long s1), .second, .val (.long s2), .second, .val (.int md), .val (.int (Int32.ofNat kn)), .val (.int (Int32.ofNat cn)), .val (.long p), .second, .val (.long a1), .second, .val (.int (Int32.ofNat cap)), .val (.ref aA), .val (.ref aS), .val (.int (Int32.ofNat B.length)), .val (.long x0), .second, .val (.long x1), .second, .val (.long ((x0 ||| x1) ^^^ (-1 : Int64))), .second, .val (.long e1), .second, .val (.long e2), .second, .val (.int ex), .val (.int (1 : Int32)), .unset, .unset] [(.long (B.getD 7 0)), (.long (((((((((((((B.getD 0 0)) ||| ((B.getD 1 0)))) ||| ((B.getD 2 0)))) ||| ((B.getD 3 0)))) ||| ((B.getD 4 0)))) ||| ((B.getD 5 0)))) ||| ((B.getD 6 0))))]
  refine g_lor 597 at_596 rfl ?_
  refine g_aload 599 at_597 rfl rfl rfl ?_
  refine g_bipush 601 (8 : Int32) at_599 rfl rfl ?_
  refine g_iload 603 at_601 rfl rfl ?_
  refine g_callS 606 (N := M_at) [(.ref aA), (.int (8 : Int32)), (.int (Int32.ofNat B.length))] [(.long (((((((((((((((B.getD 0 0)) ||| ((B.getD 1 0)))) ||| ((B.getD 2 0)))) ||| ((B.getD 3 0)))) ||| ((B.getD 4 0)))) ||| ((B.getD 5 0)))) ||| ((B.getD 6 0)))) ||| ((B.getD 7 0))))] at_603 (wd hw 16 rfl) (wd hw 17 rfl) (wd hw 8 rfl) (wd hw 18 rfl) (by decide) (c_at l Z a0 hw n0 h0 aA 8 B pd (by decide) (by omega) A) rfl pd_at rfl rfl (Nat.le_of_ble_eq_true rfl) (Nat.le_of_ble_eq_true rfl) hkc hks rfl ?_
  rintro v _ ⟨rfl, rfl⟩
  show Go _ _ _ _ _ _ _ _ _ 606 #[.val (.long p), .second, .val (.long q), .second, .val (.long s1), .second, .val (.long s2), .second, .val (.int md), .val (.int (Int32.ofNat kn)), .val (.int (Int32.ofNat cn)), .val (.long p), .second, .val (.long a1), .second, .val (.int (Int32.ofNat cap)), .val (.ref aA), .val (.ref aS), .val (.int (Int32.ofNat B.length)), .val (.long x0), .second, .val (.long x1), .second, .val (.long ((x0 ||| x1) ^^^ (-1 : Int64))), .second, .val (.long e1), .second, .val (.long e2), .second, .val (.int ex), .val (.int (1 : Int32)), .unset, .unset] [(.long (B.getD 8 0)), (.long (((((((((((((((B.getD 0 0)) ||| ((B.getD 1 0)))) ||| ((B.getD 2 0)))) ||| ((B.getD 3 0)))) ||| ((B.getD 4 0)))) ||| ((B.getD 5 0)))) ||| ((B.getD 6 0)))) ||| ((B.getD 7 0))))]
  refine g_lor 607 at_606 rfl ?_
  refine g_aload 609 at_607 rfl rfl rfl ?_
  refine g_bipush 611 (9 : Int32) at_609 rfl rfl ?_
  refine g_iload 613 at_611 rfl rfl ?_
  refine g_callS 616 (N := M_at) [(.ref aA), (.int (9 : Int32)), (.int (Int32.ofNat B.length))] [(.long (((((((((((((((((B.getD 0 0)) ||| ((B.getD 1 0)))) ||| ((B.getD 2 0)))) ||| ((B.getD 3 0)))) ||| ((B.getD 4 0)))) ||| ((B.getD 5 0)))) ||| ((B.getD 6 0)))) ||| ((B.getD 7 0)))) ||| ((B.getD 8 0))))] at_613 (wd hw 16 rfl) (wd hw 17 rfl) (wd hw 8 rfl) (wd hw 18 rfl) (by decide) (c_at l Z a0 hw n0 h0 aA 9 B pd (by decide) (by omega) A) rfl pd_at rfl rfl (Nat.le_of_ble_eq_true rfl) (Nat.le_of_ble_eq_true rfl) hkc hks rfl ?_
  rintro v _ ⟨rfl, rfl⟩
  show Go _ _ _ _ _ _ _ _ _ 616 #[.val (.long p), .second, .val (.long q), .second, .val (.long s1), .second, .val (.long s2), .second, .val (.int md), .val (.int (Int32.ofNat kn)), .val (.int (Int32.ofNat cn)), .val (.long p), .second, .val (.long a1), .second, .val (.int (Int32.ofNat cap)), .val (.ref aA), .val (.ref aS), .val (.int (Int32.ofNat B.length)), .val (.long x0), .second, .val (.long x1), .second, .val (.long ((x0 ||| x1) ^^^ (-1 : Int64))), .second, .val (.long e1), .second, .val (.long e2), .second, .val (.int ex), .val (.int (1 : Int32)), .unset, .unset] [(.long (B.getD 9 0)), (.long (((((((((((((((((B.getD 0 0)) ||| ((B.getD 1 0)))) ||| ((B.getD 2 0)))) ||| ((B.getD 3 0)))) ||| ((B.getD 4 0)))) ||| ((B.getD 5 0)))) ||| ((B.getD 6 0)))) ||| ((B.getD 7 0)))) ||| ((B.getD 8 0))))]
  refine g_lor 617 at_616 rfl ?_
  refine g_aload 619 at_617 rfl rfl rfl ?_
  refine g_bipush 621 (10 : Int32) at_619 rfl rfl ?_
  refine g_iload 623 at_621 rfl rfl ?_
  refine g_callS 626 (N := M_at) [(.ref aA), (.int (10 : Int32)), (.int (Int32.ofNat B.length))] [(.long (((((((((((((((((((B.getD 0 0)) ||| ((B.getD 1 0)))) ||| ((B.getD 2 0)))) ||| ((B.getD 3 0)))) ||| ((B.getD 4 0)))) ||| ((B.getD 5 0)))) ||| ((B.getD 6 0)))) ||| ((B.getD 7 0)))) ||| ((B.getD 8 0)))) ||| ((B.getD 9 0))))] at_623 (wd hw 16 rfl) (wd hw 17 rfl) (wd hw 8 rfl) (wd hw 18 rfl) (by decide) (c_at l Z a0 hw n0 h0 aA 10 B pd (by decide) (by omega) A) rfl pd_at rfl rfl (Nat.le_of_ble_eq_true rfl) (Nat.le_of_ble_eq_true rfl) hkc hks rfl ?_
  rintro v _ ⟨rfl, rfl⟩
  show Go _ _ _ _ _ _ _ _ _ 626 #[.val (.long p), .second, .val (.long q), .second, .val (.long s1), .second, .val (.long s2), .second, .val (.int md), .val (.int (Int32.ofNat kn)), .val (.int (Int32.ofNat cn)), .val (.long p), .second, .val (.long a1), .second, .val (.int (Int32.ofNat cap)), .val (.ref aA), .val (.ref aS), .val (.int (Int32.ofNat B.length)), .val (.long x0), .second, .val (.long x1), .second, .val (.long ((x0 ||| x1) ^^^ (-1 : Int64))), .second, .val (.long e1), .second, .val (.long e2), .second, .val (.int ex), .val (.int (1 : Int32)), .unset, .unset] [(.long (B.getD 10 0)), (.long (((((((((((((((((((B.getD 0 0)) ||| ((B.getD 1 0)))) ||| ((B.getD 2 0)))) ||| ((B.getD 3 0)))) ||| ((B.getD 4 0)))) ||| ((B.getD 5 0)))) ||| ((B.getD 6 0)))) ||| ((B.getD 7 0)))) ||| ((B.getD 8 0)))) ||| ((B.getD 9 0))))]
  refine g_lor 627 at_626 rfl ?_
  refine g_lstore 629 #[.val (.long p), .second, .val (.long q), .second, .val (.long s1), .second, .val (.long s2), .second, .val (.int md), .val (.int (Int32.ofNat kn)), .val (.int (Int32.ofNat cn)), .val (.long p), .second, .val (.long a1), .second, .val (.int (Int32.ofNat cap)), .val (.ref aA), .val (.ref aS), .val (.int (Int32.ofNat B.length)), .val (.long x0), .second, .val (.long x1), .second, .val (.long ((x0 ||| x1) ^^^ (-1 : Int64))), .second, .val (.long e1), .second, .val (.long e2), .second, .val (.int ex), .val (.int (1 : Int32)), .val (.long (((((((((((((((((((((B.getD 0 0)) ||| ((B.getD 1 0)))) ||| ((B.getD 2 0)))) ||| ((B.getD 3 0)))) ||| ((B.getD 4 0)))) ||| ((B.getD 5 0)))) ||| ((B.getD 6 0)))) ||| ((B.getD 7 0)))) ||| ((B.getD 8 0)))) ||| ((B.getD 9 0)))) ||| ((B.getD 10 0)))), .second] at_627 rfl rfl ?_
  refine g_iload 631 at_629 rfl rfl ?_
  refine g_ifF 634 at_631 (fun z => absurd (show (1 : Int32) = 0 from z) (by decide)) rfl ?_
  refine g_lload 636 at_634 rfl rfl ?_
  refine g_lload 638 at_636 rfl rfl ?_
  refine g_lload 640 at_638 rfl rfl ?_
  refine g_lor 641 at_640 rfl ?_
  refine g_lload 643 at_641 rfl rfl ?_
  refine g_lor 644 at_643 rfl ?_
  refine g_lload 646 at_644 rfl rfl ?_
  refine g_lor 647 at_646 rfl ?_
  refine g_lcmpF 651 at_647 at_648 (fun z => z (Eq.trans (or_get B hB) hU)) rfl ?_
  refine g_iconst 652 (1 : Int32) at_651 rfl rfl ?_
  refine g_goto 656 at_652 rfl ?_
  refine g_istore 658 #[.val (.long p), .second, .val (.long q), .second, .val (.long s1), .second, .val (.long s2), .second, .val (.int md), .val (.int (Int32.ofNat kn)), .val (.int (Int32.ofNat cn)), .val (.long p), .second, .val (.long a1), .second, .val (.int (Int32.ofNat cap)), .val (.ref aA), .val (.ref aS), .val (.int (Int32.ofNat B.length)), .val (.long x0), .second, .val (.long x1), .second, .val (.long ((x0 ||| x1) ^^^ (-1 : Int64))), .second, .val (.long e1), .second, .val (.long e2), .second, .val (.int ex), .val (.int (1 : Int32)), .val (.long (((((((((((((((((((((B.getD 0 0)) ||| ((B.getD 1 0)))) ||| ((B.getD 2 0)))) ||| ((B.getD 3 0)))) ||| ((B.getD 4 0)))) ||| ((B.getD 5 0)))) ||| ((B.getD 6 0)))) ||| ((B.getD 7 0)))) ||| ((B.getD 8 0)))) ||| ((B.getD 9 0)))) ||| ((B.getD 10 0)))), .second] at_656 rfl rfl ?_
  refine g_iload 660 at_658 rfl rfl ?_
  refine g_iconst 661 (1 : Int32) at_660 rfl rfl ?_
  refine g_icmp 692 664 at_661 rfl rfl (fun c1 => ?_) (fun c1 => ?_)
  · exact k692 l Z a0 hw n0 h0 kc ks hkc hks p q s1 s2 md kn cn cap a1 aA aS hkn hcn hcap x0 x1 e1 e2 ex B pd hB A hg hU h1 h2 _
  · have g1 : 1 ≤ kn := by
      have := mt (own_lt (a := kn) (b := 1) (by omega) (by decide)).mpr c1
      omega
    refine g_iload 666 at_664 rfl rfl ?_
    refine g_ifF 669 at_666 (fun z => absurd (show (1 : Int32) = 0 from z) (by decide)) rfl ?_
    refine g_aload 671 at_669 rfl rfl rfl ?_
    refine g_iconst 672 (0 : Int32) at_671 rfl rfl ?_
    refine g_ldJ (x := (B.getD 0 0)) 673 0 at_672 A rfl (own_ga (h1 g1).1) rfl ?_
    refine g_lload 675 at_673 rfl rfl ?_
    refine g_ldc2J (w := -1) 678 at_675 (wd hw 0 rfl) rfl ?_
    refine g_lxor 679 at_678 rfl ?_
    refine g_land 680 at_679 rfl ?_
    refine g_lconst 681 (0 : Int64) at_680 rfl rfl ?_
    refine g_lcmpF 685 at_681 at_682 (fun z => z (h1 g1).2) rfl ?_
    refine g_iconst 686 (1 : Int32) at_685 rfl rfl ?_
    refine g_goto 690 at_686 rfl ?_
    refine g_istore 692 #[.val (.long p), .second, .val (.long q), .second, .val (.long s1), .second, .val (.long s2), .second, .val (.int md), .val (.int (Int32.ofNat kn)), .val (.int (Int32.ofNat cn)), .val (.long p), .second, .val (.long a1), .second, .val (.int (Int32.ofNat cap)), .val (.ref aA), .val (.ref aS), .val (.int (Int32.ofNat B.length)), .val (.long x0), .second, .val (.long x1), .second, .val (.long ((x0 ||| x1) ^^^ (-1 : Int64))), .second, .val (.long e1), .second, .val (.long e2), .second, .val (.int ex), .val (.int (1 : Int32)), .val (.long (((((((((((((((((((((B.getD 0 0)) ||| ((B.getD 1 0)))) ||| ((B.getD 2 0)))) ||| ((B.getD 3 0)))) ||| ((B.getD 4 0)))) ||| ((B.getD 5 0)))) ||| ((B.getD 6 0)))) ||| ((B.getD 7 0)))) ||| ((B.getD 8 0)))) ||| ((B.getD 9 0)))) ||| ((B.getD 10 0)))), .second] at_690 rfl rfl ?_
    exact k692 l Z a0 hw n0 h0 kc ks hkc hks p q s1 s2 md kn cn cap a1 aA aS hkn hcn hcap x0 x1 e1 e2 ex B pd hB A hg hU h1 h2 _
set_option maxRecDepth 65536 in
set_option maxHeartbeats 40000000 in
theorem k303 (l : Launch) (Z : State) (a0 : Array Value) (hw : ∀ d ∈ tables_1, d.before a0 Z = true) (n0 : Nat) (h0 : Heap) (kc ks : Nat) (hkc : kc ≤ room_1.cells) (hks : ks ≤ room_1.slots) (p q s1 s2 : Int64) (md : Int32) (kn cn cap : Nat) (a1 : Int64) (aA aS : Nat) (hkn : kn ≤ 2) (hcn : cn ≤ 2) (hcap : cap ≤ 11) (x0 x1 e1 e2 : Int64) (ex : Int32) (B pd : List Int64) (hB : B.length ≤ 11) (A : AryJ Z h0 aA (B ++ pd)) (hg : ∀ t ∈ B, GoodT t x0 x1 e1 e2) (hU : B.foldl (· ||| ·) 0 = x0 ||| x1 ||| e1 ||| e2) (h1 : 1 ≤ kn → 1 ≤ B.length ∧ B.getD 0 0 &&& (p ^^^ (-1)) = 0) (h2 : 2 ≤ kn → 2 ≤ B.length ∧ B.getD 1 0 &&& (a1 ^^^ (-1)) = 0) : Go l Z n0 M_law room_1 (fun v _ => v = some (.int 1)) h0 kc ks 303 #[.val (.long p), .second, .val (.long q), .second, .val (.long s1), .second, .val (.long s2), .second, .val (.int md), .val (.int (Int32.ofNat kn)), .val (.int (Int32.ofNat cn)), .val (.long p), .second, .val (.long a1), .second, .val (.int (Int32.ofNat cap)), .val (.ref aA), .val (.ref aS), .val (.int (Int32.ofNat B.length)), .val (.long x0), .second, .val (.long x1), .second, .val (.long ((x0 ||| x1) ^^^ (-1 : Int64))), .second, .val (.long e1), .second, .val (.long e2), .second, .val (.int ex), .unset, .unset, .unset] [] := by
  refine g_aload 305 at_303 rfl rfl rfl ?_
  refine g_iconst 306 (0 : Int32) at_305 rfl rfl ?_
  refine g_iload 308 at_306 rfl rfl ?_
  refine g_lload 310 at_308 rfl rfl ?_
  refine g_lload 312 at_310 rfl rfl ?_
  refine g_lload 314 at_312 rfl rfl ?_
  refine g_lload 316 at_314 rfl rfl ?_
  refine g_callS 319 (N := M_gd) [(.ref aA), (.int (0 : Int32)), (.int (Int32.ofNat B.length)), (.long x0), (.long x1), (.long e1), (.long e2)] [] at_316 (wd hw 13 rfl) (wd hw 14 rfl) (wd hw 8 rfl) (wd hw 15 rfl) (by decide) (c_gd l Z a0 hw n0 h0 aA 0 B pd (by decide) (by omega) A x0 x1 e1 e2 hg) rfl pd_gd rfl rfl (Nat.le_of_ble_eq_true rfl) (Nat.le_of_ble_eq_true rfl) hkc hks rfl ?_
  rintro v _ ⟨rfl, rfl⟩
  show Go _ _ _ _ _ _ _ _ _ 319 #[.val (.long p), .second, .val (.long q), .second, .val (.long s1), .second, .val (.long s2), .second, .val (.int md), .val (.int (Int32.ofNat kn)), .val (.int (Int32.ofNat cn)), .val (.long p), .second, .val (.long a1), .second, .val (.int (Int32.ofNat cap)), .val (.ref aA), .val (.ref aS), .val (.int (Int32.ofNat B.length)), .val (.long x0), .second, .val (.long x1), .second, .val (.long ((x0 ||| x1) ^^^ (-1 : Int64))), .second, .val (.long e1), .second, .val (.long e2), .second, .val (.int ex), .unset, .unset, .unset] [(.int (1 : Int32))]
  refine g_ifF 322 at_319 (fun z => absurd (show (1 : Int32) = 0 from z) (by decide)) rfl ?_
  refine g_aload 324 at_322 rfl rfl rfl ?_
  refine g_iconst 325 (1 : Int32) at_324 rfl rfl ?_
  refine g_iload 327 at_325 rfl rfl ?_
  refine g_lload 329 at_327 rfl rfl ?_
  refine g_lload 331 at_329 rfl rfl ?_
  refine g_lload 333 at_331 rfl rfl ?_
  refine g_lload 335 at_333 rfl rfl ?_
  refine g_callS 338 (N := M_gd) [(.ref aA), (.int (1 : Int32)), (.int (Int32.ofNat B.length)), (.long x0), (.long x1), (.long e1), (.long e2)] [] at_335 (wd hw 13 rfl) (wd hw 14 rfl) (wd hw 8 rfl) (wd hw 15 rfl) (by decide) (c_gd l Z a0 hw n0 h0 aA 1 B pd (by decide) (by omega) A x0 x1 e1 e2 hg) rfl pd_gd rfl rfl (Nat.le_of_ble_eq_true rfl) (Nat.le_of_ble_eq_true rfl) hkc hks rfl ?_
  rintro v _ ⟨rfl, rfl⟩
  show Go _ _ _ _ _ _ _ _ _ 338 #[.val (.long p), .second, .val (.long q), .second, .val (.long s1), .second, .val (.long s2), .second, .val (.int md), .val (.int (Int32.ofNat kn)), .val (.int (Int32.ofNat cn)), .val (.long p), .second, .val (.long a1), .second, .val (.int (Int32.ofNat cap)), .val (.ref aA), .val (.ref aS), .val (.int (Int32.ofNat B.length)), .val (.long x0), .second, .val (.long x1), .second, .val (.long ((x0 ||| x1) ^^^ (-1 : Int64))), .second, .val (.long e1), .second, .val (.long e2), .second, .val (.int ex), .unset, .unset, .unset] [(.int (1 : Int32))]
  refine g_ifF 341 at_338 (fun z => absurd (show (1 : Int32) = 0 from z) (by decide)) rfl ?_
  refine g_aload 343 at_341 rfl rfl rfl ?_
  refine g_iconst 344 (2 : Int32) at_343 rfl rfl ?_
  refine g_iload 346 at_344 rfl rfl ?_
  refine g_lload 348 at_346 rfl rfl ?_
  refine g_lload 350 at_348 rfl rfl ?_
  refine g_lload 352 at_350 rfl rfl ?_
  refine g_lload 354 at_352 rfl rfl ?_
  refine g_callS 357 (N := M_gd) [(.ref aA), (.int (2 : Int32)), (.int (Int32.ofNat B.length)), (.long x0), (.long x1), (.long e1), (.long e2)] [] at_354 (wd hw 13 rfl) (wd hw 14 rfl) (wd hw 8 rfl) (wd hw 15 rfl) (by decide) (c_gd l Z a0 hw n0 h0 aA 2 B pd (by decide) (by omega) A x0 x1 e1 e2 hg) rfl pd_gd rfl rfl (Nat.le_of_ble_eq_true rfl) (Nat.le_of_ble_eq_true rfl) hkc hks rfl ?_
  rintro v _ ⟨rfl, rfl⟩
  show Go _ _ _ _ _ _ _ _ _ 357 #[.val (.long p), .second, .val (.long q), .second, .val (.long s1), .second, .val (.long s2), .second, .val (.int md), .val (.int (Int32.ofNat kn)), .val (.int (Int32.ofNat cn)), .val (.long p), .second, .val (.long a1), .second, .val (.int (Int32.ofNat cap)), .val (.ref aA), .val (.ref aS), .val (.int (Int32.ofNat B.length)), .val (.long x0), .second, .val (.long x1), .second, .val (.long ((x0 ||| x1) ^^^ (-1 : Int64))), .second, .val (.long e1), .second, .val (.long e2), .second, .val (.int ex), .unset, .unset, .unset] [(.int (1 : Int32))]
  refine g_ifF 360 at_357 (fun z => absurd (show (1 : Int32) = 0 from z) (by decide)) rfl ?_
  refine g_aload 362 at_360 rfl rfl rfl ?_
  refine g_iconst 363 (3 : Int32) at_362 rfl rfl ?_
  refine g_iload 365 at_363 rfl rfl ?_
  refine g_lload 367 at_365 rfl rfl ?_
  refine g_lload 369 at_367 rfl rfl ?_
  refine g_lload 371 at_369 rfl rfl ?_
  refine g_lload 373 at_371 rfl rfl ?_
  refine g_callS 376 (N := M_gd) [(.ref aA), (.int (3 : Int32)), (.int (Int32.ofNat B.length)), (.long x0), (.long x1), (.long e1), (.long e2)] [] at_373 (wd hw 13 rfl) (wd hw 14 rfl) (wd hw 8 rfl) (wd hw 15 rfl) (by decide) (c_gd l Z a0 hw n0 h0 aA 3 B pd (by decide) (by omega) A x0 x1 e1 e2 hg) rfl pd_gd rfl rfl (Nat.le_of_ble_eq_true rfl) (Nat.le_of_ble_eq_true rfl) hkc hks rfl ?_
  rintro v _ ⟨rfl, rfl⟩
  show Go _ _ _ _ _ _ _ _ _ 376 #[.val (.long p), .second, .val (.long q), .second, .val (.long s1), .second, .val (.long s2), .second, .val (.int md), .val (.int (Int32.ofNat kn)), .val (.int (Int32.ofNat cn)), .val (.long p), .second, .val (.long a1), .second, .val (.int (Int32.ofNat cap)), .val (.ref aA), .val (.ref aS), .val (.int (Int32.ofNat B.length)), .val (.long x0), .second, .val (.long x1), .second, .val (.long ((x0 ||| x1) ^^^ (-1 : Int64))), .second, .val (.long e1), .second, .val (.long e2), .second, .val (.int ex), .unset, .unset, .unset] [(.int (1 : Int32))]
  refine g_ifF 379 at_376 (fun z => absurd (show (1 : Int32) = 0 from z) (by decide)) rfl ?_
  refine g_aload 381 at_379 rfl rfl rfl ?_
  refine g_iconst 382 (4 : Int32) at_381 rfl rfl ?_
  refine g_iload 384 at_382 rfl rfl ?_
  refine g_lload 386 at_384 rfl rfl ?_
  refine g_lload 388 at_386 rfl rfl ?_
  refine g_lload 390 at_388 rfl rfl ?_
  refine g_lload 392 at_390 rfl rfl ?_
  refine g_callS 395 (N := M_gd) [(.ref aA), (.int (4 : Int32)), (.int (Int32.ofNat B.length)), (.long x0), (.long x1), (.long e1), (.long e2)] [] at_392 (wd hw 13 rfl) (wd hw 14 rfl) (wd hw 8 rfl) (wd hw 15 rfl) (by decide) (c_gd l Z a0 hw n0 h0 aA 4 B pd (by decide) (by omega) A x0 x1 e1 e2 hg) rfl pd_gd rfl rfl (Nat.le_of_ble_eq_true rfl) (Nat.le_of_ble_eq_true rfl) hkc hks rfl ?_
  rintro v _ ⟨rfl, rfl⟩
  show Go _ _ _ _ _ _ _ _ _ 395 #[.val (.long p), .second, .val (.long q), .second, .val (.long s1), .second, .val (.long s2), .second, .val (.int md), .val (.int (Int32.ofNat kn)), .val (.int (Int32.ofNat cn)), .val (.long p), .second, .val (.long a1), .second, .val (.int (Int32.ofNat cap)), .val (.ref aA), .val (.ref aS), .val (.int (Int32.ofNat B.length)), .val (.long x0), .second, .val (.long x1), .second, .val (.long ((x0 ||| x1) ^^^ (-1 : Int64))), .second, .val (.long e1), .second, .val (.long e2), .second, .val (.int ex), .unset, .unset, .unset] [(.int (1 : Int32))]
  refine g_ifF 398 at_395 (fun z => absurd (show (1 : Int32) = 0 from z) (by decide)) rfl ?_
  refine g_aload 400 at_398 rfl rfl rfl ?_
  refine g_iconst 401 (5 : Int32) at_400 rfl rfl ?_
  refine g_iload 403 at_401 rfl rfl ?_
  refine g_lload 405 at_403 rfl rfl ?_
  refine g_lload 407 at_405 rfl rfl ?_
  refine g_lload 409 at_407 rfl rfl ?_
  refine g_lload 411 at_409 rfl rfl ?_
  refine g_callS 414 (N := M_gd) [(.ref aA), (.int (5 : Int32)), (.int (Int32.ofNat B.length)), (.long x0), (.long x1), (.long e1), (.long e2)] [] at_411 (wd hw 13 rfl) (wd hw 14 rfl) (wd hw 8 rfl) (wd hw 15 rfl) (by decide) (c_gd l Z a0 hw n0 h0 aA 5 B pd (by decide) (by omega) A x0 x1 e1 e2 hg) rfl pd_gd rfl rfl (Nat.le_of_ble_eq_true rfl) (Nat.le_of_ble_eq_true rfl) hkc hks rfl ?_
  rintro v _ ⟨rfl, rfl⟩
  show Go _ _ _ _ _ _ _ _ _ 414 #[.val (.long p), .second, .val (.long q), .second, .val (.long s1), .second, .val (.long s2), .second, .val (.int md), .val (.int (Int32.ofNat kn)), .val (.int (Int32.ofNat cn)), .val (.long p), .second, .val (.long a1), .second, .val (.int (Int32.ofNat cap)), .val (.ref aA), .val (.ref aS), .val (.int (Int32.ofNat B.length)), .val (.long x0), .second, .val (.long x1), .second, .val (.long ((x0 ||| x1) ^^^ (-1 : Int64))), .second, .val (.long e1), .second, .val (.long e2), .second, .val (.int ex), .unset, .unset, .unset] [(.int (1 : Int32))]
  refine g_ifF 417 at_414 (fun z => absurd (show (1 : Int32) = 0 from z) (by decide)) rfl ?_
  refine g_aload 419 at_417 rfl rfl rfl ?_
  refine g_bipush 421 (6 : Int32) at_419 rfl rfl ?_
  refine g_iload 423 at_421 rfl rfl ?_
  refine g_lload 425 at_423 rfl rfl ?_
  refine g_lload 427 at_425 rfl rfl ?_
  refine g_lload 429 at_427 rfl rfl ?_
  refine g_lload 431 at_429 rfl rfl ?_
  refine g_callS 434 (N := M_gd) [(.ref aA), (.int (6 : Int32)), (.int (Int32.ofNat B.length)), (.long x0), (.long x1), (.long e1), (.long e2)] [] at_431 (wd hw 13 rfl) (wd hw 14 rfl) (wd hw 8 rfl) (wd hw 15 rfl) (by decide) (c_gd l Z a0 hw n0 h0 aA 6 B pd (by decide) (by omega) A x0 x1 e1 e2 hg) rfl pd_gd rfl rfl (Nat.le_of_ble_eq_true rfl) (Nat.le_of_ble_eq_true rfl) hkc hks rfl ?_
  rintro v _ ⟨rfl, rfl⟩
  show Go _ _ _ _ _ _ _ _ _ 434 #[.val (.long p), .second, .val (.long q), .second, .val (.long s1), .second, .val (.long s2), .second, .val (.int md), .val (.int (Int32.ofNat kn)), .val (.int (Int32.ofNat cn)), .val (.long p), .second, .val (.long a1), .second, .val (.int (Int32.ofNat cap)), .val (.ref aA), .val (.ref aS), .val (.int (Int32.ofNat B.length)), .val (.long x0), .second, .val (.long x1), .second, .val (.long ((x0 ||| x1) ^^^ (-1 : Int64))), .second, .val (.long e1), .second, .val (.long e2), .second, .val (.int ex), .unset, .unset, .unset] [(.int (1 : Int32))]
  refine g_ifF 437 at_434 (fun z => absurd (show (1 : Int32) = 0 from z) (by decide)) rfl ?_
  refine g_aload 439 at_437 rfl rfl rfl ?_
  refine g_bipush 441 (7 : Int32) at_439 rfl rfl ?_
  refine g_iload 443 at_441 rfl rfl ?_
  refine g_lload 445 at_443 rfl rfl ?_
  refine g_lload 447 at_445 rfl rfl ?_
  refine g_lload 449 at_447 rfl rfl ?_
  refine g_lload 451 at_449 rfl rfl ?_
  refine g_callS 454 (N := M_gd) [(.ref aA), (.int (7 : Int32)), (.int (Int32.ofNat B.length)), (.long x0), (.long x1), (.long e1), (.long e2)] [] at_451 (wd hw 13 rfl) (wd hw 14 rfl) (wd hw 8 rfl) (wd hw 15 rfl) (by decide) (c_gd l Z a0 hw n0 h0 aA 7 B pd (by decide) (by omega) A x0 x1 e1 e2 hg) rfl pd_gd rfl rfl (Nat.le_of_ble_eq_true rfl) (Nat.le_of_ble_eq_true rfl) hkc hks rfl ?_
  rintro v _ ⟨rfl, rfl⟩
  show Go _ _ _ _ _ _ _ _ _ 454 #[.val (.long p), .second, .val (.long q), .second, .val (.long s1), .second, .val (.long s2), .second, .val (.int md), .val (.int (Int32.ofNat kn)), .val (.int (Int32.ofNat cn)), .val (.long p), .second, .val (.long a1), .second, .val (.int (Int32.ofNat cap)), .val (.ref aA), .val (.ref aS), .val (.int (Int32.ofNat B.length)), .val (.long x0), .second, .val (.long x1), .second, .val (.long ((x0 ||| x1) ^^^ (-1 : Int64))), .second, .val (.long e1), .second, .val (.long e2), .second, .val (.int ex), .unset, .unset, .unset] [(.int (1 : Int32))]
  refine g_ifF 457 at_454 (fun z => absurd (show (1 : Int32) = 0 from z) (by decide)) rfl ?_
  refine g_aload 459 at_457 rfl rfl rfl ?_
  refine g_bipush 461 (8 : Int32) at_459 rfl rfl ?_
  refine g_iload 463 at_461 rfl rfl ?_
  refine g_lload 465 at_463 rfl rfl ?_
  refine g_lload 467 at_465 rfl rfl ?_
  refine g_lload 469 at_467 rfl rfl ?_
  refine g_lload 471 at_469 rfl rfl ?_
  refine g_callS 474 (N := M_gd) [(.ref aA), (.int (8 : Int32)), (.int (Int32.ofNat B.length)), (.long x0), (.long x1), (.long e1), (.long e2)] [] at_471 (wd hw 13 rfl) (wd hw 14 rfl) (wd hw 8 rfl) (wd hw 15 rfl) (by decide) (c_gd l Z a0 hw n0 h0 aA 8 B pd (by decide) (by omega) A x0 x1 e1 e2 hg) rfl pd_gd rfl rfl (Nat.le_of_ble_eq_true rfl) (Nat.le_of_ble_eq_true rfl) hkc hks rfl ?_
  rintro v _ ⟨rfl, rfl⟩
  show Go _ _ _ _ _ _ _ _ _ 474 #[.val (.long p), .second, .val (.long q), .second, .val (.long s1), .second, .val (.long s2), .second, .val (.int md), .val (.int (Int32.ofNat kn)), .val (.int (Int32.ofNat cn)), .val (.long p), .second, .val (.long a1), .second, .val (.int (Int32.ofNat cap)), .val (.ref aA), .val (.ref aS), .val (.int (Int32.ofNat B.length)), .val (.long x0), .second, .val (.long x1), .second, .val (.long ((x0 ||| x1) ^^^ (-1 : Int64))), .second, .val (.long e1), .second, .val (.long e2), .second, .val (.int ex), .unset, .unset, .unset] [(.int (1 : Int32))]
  refine g_ifF 477 at_474 (fun z => absurd (show (1 : Int32) = 0 from z) (by decide)) rfl ?_
  refine g_aload 479 at_477 rfl rfl rfl ?_
  refine g_bipush 481 (9 : Int32) at_479 rfl rfl ?_
  refine g_iload 483 at_481 rfl rfl ?_
  refine g_lload 485 at_483 rfl rfl ?_
  refine g_lload 487 at_485 rfl rfl ?_
  refine g_lload 489 at_487 rfl rfl ?_
  refine g_lload 491 at_489 rfl rfl ?_
  refine g_callS 494 (N := M_gd) [(.ref aA), (.int (9 : Int32)), (.int (Int32.ofNat B.length)), (.long x0), (.long x1), (.long e1), (.long e2)] [] at_491 (wd hw 13 rfl) (wd hw 14 rfl) (wd hw 8 rfl) (wd hw 15 rfl) (by decide) (c_gd l Z a0 hw n0 h0 aA 9 B pd (by decide) (by omega) A x0 x1 e1 e2 hg) rfl pd_gd rfl rfl (Nat.le_of_ble_eq_true rfl) (Nat.le_of_ble_eq_true rfl) hkc hks rfl ?_
  rintro v _ ⟨rfl, rfl⟩
  show Go _ _ _ _ _ _ _ _ _ 494 #[.val (.long p), .second, .val (.long q), .second, .val (.long s1), .second, .val (.long s2), .second, .val (.int md), .val (.int (Int32.ofNat kn)), .val (.int (Int32.ofNat cn)), .val (.long p), .second, .val (.long a1), .second, .val (.int (Int32.ofNat cap)), .val (.ref aA), .val (.ref aS), .val (.int (Int32.ofNat B.length)), .val (.long x0), .second, .val (.long x1), .second, .val (.long ((x0 ||| x1) ^^^ (-1 : Int64))), .second, .val (.long e1), .second, .val (.long e2), .second, .val (.int ex), .unset, .unset, .unset] [(.int (1 : Int32))]
  refine g_ifF 497 at_494 (fun z => absurd (show (1 : Int32) = 0 from z) (by decide)) rfl ?_
  refine g_aload 499 at_497 rfl rfl rfl ?_
  refine g_bipush 501 (10 : Int32) at_499 rfl rfl ?_
  refine g_iload 503 at_501 rfl rfl ?_
  refine g_lload 505 at_503 rfl rfl ?_
  refine g_lload 507 at_505 rfl rfl ?_
  refine g_lload 509 at_507 rfl rfl ?_
  refine g_lload 511 at_509 rfl rfl ?_
  refine g_callS 514 (N := M_gd) [(.ref aA), (.int (10 : Int32)), (.int (Int32.ofNat B.length)), (.long x0), (.long x1), (.long e1), (.long e2)] [] at_511 (wd hw 13 rfl) (wd hw 14 rfl) (wd hw 8 rfl) (wd hw 15 rfl) (by decide) (c_gd l Z a0 hw n0 h0 aA 10 B pd (by decide) (by omega) A x0 x1 e1 e2 hg) rfl pd_gd rfl rfl (Nat.le_of_ble_eq_true rfl) (Nat.le_of_ble_eq_true rfl) hkc hks rfl ?_
  rintro v _ ⟨rfl, rfl⟩
  show Go _ _ _ _ _ _ _ _ _ 514 #[.val (.long p), .second, .val (.long q), .second, .val (.long s1), .second, .val (.long s2), .second, .val (.int md), .val (.int (Int32.ofNat kn)), .val (.int (Int32.ofNat cn)), .val (.long p), .second, .val (.long a1), .second, .val (.int (Int32.ofNat cap)), .val (.ref aA), .val (.ref aS), .val (.int (Int32.ofNat B.length)), .val (.long x0), .second, .val (.long x1), .second, .val (.long ((x0 ||| x1) ^^^ (-1 : Int64))), .second, .val (.long e1), .second, .val (.long e2), .second, .val (.int ex), .unset, .unset, .unset] [(.int (1 : Int32))]
  refine g_ifF 517 at_514 (fun z => absurd (show (1 : Int32) = 0 from z) (by decide)) rfl ?_
  refine g_iconst 518 (1 : Int32) at_517 rfl rfl ?_
  refine g_goto 522 at_518 rfl ?_
  refine g_istore 524 #[.val (.long p), .second, .val (.long q), .second, .val (.long s1), .second, .val (.long s2), .second, .val (.int md), .val (.int (Int32.ofNat kn)), .val (.int (Int32.ofNat cn)), .val (.long p), .second, .val (.long a1), .second, .val (.int (Int32.ofNat cap)), .val (.ref aA), .val (.ref aS), .val (.int (Int32.ofNat B.length)), .val (.long x0), .second, .val (.long x1), .second, .val (.long ((x0 ||| x1) ^^^ (-1 : Int64))), .second, .val (.long e1), .second, .val (.long e2), .second, .val (.int ex), .val (.int (1 : Int32)), .unset, .unset] at_522 rfl rfl ?_
  exact k524 l Z a0 hw n0 h0 kc ks hkc hks p q s1 s2 md kn cn cap a1 aA aS hkn hcn hcap x0 x1 e1 e2 ex B pd hB A hg hU h1 h2
set_option maxRecDepth 65536 in
set_option maxHeartbeats 40000000 in
theorem k275 (l : Launch) (Z : State) (a0 : Array Value) (hw : ∀ d ∈ tables_1, d.before a0 Z = true) (n0 : Nat) (h0 : Heap) (kc ks : Nat) (hkc : kc ≤ room_1.cells) (hks : ks ≤ room_1.slots) (p q s1 s2 : Int64) (md : Int32) (kn cn cap : Nat) (a1 : Int64) (aA aS : Nat) (hkn : kn ≤ 2) (hcn : cn ≤ 2) (hcap : cap ≤ 11) (x0 x1 e1 e2 : Int64) (rv : Int32) (U : List Int64) (hB : U.length ≤ 11) (hg : ∀ t ∈ U, GoodT t x0 x1 e1 e2) (hU : U.foldl (· ||| ·) 0 = x0 ||| x1 ||| e1 ||| e2) (h1 : 1 ≤ kn → 1 ≤ U.length ∧ U.getD 0 0 &&& (p ^^^ (-1)) = 0) (h2 : 2 ≤ kn → 2 ≤ U.length ∧ U.getD 1 0 &&& (a1 ^^^ (-1)) = 0) (HH : (¬ U.length ≤ cap ∧ rv = -1) ∨ ∃ pd, U.length ≤ cap ∧ rv = Int32.ofNat U.length ∧ AryJ Z h0 aA (U ++ pd)) : Go l Z n0 M_law room_1 (fun v _ => v = some (.int 1)) h0 kc ks 275 #[.val (.long p), .second, .val (.long q), .second, .val (.long s1), .second, .val (.long s2), .second, .val (.int md), .val (.int (Int32.ofNat kn)), .val (.int (Int32.ofNat cn)), .val (.long p), .second, .val (.long a1), .second, .val (.int (Int32.ofNat cap)), .val (.ref aA), .val (.ref aS), .val (.int rv), .val (.long x0), .second, .val (.long x1), .second, .val (.long ((x0 ||| x1) ^^^ (-1 : Int64))), .second, .val (.long e1), .second, .val (.long e2), .second, .val (.int (Int32.ofNat U.length)), .unset, .unset, .unset] [] := by
  rcases HH with ⟨g, rfl⟩ | ⟨pd, g, rfl, A⟩
  ·
    refine g_iload 277 at_275 rfl rfl ?_
    refine g_iload 279 at_277 rfl rfl ?_
    refine g_icmpF 282 at_279 (fun z => z ((own_lt (by omega) (by omega)).mpr (by omega))) rfl ?_
    refine g_iload 284 at_282 rfl rfl ?_
    refine g_iconst 285 (-1 : Int32) at_284 rfl rfl ?_
    refine g_icmpF 288 at_285 (fun z => z rfl) rfl ?_
    refine g_iconst 289 (1 : Int32) at_288 rfl rfl ?_
    refine g_goto 293 at_289 rfl ?_
    refine g_retZ at_293 rfl rfl (by first | exact hkc | exact hks) (by first | exact hkc | exact hks) ?_
    rfl
  ·
    refine g_iload 277 at_275 rfl rfl ?_
    refine g_iload 279 at_277 rfl rfl ?_
    refine g_icmpT 294 at_279 (fun z => absurd ((own_lt (by omega) (by omega)).mp z) (by omega)) rfl ?_
    refine g_iload 296 at_294 rfl rfl ?_
    refine g_iload 298 at_296 rfl rfl ?_
    refine g_icmpT 303 at_298 rfl rfl ?_
    exact k303 l Z a0 hw n0 h0 kc ks hkc hks p q s1 s2 md kn cn cap a1 aA aS hkn hcn hcap x0 x1 e1 e2 _ U pd hB A hg hU h1 h2
set_option maxRecDepth 65536 in
set_option maxHeartbeats 40000000 in
theorem k210 (l : Launch) (Z : State) (a0 : Array Value) (hw : ∀ d ∈ tables_1, d.before a0 Z = true) (n0 : Nat) (h0 : Heap) (kc ks : Nat) (hkc : kc ≤ room_1.cells) (hks : ks ≤ room_1.slots) (p q s1 s2 : Int64) (md : Int32) (kn cn cap : Nat) (a1 : Int64) (aA aS : Nat) (hkn : kn ≤ 2) (hcn : cn ≤ 2) (hcap : cap ≤ 11) (x0 x1 e1 e2 : Int64) (rv : Int32) (A0 : List Int64) (hA : A0.length ≤ cap) (HH : (cS cap ([s1, s2].take cn) A0 = none ∧ rv = -1) ∨ ∃ B pd, cS cap ([s1, s2].take cn) A0 = some B ∧ rv = Int32.ofNat B.length ∧ AryJ Z h0 aA (B ++ pd)) (HA : ∀ x0 x1 : Int64, x0 = (if 1 ≤ kn then p else 0) → x1 = (if 2 ≤ kn then a1 else 0) → ini x0 x1 = A0) (hd : p &&& a1 = 0) (hp : 1 ≤ kn → ¬ p = 0) (ha : 2 ≤ kn → ¬ a1 = 0) (hx0 : x0 = if 1 ≤ kn then p else 0) (hx1 : x1 = if 2 ≤ kn then a1 else 0) (he1 : e1 = if 1 ≤ cn then s1 else 0) (he2 : e2 = if 2 ≤ cn then s2 else 0) : Go l Z n0 M_law room_1 (fun v _ => v = some (.int 1)) h0 kc ks 210 #[.val (.long p), .second, .val (.long q), .second, .val (.long s1), .second, .val (.long s2), .second, .val (.int md), .val (.int (Int32.ofNat kn)), .val (.int (Int32.ofNat cn)), .val (.long p), .second, .val (.long a1), .second, .val (.int (Int32.ofNat cap)), .val (.ref aA), .val (.ref aS), .val (.int rv), .val (.long x0), .second, .val (.long x1), .second, .val (.long ((x0 ||| x1) ^^^ (-1 : Int64))), .second, .val (.long e1), .second, .val (.long e2), .second, .unset, .unset, .unset, .unset] [] := by
  have hd' : x0 &&& x1 = 0 := by
    rw [hx0, hx1]
    split
    · split
      · exact hd
      · simp
    · simp
  have hx : x0 = 0 → x1 = 0 := by
    intro z
    rw [hx1]
    split
    · next g =>
      have e : x0 = p := hx0.trans (if_pos (by omega))
      exact absurd (e.symm.trans z) (hp (by omega))
    · rfl
  have hini := HA x0 x1 hx0 hx1
  have hcs := cS_eq cap cn hcn x0 x1 e1 e2 s1 s2 he1 he2 (by rw [hini]; exact hA)
  rw [hini] at hcs
  have hB := uu_11 (e1 := e1) (e2 := e2) hd' hx
  have hg := uu_good (e1 := e1) (e2 := e2) hd' hx
  have hU := uu_fold (e1 := e1) (e2 := e2) hd' hx
  have hexp := exp_eq (x0 := x0) (x1 := x1) (e1 := e1) (e2 := e2)
  rw [← uu_len hd' hx] at hexp
  have h1 : 1 ≤ kn → 1 ≤ (uu x0 x1 e1 e2).length ∧ (uu x0 x1 e1 e2).getD 0 0 &&& (p ^^^ (-1)) = 0 := by
    intro g
    have e : x0 = p := hx0.trans (if_pos g)
    have r := uu_0 (e1 := e1) (e2 := e2) hd' hx (by rw [e]; exact hp g)
    rw [← e]; exact r
  have h2 : 2 ≤ kn → 2 ≤ (uu x0 x1 e1 e2).length ∧ (uu x0 x1 e1 e2).getD 1 0 &&& (a1 ^^^ (-1)) = 0 := by
    intro g
    have e : x0 = p := hx0.trans (if_pos (by omega))
    have e' : x1 = a1 := hx1.trans (if_pos g)
    have r := uu_1 (e1 := e1) (e2 := e2) hd' hx (by rw [e]; exact hp (by omega)) (by rw [e']; exact ha g)
    rw [← e']; exact r
  clear HA hini
  generalize uu x0 x1 e1 e2 = U at *
  have HU : (¬ U.length ≤ cap ∧ rv = -1) ∨ ∃ pd, U.length ≤ cap ∧ rv = Int32.ofNat U.length ∧ AryJ Z h0 aA (U ++ pd) := by
    by_cases g : U.length ≤ cap
    · rw [if_pos g] at hcs
      rw [hcs] at HH
      rcases HH with ⟨z, _⟩ | ⟨B, pd, z, e, A⟩
      · exact nomatch z
      · cases Option.some.inj z
        exact Or.inr ⟨pd, g, e, A⟩
    · rw [if_neg g] at hcs
      rw [hcs] at HH
      rcases HH with ⟨_, e⟩ | ⟨B, pd, z, e, A⟩
      · exact Or.inl ⟨g, e⟩
      · exact nomatch z
  refine g_lload 212 at_210 rfl rfl ?_
  refine g_lload 214 at_212 rfl rfl ?_
  refine g_lload 216 at_214 rfl rfl ?_
  refine g_callS 219 (N := M_ce) [(.long x0), (.long e1), (.long e2)] [] at_216 (wd hw 6 rfl) (wd hw 7 rfl) (wd hw 8 rfl) (wd hw 9 rfl) (by decide) (c_ce l Z a0 hw n0 h0 x0 e1 e2) rfl pd_ce rfl rfl (Nat.le_of_ble_eq_true rfl) (Nat.le_of_ble_eq_true rfl) hkc hks rfl ?_
  rintro v _ ⟨rfl, rfl⟩
  show Go _ _ _ _ _ _ _ _ _ 219 #[.val (.long p), .second, .val (.long q), .second, .val (.long s1), .second, .val (.long s2), .second, .val (.int md), .val (.int (Int32.ofNat kn)), .val (.int (Int32.ofNat cn)), .val (.long p), .second, .val (.long a1), .second, .val (.int (Int32.ofNat cap)), .val (.ref aA), .val (.ref aS), .val (.int rv), .val (.long x0), .second, .val (.long x1), .second, .val (.long ((x0 ||| x1) ^^^ (-1 : Int64))), .second, .val (.long e1), .second, .val (.long e2), .second, .unset, .unset, .unset, .unset] [(.int (ceF x0 e1 e2))]
  refine g_lload 221 at_219 rfl rfl ?_
  refine g_lload 223 at_221 rfl rfl ?_
  refine g_lload 225 at_223 rfl rfl ?_
  refine g_callS 228 (N := M_ce) [(.long x1), (.long e1), (.long e2)] [(.int (ceF x0 e1 e2))] at_225 (wd hw 6 rfl) (wd hw 7 rfl) (wd hw 8 rfl) (wd hw 9 rfl) (by decide) (c_ce l Z a0 hw n0 h0 x1 e1 e2) rfl pd_ce rfl rfl (Nat.le_of_ble_eq_true rfl) (Nat.le_of_ble_eq_true rfl) hkc hks rfl ?_
  rintro v _ ⟨rfl, rfl⟩
  show Go _ _ _ _ _ _ _ _ _ 228 #[.val (.long p), .second, .val (.long q), .second, .val (.long s1), .second, .val (.long s2), .second, .val (.int md), .val (.int (Int32.ofNat kn)), .val (.int (Int32.ofNat cn)), .val (.long p), .second, .val (.long a1), .second, .val (.int (Int32.ofNat cap)), .val (.ref aA), .val (.ref aS), .val (.int rv), .val (.long x0), .second, .val (.long x1), .second, .val (.long ((x0 ||| x1) ^^^ (-1 : Int64))), .second, .val (.long e1), .second, .val (.long e2), .second, .unset, .unset, .unset, .unset] [(.int (ceF x1 e1 e2)), (.int (ceF x0 e1 e2))]
  refine g_iadd 229 at_228 rfl ?_
  refine g_lload 231 at_229 rfl rfl ?_
  refine g_lload 233 at_231 rfl rfl ?_
  refine g_land 234 at_233 rfl ?_
  refine g_lload 236 at_234 rfl rfl ?_
  refine g_land 237 at_236 rfl ?_
  refine g_callS 240 (N := M_nz) [(.long ((((((x0 ||| x1) ^^^ (-1 : Int64))) &&& e1)) &&& e2))] [(.int (((ceF x0 e1 e2)) + ((ceF x1 e1 e2))))] at_237 (wd hw 10 rfl) (wd hw 11 rfl) (wd hw 8 rfl) (wd hw 12 rfl) (by decide) (c_nz l Z a0 hw n0 h0 (((((((x0 ||| x1) ^^^ (-1 : Int64))) &&& e1)) &&& e2))) rfl pd_nz rfl rfl (Nat.le_of_ble_eq_true rfl) (Nat.le_of_ble_eq_true rfl) hkc hks rfl ?_
  rintro v _ ⟨rfl, rfl⟩
  show Go _ _ _ _ _ _ _ _ _ 240 #[.val (.long p), .second, .val (.long q), .second, .val (.long s1), .second, .val (.long s2), .second, .val (.int md), .val (.int (Int32.ofNat kn)), .val (.int (Int32.ofNat cn)), .val (.long p), .second, .val (.long a1), .second, .val (.int (Int32.ofNat cap)), .val (.ref aA), .val (.ref aS), .val (.int rv), .val (.long x0), .second, .val (.long x1), .second, .val (.long ((x0 ||| x1) ^^^ (-1 : Int64))), .second, .val (.long e1), .second, .val (.long e2), .second, .unset, .unset, .unset, .unset] [(.int (nzF (((((((x0 ||| x1) ^^^ (-1 : Int64))) &&& e1)) &&& e2)))), (.int (((ceF x0 e1 e2)) + ((ceF x1 e1 e2))))]
  refine g_iadd 241 at_240 rfl ?_
  refine g_lload 243 at_241 rfl rfl ?_
  refine g_lload 245 at_243 rfl rfl ?_
  refine g_land 246 at_245 rfl ?_
  refine g_lload 248 at_246 rfl rfl ?_
  refine g_ldc2J (w := -1) 251 at_248 (wd hw 0 rfl) rfl ?_
  refine g_lxor 252 at_251 rfl ?_
  refine g_land 253 at_252 rfl ?_
  refine g_callS 256 (N := M_nz) [(.long ((((((x0 ||| x1) ^^^ (-1 : Int64))) &&& e1)) &&& ((e2 ^^^ ((-1 : Int64))))))] [(.int (((((ceF x0 e1 e2)) + ((ceF x1 e1 e2)))) + ((nzF (((((((x0 ||| x1) ^^^ (-1 : Int64))) &&& e1)) &&& e2))))))] at_253 (wd hw 10 rfl) (wd hw 11 rfl) (wd hw 8 rfl) (wd hw 12 rfl) (by decide) (c_nz l Z a0 hw n0 h0 (((((((x0 ||| x1) ^^^ (-1 : Int64))) &&& e1)) &&& ((e2 ^^^ ((-1 : Int64))))))) rfl pd_nz rfl rfl (Nat.le_of_ble_eq_true rfl) (Nat.le_of_ble_eq_true rfl) hkc hks rfl ?_
  rintro v _ ⟨rfl, rfl⟩
  show Go _ _ _ _ _ _ _ _ _ 256 #[.val (.long p), .second, .val (.long q), .second, .val (.long s1), .second, .val (.long s2), .second, .val (.int md), .val (.int (Int32.ofNat kn)), .val (.int (Int32.ofNat cn)), .val (.long p), .second, .val (.long a1), .second, .val (.int (Int32.ofNat cap)), .val (.ref aA), .val (.ref aS), .val (.int rv), .val (.long x0), .second, .val (.long x1), .second, .val (.long ((x0 ||| x1) ^^^ (-1 : Int64))), .second, .val (.long e1), .second, .val (.long e2), .second, .unset, .unset, .unset, .unset] [(.int (nzF (((((((x0 ||| x1) ^^^ (-1 : Int64))) &&& e1)) &&& ((e2 ^^^ ((-1 : Int64)))))))), (.int (((((ceF x0 e1 e2)) + ((ceF x1 e1 e2)))) + ((nzF (((((((x0 ||| x1) ^^^ (-1 : Int64))) &&& e1)) &&& e2))))))]
  refine g_iadd 257 at_256 rfl ?_
  refine g_lload 259 at_257 rfl rfl ?_
  refine g_lload 261 at_259 rfl rfl ?_
  refine g_ldc2J (w := -1) 264 at_261 (wd hw 0 rfl) rfl ?_
  refine g_lxor 265 at_264 rfl ?_
  refine g_land 266 at_265 rfl ?_
  refine g_lload 268 at_266 rfl rfl ?_
  refine g_land 269 at_268 rfl ?_
  refine g_callS 272 (N := M_nz) [(.long ((((((x0 ||| x1) ^^^ (-1 : Int64))) &&& ((e1 ^^^ ((-1 : Int64)))))) &&& e2))] [(.int (((((((ceF x0 e1 e2)) + ((ceF x1 e1 e2)))) + ((nzF (((((((x0 ||| x1) ^^^ (-1 : Int64))) &&& e1)) &&& e2)))))) + ((nzF (((((((x0 ||| x1) ^^^ (-1 : Int64))) &&& e1)) &&& ((e2 ^^^ ((-1 : Int64))))))))))] at_269 (wd hw 10 rfl) (wd hw 11 rfl) (wd hw 8 rfl) (wd hw 12 rfl) (by decide) (c_nz l Z a0 hw n0 h0 (((((((x0 ||| x1) ^^^ (-1 : Int64))) &&& ((e1 ^^^ ((-1 : Int64)))))) &&& e2))) rfl pd_nz rfl rfl (Nat.le_of_ble_eq_true rfl) (Nat.le_of_ble_eq_true rfl) hkc hks rfl ?_
  rintro v _ ⟨rfl, rfl⟩
  show Go _ _ _ _ _ _ _ _ _ 272 #[.val (.long p), .second, .val (.long q), .second, .val (.long s1), .second, .val (.long s2), .second, .val (.int md), .val (.int (Int32.ofNat kn)), .val (.int (Int32.ofNat cn)), .val (.long p), .second, .val (.long a1), .second, .val (.int (Int32.ofNat cap)), .val (.ref aA), .val (.ref aS), .val (.int rv), .val (.long x0), .second, .val (.long x1), .second, .val (.long ((x0 ||| x1) ^^^ (-1 : Int64))), .second, .val (.long e1), .second, .val (.long e2), .second, .unset, .unset, .unset, .unset] [(.int (nzF (((((((x0 ||| x1) ^^^ (-1 : Int64))) &&& ((e1 ^^^ ((-1 : Int64)))))) &&& e2)))), (.int (((((((ceF x0 e1 e2)) + ((ceF x1 e1 e2)))) + ((nzF (((((((x0 ||| x1) ^^^ (-1 : Int64))) &&& e1)) &&& e2)))))) + ((nzF (((((((x0 ||| x1) ^^^ (-1 : Int64))) &&& e1)) &&& ((e2 ^^^ ((-1 : Int64))))))))))]
  refine g_iadd 273 at_272 rfl ?_
  refine g_istore 275 #[.val (.long p), .second, .val (.long q), .second, .val (.long s1), .second, .val (.long s2), .second, .val (.int md), .val (.int (Int32.ofNat kn)), .val (.int (Int32.ofNat cn)), .val (.long p), .second, .val (.long a1), .second, .val (.int (Int32.ofNat cap)), .val (.ref aA), .val (.ref aS), .val (.int rv), .val (.long x0), .second, .val (.long x1), .second, .val (.long ((x0 ||| x1) ^^^ (-1 : Int64))), .second, .val (.long e1), .second, .val (.long e2), .second, .val (.int (((((((((ceF x0 e1 e2)) + ((ceF x1 e1 e2)))) + ((nzF (((((((x0 ||| x1) ^^^ (-1 : Int64))) &&& e1)) &&& e2)))))) + ((nzF (((((((x0 ||| x1) ^^^ (-1 : Int64))) &&& e1)) &&& ((e2 ^^^ ((-1 : Int64)))))))))) + ((nzF (((((((x0 ||| x1) ^^^ (-1 : Int64))) &&& ((e1 ^^^ ((-1 : Int64)))))) &&& e2)))))), .unset, .unset, .unset] at_273 rfl rfl ?_
  rw [hexp]
  exact k275 l Z a0 hw n0 h0 kc ks hkc hks p q s1 s2 md kn cn cap a1 aA aS hkn hcn hcap x0 x1 e1 e2 rv U hB hg hU h1 h2 HU
set_option maxRecDepth 65536 in
set_option maxHeartbeats 40000000 in
theorem k182 (l : Launch) (Z : State) (a0 : Array Value) (hw : ∀ d ∈ tables_1, d.before a0 Z = true) (n0 : Nat) (h0 : Heap) (kc ks : Nat) (hkc : kc ≤ room_1.cells) (hks : ks ≤ room_1.slots) (p q s1 s2 : Int64) (md : Int32) (kn cn cap : Nat) (a1 : Int64) (aA aS : Nat) (hkn : kn ≤ 2) (hcn : cn ≤ 2) (hcap : cap ≤ 11) (x0 x1 : Int64) (rv : Int32) (A0 : List Int64) (hA : A0.length ≤ cap) (HH : (cS cap ([s1, s2].take cn) A0 = none ∧ rv = -1) ∨ ∃ B pd, cS cap ([s1, s2].take cn) A0 = some B ∧ rv = Int32.ofNat B.length ∧ AryJ Z h0 aA (B ++ pd)) (HA : ∀ x0 x1 : Int64, x0 = (if 1 ≤ kn then p else 0) → x1 = (if 2 ≤ kn then a1 else 0) → ini x0 x1 = A0) (hd : p &&& a1 = 0) (hp : 1 ≤ kn → ¬ p = 0) (ha : 2 ≤ kn → ¬ a1 = 0) (hx0 : x0 = if 1 ≤ kn then p else 0) (hx1 : x1 = if 2 ≤ kn then a1 else 0) : Go l Z n0 M_law room_1 (fun v _ => v = some (.int 1)) h0 kc ks 182 #[.val (.long p), .second, .val (.long q), .second, .val (.long s1), .second, .val (.long s2), .second, .val (.int md), .val (.int (Int32.ofNat kn)), .val (.int (Int32.ofNat cn)), .val (.long p), .second, .val (.long a1), .second, .val (.int (Int32.ofNat cap)), .val (.ref aA), .val (.ref aS), .val (.int rv), .val (.long x0), .second, .val (.long x1), .second, .val (.long ((x0 ||| x1) ^^^ (-1 : Int64))), .second, .unset, .unset, .unset, .unset, .unset, .unset, .unset, .unset] [] := by
  refine g_iload 184 at_182 rfl rfl ?_
  refine g_iconst 185 (1 : Int32) at_184 rfl rfl ?_
  refine g_icmp 193 188 at_185 rfl rfl (fun c1 => ?_) (fun c1 => ?_)
  · refine g_lconst 194 (0 : Int64) at_193 rfl rfl ?_
    refine g_lstore 196 #[.val (.long p), .second, .val (.long q), .second, .val (.long s1), .second, .val (.long s2), .second, .val (.int md), .val (.int (Int32.ofNat kn)), .val (.int (Int32.ofNat cn)), .val (.long p), .second, .val (.long a1), .second, .val (.int (Int32.ofNat cap)), .val (.ref aA), .val (.ref aS), .val (.int rv), .val (.long x0), .second, .val (.long x1), .second, .val (.long ((x0 ||| x1) ^^^ (-1 : Int64))), .second, .val (.long (0 : Int64)), .second, .unset, .unset, .unset, .unset, .unset, .unset] at_194 rfl rfl ?_
    refine g_iload 198 at_196 rfl rfl ?_
    refine g_iconst 199 (2 : Int32) at_198 rfl rfl ?_
    refine g_icmp 207 202 at_199 rfl rfl (fun c2 => ?_) (fun c2 => ?_)
    · refine g_lconst 208 (0 : Int64) at_207 rfl rfl ?_
      refine g_lstore 210 #[.val (.long p), .second, .val (.long q), .second, .val (.long s1), .second, .val (.long s2), .second, .val (.int md), .val (.int (Int32.ofNat kn)), .val (.int (Int32.ofNat cn)), .val (.long p), .second, .val (.long a1), .second, .val (.int (Int32.ofNat cap)), .val (.ref aA), .val (.ref aS), .val (.int rv), .val (.long x0), .second, .val (.long x1), .second, .val (.long ((x0 ||| x1) ^^^ (-1 : Int64))), .second, .val (.long (0 : Int64)), .second, .val (.long (0 : Int64)), .second, .unset, .unset, .unset, .unset] at_208 rfl rfl ?_
      exact k210 l Z a0 hw n0 h0 kc ks hkc hks p q s1 s2 md kn cn cap a1 aA aS hkn hcn hcap x0 x1 _ _ rv A0 hA HH HA hd hp ha hx0 hx1 (Eq.symm (if_neg (show ¬ 1 ≤ cn by have := (own_lt (a := cn) (b := 1) (by omega) (by decide)).mp c1; omega))) (Eq.symm (if_neg (show ¬ 2 ≤ cn by have := (own_lt (a := cn) (b := 2) (by omega) (by decide)).mp c2; omega)))
    · refine g_lload 204 at_202 rfl rfl ?_
      refine g_goto 208 at_204 rfl ?_
      refine g_lstore 210 #[.val (.long p), .second, .val (.long q), .second, .val (.long s1), .second, .val (.long s2), .second, .val (.int md), .val (.int (Int32.ofNat kn)), .val (.int (Int32.ofNat cn)), .val (.long p), .second, .val (.long a1), .second, .val (.int (Int32.ofNat cap)), .val (.ref aA), .val (.ref aS), .val (.int rv), .val (.long x0), .second, .val (.long x1), .second, .val (.long ((x0 ||| x1) ^^^ (-1 : Int64))), .second, .val (.long (0 : Int64)), .second, .val (.long s2), .second, .unset, .unset, .unset, .unset] at_208 rfl rfl ?_
      exact k210 l Z a0 hw n0 h0 kc ks hkc hks p q s1 s2 md kn cn cap a1 aA aS hkn hcn hcap x0 x1 _ _ rv A0 hA HH HA hd hp ha hx0 hx1 (Eq.symm (if_neg (show ¬ 1 ≤ cn by have := (own_lt (a := cn) (b := 1) (by omega) (by decide)).mp c1; omega))) (Eq.symm (if_pos (show 2 ≤ cn by have := mt (own_lt (a := cn) (b := 2) (by omega) (by decide)).mpr c2; omega)))
  · refine g_lload 190 at_188 rfl rfl ?_
    refine g_goto 194 at_190 rfl ?_
    refine g_lstore 196 #[.val (.long p), .second, .val (.long q), .second, .val (.long s1), .second, .val (.long s2), .second, .val (.int md), .val (.int (Int32.ofNat kn)), .val (.int (Int32.ofNat cn)), .val (.long p), .second, .val (.long a1), .second, .val (.int (Int32.ofNat cap)), .val (.ref aA), .val (.ref aS), .val (.int rv), .val (.long x0), .second, .val (.long x1), .second, .val (.long ((x0 ||| x1) ^^^ (-1 : Int64))), .second, .val (.long s1), .second, .unset, .unset, .unset, .unset, .unset, .unset] at_194 rfl rfl ?_
    refine g_iload 198 at_196 rfl rfl ?_
    refine g_iconst 199 (2 : Int32) at_198 rfl rfl ?_
    refine g_icmp 207 202 at_199 rfl rfl (fun c2 => ?_) (fun c2 => ?_)
    · refine g_lconst 208 (0 : Int64) at_207 rfl rfl ?_
      refine g_lstore 210 #[.val (.long p), .second, .val (.long q), .second, .val (.long s1), .second, .val (.long s2), .second, .val (.int md), .val (.int (Int32.ofNat kn)), .val (.int (Int32.ofNat cn)), .val (.long p), .second, .val (.long a1), .second, .val (.int (Int32.ofNat cap)), .val (.ref aA), .val (.ref aS), .val (.int rv), .val (.long x0), .second, .val (.long x1), .second, .val (.long ((x0 ||| x1) ^^^ (-1 : Int64))), .second, .val (.long s1), .second, .val (.long (0 : Int64)), .second, .unset, .unset, .unset, .unset] at_208 rfl rfl ?_
      exact k210 l Z a0 hw n0 h0 kc ks hkc hks p q s1 s2 md kn cn cap a1 aA aS hkn hcn hcap x0 x1 _ _ rv A0 hA HH HA hd hp ha hx0 hx1 (Eq.symm (if_pos (show 1 ≤ cn by have := mt (own_lt (a := cn) (b := 1) (by omega) (by decide)).mpr c1; omega))) (Eq.symm (if_neg (show ¬ 2 ≤ cn by have := (own_lt (a := cn) (b := 2) (by omega) (by decide)).mp c2; omega)))
    · refine g_lload 204 at_202 rfl rfl ?_
      refine g_goto 208 at_204 rfl ?_
      refine g_lstore 210 #[.val (.long p), .second, .val (.long q), .second, .val (.long s1), .second, .val (.long s2), .second, .val (.int md), .val (.int (Int32.ofNat kn)), .val (.int (Int32.ofNat cn)), .val (.long p), .second, .val (.long a1), .second, .val (.int (Int32.ofNat cap)), .val (.ref aA), .val (.ref aS), .val (.int rv), .val (.long x0), .second, .val (.long x1), .second, .val (.long ((x0 ||| x1) ^^^ (-1 : Int64))), .second, .val (.long s1), .second, .val (.long s2), .second, .unset, .unset, .unset, .unset] at_208 rfl rfl ?_
      exact k210 l Z a0 hw n0 h0 kc ks hkc hks p q s1 s2 md kn cn cap a1 aA aS hkn hcn hcap x0 x1 _ _ rv A0 hA HH HA hd hp ha hx0 hx1 (Eq.symm (if_pos (show 1 ≤ cn by have := mt (own_lt (a := cn) (b := 1) (by omega) (by decide)).mpr c1; omega))) (Eq.symm (if_pos (show 2 ≤ cn by have := mt (own_lt (a := cn) (b := 2) (by omega) (by decide)).mpr c2; omega)))
set_option maxRecDepth 65536 in
set_option maxHeartbeats 40000000 in
theorem k143 (l : Launch) (Z : State) (a0 : Array Value) (hw : ∀ d ∈ tables_1, d.before a0 Z = true) (n0 : Nat) (h0 : Heap) (kc ks : Nat) (hkc : kc ≤ room_1.cells) (hks : ks ≤ room_1.slots) (p q s1 s2 : Int64) (md : Int32) (kn cn cap : Nat) (a1 : Int64) (aA aS : Nat) (hkn : kn ≤ 2) (hcn : cn ≤ 2) (hcap : cap ≤ 11) (rv : Int32) (A0 : List Int64) (hA : A0.length ≤ cap) (HH : (cS cap ([s1, s2].take cn) A0 = none ∧ rv = -1) ∨ ∃ B pd, cS cap ([s1, s2].take cn) A0 = some B ∧ rv = Int32.ofNat B.length ∧ AryJ Z h0 aA (B ++ pd)) (HA : ∀ x0 x1 : Int64, x0 = (if 1 ≤ kn then p else 0) → x1 = (if 2 ≤ kn then a1 else 0) → ini x0 x1 = A0) (hd : p &&& a1 = 0) (hp : 1 ≤ kn → ¬ p = 0) (ha : 2 ≤ kn → ¬ a1 = 0) : Go l Z n0 M_law room_1 (fun v _ => v = some (.int 1)) h0 kc ks 143 #[.val (.long p), .second, .val (.long q), .second, .val (.long s1), .second, .val (.long s2), .second, .val (.int md), .val (.int (Int32.ofNat kn)), .val (.int (Int32.ofNat cn)), .val (.long p), .second, .val (.long a1), .second, .val (.int (Int32.ofNat cap)), .val (.ref aA), .val (.ref aS), .val (.int rv), .unset, .unset, .unset, .unset, .unset, .unset, .unset, .unset, .unset, .unset, .unset, .unset, .unset, .unset] [] := by
  refine g_iload 145 at_143 rfl rfl ?_
  refine g_iconst 146 (1 : Int32) at_145 rfl rfl ?_
  refine g_icmp 154 149 at_146 rfl rfl (fun c1 => ?_) (fun c1 => ?_)
  · refine g_lconst 155 (0 : Int64) at_154 rfl rfl ?_
    refine g_lstore 157 #[.val (.long p), .second, .val (.long q), .second, .val (.long s1), .second, .val (.long s2), .second, .val (.int md), .val (.int (Int32.ofNat kn)), .val (.int (Int32.ofNat cn)), .val (.long p), .second, .val (.long a1), .second, .val (.int (Int32.ofNat cap)), .val (.ref aA), .val (.ref aS), .val (.int rv), .val (.long (0 : Int64)), .second, .unset, .unset, .unset, .unset, .unset, .unset, .unset, .unset, .unset, .unset, .unset, .unset] at_155 rfl rfl ?_
    refine g_iload 159 at_157 rfl rfl ?_
    refine g_iconst 160 (2 : Int32) at_159 rfl rfl ?_
    refine g_icmp 168 163 at_160 rfl rfl (fun c2 => ?_) (fun c2 => ?_)
    · refine g_lconst 169 (0 : Int64) at_168 rfl rfl ?_
      refine g_lstore 171 #[.val (.long p), .second, .val (.long q), .second, .val (.long s1), .second, .val (.long s2), .second, .val (.int md), .val (.int (Int32.ofNat kn)), .val (.int (Int32.ofNat cn)), .val (.long p), .second, .val (.long a1), .second, .val (.int (Int32.ofNat cap)), .val (.ref aA), .val (.ref aS), .val (.int rv), .val (.long (0 : Int64)), .second, .val (.long (0 : Int64)), .second, .unset, .unset, .unset, .unset, .unset, .unset, .unset, .unset, .unset, .unset] at_169 rfl rfl ?_
      refine g_lload 173 at_171 rfl rfl ?_
      refine g_lload 175 at_173 rfl rfl ?_
      refine g_lor 176 at_175 rfl ?_
      refine g_ldc2J (w := -1) 179 at_176 (wd hw 0 rfl) rfl ?_
      refine g_lxor 180 at_179 rfl ?_
      refine g_lstore 182 #[.val (.long p), .second, .val (.long q), .second, .val (.long s1), .second, .val (.long s2), .second, .val (.int md), .val (.int (Int32.ofNat kn)), .val (.int (Int32.ofNat cn)), .val (.long p), .second, .val (.long a1), .second, .val (.int (Int32.ofNat cap)), .val (.ref aA), .val (.ref aS), .val (.int rv), .val (.long (0 : Int64)), .second, .val (.long (0 : Int64)), .second, .val (.long (((((0 : Int64)) ||| ((0 : Int64)))) ^^^ ((-1 : Int64)))), .second, .unset, .unset, .unset, .unset, .unset, .unset, .unset, .unset] at_180 rfl rfl ?_
      exact k182 l Z a0 hw n0 h0 kc ks hkc hks p q s1 s2 md kn cn cap a1 aA aS hkn hcn hcap _ _ rv A0 hA HH HA hd hp ha (Eq.symm (if_neg (show ¬ 1 ≤ kn by have := (own_lt (a := kn) (b := 1) (by omega) (by decide)).mp c1; omega))) (Eq.symm (if_neg (show ¬ 2 ≤ kn by have := (own_lt (a := kn) (b := 2) (by omega) (by decide)).mp c2; omega)))
    · refine g_lload 165 at_163 rfl rfl ?_
      refine g_goto 169 at_165 rfl ?_
      refine g_lstore 171 #[.val (.long p), .second, .val (.long q), .second, .val (.long s1), .second, .val (.long s2), .second, .val (.int md), .val (.int (Int32.ofNat kn)), .val (.int (Int32.ofNat cn)), .val (.long p), .second, .val (.long a1), .second, .val (.int (Int32.ofNat cap)), .val (.ref aA), .val (.ref aS), .val (.int rv), .val (.long (0 : Int64)), .second, .val (.long a1), .second, .unset, .unset, .unset, .unset, .unset, .unset, .unset, .unset, .unset, .unset] at_169 rfl rfl ?_
      refine g_lload 173 at_171 rfl rfl ?_
      refine g_lload 175 at_173 rfl rfl ?_
      refine g_lor 176 at_175 rfl ?_
      refine g_ldc2J (w := -1) 179 at_176 (wd hw 0 rfl) rfl ?_
      refine g_lxor 180 at_179 rfl ?_
      refine g_lstore 182 #[.val (.long p), .second, .val (.long q), .second, .val (.long s1), .second, .val (.long s2), .second, .val (.int md), .val (.int (Int32.ofNat kn)), .val (.int (Int32.ofNat cn)), .val (.long p), .second, .val (.long a1), .second, .val (.int (Int32.ofNat cap)), .val (.ref aA), .val (.ref aS), .val (.int rv), .val (.long (0 : Int64)), .second, .val (.long a1), .second, .val (.long (((((0 : Int64)) ||| a1)) ^^^ ((-1 : Int64)))), .second, .unset, .unset, .unset, .unset, .unset, .unset, .unset, .unset] at_180 rfl rfl ?_
      exact k182 l Z a0 hw n0 h0 kc ks hkc hks p q s1 s2 md kn cn cap a1 aA aS hkn hcn hcap _ _ rv A0 hA HH HA hd hp ha (Eq.symm (if_neg (show ¬ 1 ≤ kn by have := (own_lt (a := kn) (b := 1) (by omega) (by decide)).mp c1; omega))) (Eq.symm (if_pos (show 2 ≤ kn by have := mt (own_lt (a := kn) (b := 2) (by omega) (by decide)).mpr c2; omega)))
  · refine g_lload 151 at_149 rfl rfl ?_
    refine g_goto 155 at_151 rfl ?_
    refine g_lstore 157 #[.val (.long p), .second, .val (.long q), .second, .val (.long s1), .second, .val (.long s2), .second, .val (.int md), .val (.int (Int32.ofNat kn)), .val (.int (Int32.ofNat cn)), .val (.long p), .second, .val (.long a1), .second, .val (.int (Int32.ofNat cap)), .val (.ref aA), .val (.ref aS), .val (.int rv), .val (.long p), .second, .unset, .unset, .unset, .unset, .unset, .unset, .unset, .unset, .unset, .unset, .unset, .unset] at_155 rfl rfl ?_
    refine g_iload 159 at_157 rfl rfl ?_
    refine g_iconst 160 (2 : Int32) at_159 rfl rfl ?_
    refine g_icmp 168 163 at_160 rfl rfl (fun c2 => ?_) (fun c2 => ?_)
    · refine g_lconst 169 (0 : Int64) at_168 rfl rfl ?_
      refine g_lstore 171 #[.val (.long p), .second, .val (.long q), .second, .val (.long s1), .second, .val (.long s2), .second, .val (.int md), .val (.int (Int32.ofNat kn)), .val (.int (Int32.ofNat cn)), .val (.long p), .second, .val (.long a1), .second, .val (.int (Int32.ofNat cap)), .val (.ref aA), .val (.ref aS), .val (.int rv), .val (.long p), .second, .val (.long (0 : Int64)), .second, .unset, .unset, .unset, .unset, .unset, .unset, .unset, .unset, .unset, .unset] at_169 rfl rfl ?_
      refine g_lload 173 at_171 rfl rfl ?_
      refine g_lload 175 at_173 rfl rfl ?_
      refine g_lor 176 at_175 rfl ?_
      refine g_ldc2J (w := -1) 179 at_176 (wd hw 0 rfl) rfl ?_
      refine g_lxor 180 at_179 rfl ?_
      refine g_lstore 182 #[.val (.long p), .second, .val (.long q), .second, .val (.long s1), .second, .val (.long s2), .second, .val (.int md), .val (.int (Int32.ofNat kn)), .val (.int (Int32.ofNat cn)), .val (.long p), .second, .val (.long a1), .second, .val (.int (Int32.ofNat cap)), .val (.ref aA), .val (.ref aS), .val (.int rv), .val (.long p), .second, .val (.long (0 : Int64)), .second, .val (.long (((p ||| ((0 : Int64)))) ^^^ ((-1 : Int64)))), .second, .unset, .unset, .unset, .unset, .unset, .unset, .unset, .unset] at_180 rfl rfl ?_
      exact k182 l Z a0 hw n0 h0 kc ks hkc hks p q s1 s2 md kn cn cap a1 aA aS hkn hcn hcap _ _ rv A0 hA HH HA hd hp ha (Eq.symm (if_pos (show 1 ≤ kn by have := mt (own_lt (a := kn) (b := 1) (by omega) (by decide)).mpr c1; omega))) (Eq.symm (if_neg (show ¬ 2 ≤ kn by have := (own_lt (a := kn) (b := 2) (by omega) (by decide)).mp c2; omega)))
    · refine g_lload 165 at_163 rfl rfl ?_
      refine g_goto 169 at_165 rfl ?_
      refine g_lstore 171 #[.val (.long p), .second, .val (.long q), .second, .val (.long s1), .second, .val (.long s2), .second, .val (.int md), .val (.int (Int32.ofNat kn)), .val (.int (Int32.ofNat cn)), .val (.long p), .second, .val (.long a1), .second, .val (.int (Int32.ofNat cap)), .val (.ref aA), .val (.ref aS), .val (.int rv), .val (.long p), .second, .val (.long a1), .second, .unset, .unset, .unset, .unset, .unset, .unset, .unset, .unset, .unset, .unset] at_169 rfl rfl ?_
      refine g_lload 173 at_171 rfl rfl ?_
      refine g_lload 175 at_173 rfl rfl ?_
      refine g_lor 176 at_175 rfl ?_
      refine g_ldc2J (w := -1) 179 at_176 (wd hw 0 rfl) rfl ?_
      refine g_lxor 180 at_179 rfl ?_
      refine g_lstore 182 #[.val (.long p), .second, .val (.long q), .second, .val (.long s1), .second, .val (.long s2), .second, .val (.int md), .val (.int (Int32.ofNat kn)), .val (.int (Int32.ofNat cn)), .val (.long p), .second, .val (.long a1), .second, .val (.int (Int32.ofNat cap)), .val (.ref aA), .val (.ref aS), .val (.int rv), .val (.long p), .second, .val (.long a1), .second, .val (.long (((p ||| a1)) ^^^ ((-1 : Int64)))), .second, .unset, .unset, .unset, .unset, .unset, .unset, .unset, .unset] at_180 rfl rfl ?_
      exact k182 l Z a0 hw n0 h0 kc ks hkc hks p q s1 s2 md kn cn cap a1 aA aS hkn hcn hcap _ _ rv A0 hA HH HA hd hp ha (Eq.symm (if_pos (show 1 ≤ kn by have := mt (own_lt (a := kn) (b := 1) (by omega) (by decide)).mpr c1; omega))) (Eq.symm (if_pos (show 2 ≤ kn by have := mt (own_lt (a := kn) (b := 2) (by omega) (by decide)).mpr c2; omega)))
set_option maxRecDepth 65536 in
set_option maxHeartbeats 40000000 in
theorem k70_0 (l : Launch) (Z : State) (a0 : Array Value) (hw : ∀ d ∈ tables_1, d.before a0 Z = true) (n0 : Nat) (h0 : Heap) (p q s1 s2 : Int64) (md : Int32) (cn : Nat) (a1 : Int64) (hcn : cn ≤ 2) (hd : p &&& a1 = 0) (hp : 1 ≤ 0 → ¬ p = 0) (ha : 2 ≤ 0 → ¬ a1 = 0) : Go l Z n0 M_law room_1 (fun v _ => v = some (.int 1)) h0 0 0 70 #[.val (.long p), .second, .val (.long q), .second, .val (.long s1), .second, .val (.long s2), .second, .val (.int md), .val (.int (0 : Int32)), .val (.int (Int32.ofNat cn)), .val (.long p), .second, .val (.long a1), .second, .unset, .unset, .unset, .unset, .unset, .unset, .unset, .unset, .unset, .unset, .unset, .unset, .unset, .unset, .unset, .unset, .unset, .unset] [] := by
  obtain ⟨k, hk, ek⟩ := own_r10 (XT.ushr md 4)
  refine g_iload 72 at_70 rfl rfl ?_
  refine g_iload 74 at_72 rfl rfl ?_
  refine g_iconst 75 (4 : Int32) at_74 rfl rfl ?_
  refine g_iushr 76 at_75 rfl ?_
  refine g_bipush 78 (15 : Int32) at_76 rfl rfl ?_
  refine g_iand 79 at_78 rfl ?_
  refine g_bipush 81 (10 : Int32) at_79 rfl rfl ?_
  refine g_irem 82 at_81 (by decide) rfl ?_
  rw [ek]
  refine g_iadd 83 at_82 rfl ?_
  rw [show (0 : Int32) + Int32.ofNat k = Int32.ofNat (k + 0) from (own_add 0 k).trans (congrArg Int32.ofNat (Nat.add_comm 0 k))]
  refine g_istore 85 #[.val (.long p), .second, .val (.long q), .second, .val (.long s1), .second, .val (.long s2), .second, .val (.int md), .val (.int (0 : Int32)), .val (.int (Int32.ofNat cn)), .val (.long p), .second, .val (.long a1), .second, .val (.int (Int32.ofNat (k + 0))), .unset, .unset, .unset, .unset, .unset, .unset, .unset, .unset, .unset, .unset, .unset, .unset, .unset, .unset, .unset, .unset, .unset] at_83 rfl rfl ?_
  refine g_iload 87 at_85 rfl rfl ?_
  refine g_sz (fun Zs_h0 => ?_)
  refine g_mkA 89 at_87 (wd hw 1 rfl) rfl (own_nn (by omega)) 11 (own_cap (by omega) (by omega)) (by decide) (Nat.le_of_ble_eq_true rfl) (Nat.le_of_ble_eq_true rfl) rfl (fun hh1 cA1 gX1 gB1 => ?_)
  have gA1 := AryJ.fresh gB1 ((k + 0)) (own_ti (by omega))
  obtain ⟨aA, g1⟩ : ∃ z, z = h0.size := ⟨_, rfl⟩
  rw [← g1] at gA1 ⊢
  have ga_aA : n0 ≤ aA := by have := Zs_h0; omega
  refine g_astore 91 #[.val (.long p), .second, .val (.long q), .second, .val (.long s1), .second, .val (.long s2), .second, .val (.int md), .val (.int (0 : Int32)), .val (.int (Int32.ofNat cn)), .val (.long p), .second, .val (.long a1), .second, .val (.int (Int32.ofNat (k + 0))), .val (.ref aA), .unset, .unset, .unset, .unset, .unset, .unset, .unset, .unset, .unset, .unset, .unset, .unset, .unset, .unset, .unset, .unset] at_89 rfl rfl rfl ?_
  refine g_iload 93 at_91 rfl rfl ?_
  refine g_iconst 94 (1 : Int32) at_93 rfl rfl ?_
  refine g_icmpT 103 at_94 (show (0 : Int32) < 1 by decide) rfl ?_
  refine g_iload 105 at_103 rfl rfl ?_
  refine g_iconst 106 (2 : Int32) at_105 rfl rfl ?_
  refine g_icmpT 115 at_106 (show (0 : Int32) < 2 by decide) rfl ?_
  refine g_iconst 116 (2 : Int32) at_115 rfl rfl ?_
  refine g_sz (fun Zs_hh1 => ?_)
  refine g_mkA 118 at_116 (wd hw 1 rfl) rfl (by decide) 2 (by decide) (by decide) (Nat.le_of_ble_eq_true rfl) (Nat.le_of_ble_eq_true rfl) rfl (fun hh2 cA2 gX2 gB2 => ?_)
  have gA3 := gA1.ext gX2
  have gA2 := AryJ.fresh gB2 2 rfl
  obtain ⟨aS, g2⟩ : ∃ z, z = hh1.size := ⟨_, rfl⟩
  rw [← g2] at gA2 ⊢
  have ga_aS : n0 ≤ aS := by have := Zs_hh1; omega
  have lt_aA_aS : @LT.lt Nat _ aA aS := Nat.lt_of_lt_of_le gA1.lt (Nat.le_of_eq g2.symm)
  have ne_aA_aS : aA ≠ aS := Nat.ne_of_lt lt_aA_aS
  have ne_aS_aA : aS ≠ aA := fun z => ne_aA_aS z.symm
  refine g_dup 119 at_118 rfl rfl ?_
  refine g_iconst 120 (0 : Int32) at_119 rfl rfl ?_
  refine g_lload 122 at_120 rfl rfl ?_
  refine g_stJ 123 0 at_122 gA2 rfl (by simp) ga_aS rfl (fun hh4 gW4 => ?_)
  have gA5 := gA3.other gW4 ne_aA_aS
  have gA6 := gA2.set gW4
  refine g_dup 124 at_123 rfl rfl ?_
  refine g_iconst 125 (1 : Int32) at_124 rfl rfl ?_
  refine g_lload 127 at_125 rfl rfl ?_
  refine g_stJ 128 1 at_127 gA6 rfl (by simp) ga_aS rfl (fun hh7 gW7 => ?_)
  have gA8 := gA5.other gW7 ne_aA_aS
  have gA9 := gA6.set gW7
  refine g_astore 130 #[.val (.long p), .second, .val (.long q), .second, .val (.long s1), .second, .val (.long s2), .second, .val (.int md), .val (.int (0 : Int32)), .val (.int (Int32.ofNat cn)), .val (.long p), .second, .val (.long a1), .second, .val (.int (Int32.ofNat (k + 0))), .val (.ref aA), .val (.ref aS), .unset, .unset, .unset, .unset, .unset, .unset, .unset, .unset, .unset, .unset, .unset, .unset, .unset, .unset, .unset] at_128 rfl rfl rfl ?_
  refine g_aload 132 at_130 rfl rfl rfl ?_
  refine g_iload 134 at_132 rfl rfl ?_
  refine g_aload 136 at_134 rfl rfl rfl ?_
  refine g_iload 138 at_136 rfl rfl ?_
  refine g_callS 141 (N := M_sp) [(.ref aS), (.int (Int32.ofNat cn)), (.ref aA), (.int (0 : Int32))] [] at_138 (wd hw 2 rfl) (wd hw 3 rfl) (wd hw 4 rfl) (wd hw 5 rfl) (by decide) (c_sp l Z a0 hw n0 hh7 aS aA cn 0 [s1, s2] (k + 0) (by omega) ga_aA ne_aS_aA ([s1, s2].take cn) ([] : List Int64) ([s1, s2].drop cn) (List.replicate k 0) (by simp; omega) (by omega) (List.take_append_drop cn [s1, s2]).symm rfl gA8 (by simp; try omega) gA9) rfl pd_sp rfl rfl (Nat.le_of_ble_eq_true rfl) (Nat.le_of_ble_eq_true rfl) (Nat.le_of_ble_eq_true rfl) (Nat.le_of_ble_eq_true rfl) rfl ?_
  intro v hz HQ
  obtain ⟨rv, rfl, HH⟩ : ∃ rv, v = some (Value.int rv) ∧ ((cS (k + 0) ([s1, s2].take cn) ([] : List Int64) = none ∧ rv = -1) ∨ ∃ B pd, cS (k + 0) ([s1, s2].take cn) ([] : List Int64) = some B ∧ rv = Int32.ofNat B.length ∧ AryJ Z hz aA (B ++ pd)) := by
    rcases HQ with ⟨e, rfl⟩ | ⟨B, pd, e, rfl, A⟩
    · exact ⟨_, rfl, Or.inl ⟨e, rfl⟩⟩
    · exact ⟨_, rfl, Or.inr ⟨B, pd, e, rfl, A⟩⟩
  show Go _ _ _ _ _ _ _ _ _ 141 #[.val (.long p), .second, .val (.long q), .second, .val (.long s1), .second, .val (.long s2), .second, .val (.int md), .val (.int (0 : Int32)), .val (.int (Int32.ofNat cn)), .val (.long p), .second, .val (.long a1), .second, .val (.int (Int32.ofNat (k + 0))), .val (.ref aA), .val (.ref aS), .unset, .unset, .unset, .unset, .unset, .unset, .unset, .unset, .unset, .unset, .unset, .unset, .unset, .unset, .unset] [(.int rv)]
  refine g_istore 143 #[.val (.long p), .second, .val (.long q), .second, .val (.long s1), .second, .val (.long s2), .second, .val (.int md), .val (.int (0 : Int32)), .val (.int (Int32.ofNat cn)), .val (.long p), .second, .val (.long a1), .second, .val (.int (Int32.ofNat (k + 0))), .val (.ref aA), .val (.ref aS), .val (.int rv), .unset, .unset, .unset, .unset, .unset, .unset, .unset, .unset, .unset, .unset, .unset, .unset, .unset, .unset] at_141 rfl rfl ?_
  exact k143 l Z a0 hw n0 hz _ _ (Nat.le_of_ble_eq_true rfl) (Nat.le_of_ble_eq_true rfl) p q s1 s2 md 0 cn (k + 0) a1 aA aS (by decide) hcn (by omega) rv ([] : List Int64) (by simp) HH (fun x0 x1 h0 h1 => by rw [h0, h1]; rfl) hd hp ha
set_option maxRecDepth 65536 in
set_option maxHeartbeats 40000000 in
theorem k70_1 (l : Launch) (Z : State) (a0 : Array Value) (hw : ∀ d ∈ tables_1, d.before a0 Z = true) (n0 : Nat) (h0 : Heap) (p q s1 s2 : Int64) (md : Int32) (cn : Nat) (a1 : Int64) (hcn : cn ≤ 2) (hd : p &&& a1 = 0) (hp : 1 ≤ 1 → ¬ p = 0) (ha : 2 ≤ 1 → ¬ a1 = 0) : Go l Z n0 M_law room_1 (fun v _ => v = some (.int 1)) h0 0 0 70 #[.val (.long p), .second, .val (.long q), .second, .val (.long s1), .second, .val (.long s2), .second, .val (.int md), .val (.int (1 : Int32)), .val (.int (Int32.ofNat cn)), .val (.long p), .second, .val (.long a1), .second, .unset, .unset, .unset, .unset, .unset, .unset, .unset, .unset, .unset, .unset, .unset, .unset, .unset, .unset, .unset, .unset, .unset, .unset] [] := by
  obtain ⟨k, hk, ek⟩ := own_r10 (XT.ushr md 4)
  refine g_iload 72 at_70 rfl rfl ?_
  refine g_iload 74 at_72 rfl rfl ?_
  refine g_iconst 75 (4 : Int32) at_74 rfl rfl ?_
  refine g_iushr 76 at_75 rfl ?_
  refine g_bipush 78 (15 : Int32) at_76 rfl rfl ?_
  refine g_iand 79 at_78 rfl ?_
  refine g_bipush 81 (10 : Int32) at_79 rfl rfl ?_
  refine g_irem 82 at_81 (by decide) rfl ?_
  rw [ek]
  refine g_iadd 83 at_82 rfl ?_
  rw [show (1 : Int32) + Int32.ofNat k = Int32.ofNat (k + 1) from (own_add 1 k).trans (congrArg Int32.ofNat (Nat.add_comm 1 k))]
  refine g_istore 85 #[.val (.long p), .second, .val (.long q), .second, .val (.long s1), .second, .val (.long s2), .second, .val (.int md), .val (.int (1 : Int32)), .val (.int (Int32.ofNat cn)), .val (.long p), .second, .val (.long a1), .second, .val (.int (Int32.ofNat (k + 1))), .unset, .unset, .unset, .unset, .unset, .unset, .unset, .unset, .unset, .unset, .unset, .unset, .unset, .unset, .unset, .unset, .unset] at_83 rfl rfl ?_
  refine g_iload 87 at_85 rfl rfl ?_
  refine g_sz (fun Zs_h0 => ?_)
  refine g_mkA 89 at_87 (wd hw 1 rfl) rfl (own_nn (by omega)) 11 (own_cap (by omega) (by omega)) (by decide) (Nat.le_of_ble_eq_true rfl) (Nat.le_of_ble_eq_true rfl) rfl (fun hh1 cA1 gX1 gB1 => ?_)
  have gA1 := AryJ.fresh gB1 ((k + 1)) (own_ti (by omega))
  obtain ⟨aA, g1⟩ : ∃ z, z = h0.size := ⟨_, rfl⟩
  rw [← g1] at gA1 ⊢
  have ga_aA : n0 ≤ aA := by have := Zs_h0; omega
  refine g_astore 91 #[.val (.long p), .second, .val (.long q), .second, .val (.long s1), .second, .val (.long s2), .second, .val (.int md), .val (.int (1 : Int32)), .val (.int (Int32.ofNat cn)), .val (.long p), .second, .val (.long a1), .second, .val (.int (Int32.ofNat (k + 1))), .val (.ref aA), .unset, .unset, .unset, .unset, .unset, .unset, .unset, .unset, .unset, .unset, .unset, .unset, .unset, .unset, .unset, .unset] at_89 rfl rfl rfl ?_
  refine g_iload 93 at_91 rfl rfl ?_
  refine g_iconst 94 (1 : Int32) at_93 rfl rfl ?_
  refine g_icmpF 97 at_94 (show ¬ (1 : Int32) < 1 by decide) rfl ?_
  refine g_aload 99 at_97 rfl rfl rfl ?_
  refine g_iconst 100 (0 : Int32) at_99 rfl rfl ?_
  refine g_lload 102 at_100 rfl rfl ?_
  refine g_stJ 103 0 at_102 gA1 rfl (by simp) ga_aA rfl (fun hh2 gW2 => ?_)
  have gA3 := gA1.set gW2
  refine g_iload 105 at_103 rfl rfl ?_
  refine g_iconst 106 (2 : Int32) at_105 rfl rfl ?_
  refine g_icmpT 115 at_106 (show (1 : Int32) < 2 by decide) rfl ?_
  refine g_iconst 116 (2 : Int32) at_115 rfl rfl ?_
  refine g_sz (fun Zs_hh2 => ?_)
  refine g_mkA 118 at_116 (wd hw 1 rfl) rfl (by decide) 2 (by decide) (by decide) (Nat.le_of_ble_eq_true rfl) (Nat.le_of_ble_eq_true rfl) rfl (fun hh4 cA4 gX4 gB4 => ?_)
  have gA5 := gA3.ext gX4
  have gA4 := AryJ.fresh gB4 2 rfl
  obtain ⟨aS, g4⟩ : ∃ z, z = hh2.size := ⟨_, rfl⟩
  rw [← g4] at gA4 ⊢
  have ga_aS : n0 ≤ aS := by have := Zs_hh2; omega
  have lt_aA_aS : @LT.lt Nat _ aA aS := Nat.lt_of_lt_of_le gA3.lt (Nat.le_of_eq g4.symm)
  have ne_aA_aS : aA ≠ aS := Nat.ne_of_lt lt_aA_aS
  have ne_aS_aA : aS ≠ aA := fun z => ne_aA_aS z.symm
  refine g_dup 119 at_118 rfl rfl ?_
  refine g_iconst 120 (0 : Int32) at_119 rfl rfl ?_
  refine g_lload 122 at_120 rfl rfl ?_
  refine g_stJ 123 0 at_122 gA4 rfl (by simp) ga_aS rfl (fun hh6 gW6 => ?_)
  have gA7 := gA5.other gW6 ne_aA_aS
  have gA8 := gA4.set gW6
  refine g_dup 124 at_123 rfl rfl ?_
  refine g_iconst 125 (1 : Int32) at_124 rfl rfl ?_
  refine g_lload 127 at_125 rfl rfl ?_
  refine g_stJ 128 1 at_127 gA8 rfl (by simp) ga_aS rfl (fun hh9 gW9 => ?_)
  have gA10 := gA7.other gW9 ne_aA_aS
  have gA11 := gA8.set gW9
  refine g_astore 130 #[.val (.long p), .second, .val (.long q), .second, .val (.long s1), .second, .val (.long s2), .second, .val (.int md), .val (.int (1 : Int32)), .val (.int (Int32.ofNat cn)), .val (.long p), .second, .val (.long a1), .second, .val (.int (Int32.ofNat (k + 1))), .val (.ref aA), .val (.ref aS), .unset, .unset, .unset, .unset, .unset, .unset, .unset, .unset, .unset, .unset, .unset, .unset, .unset, .unset, .unset] at_128 rfl rfl rfl ?_
  refine g_aload 132 at_130 rfl rfl rfl ?_
  refine g_iload 134 at_132 rfl rfl ?_
  refine g_aload 136 at_134 rfl rfl rfl ?_
  refine g_iload 138 at_136 rfl rfl ?_
  refine g_callS 141 (N := M_sp) [(.ref aS), (.int (Int32.ofNat cn)), (.ref aA), (.int (1 : Int32))] [] at_138 (wd hw 2 rfl) (wd hw 3 rfl) (wd hw 4 rfl) (wd hw 5 rfl) (by decide) (c_sp l Z a0 hw n0 hh9 aS aA cn 1 [s1, s2] (k + 1) (by omega) ga_aA ne_aS_aA ([s1, s2].take cn) [p] ([s1, s2].drop cn) (List.replicate k 0) (by simp; omega) (by omega) (List.take_append_drop cn [s1, s2]).symm rfl gA10 (by simp; try omega) gA11) rfl pd_sp rfl rfl (Nat.le_of_ble_eq_true rfl) (Nat.le_of_ble_eq_true rfl) (Nat.le_of_ble_eq_true rfl) (Nat.le_of_ble_eq_true rfl) rfl ?_
  intro v hz HQ
  obtain ⟨rv, rfl, HH⟩ : ∃ rv, v = some (Value.int rv) ∧ ((cS (k + 1) ([s1, s2].take cn) [p] = none ∧ rv = -1) ∨ ∃ B pd, cS (k + 1) ([s1, s2].take cn) [p] = some B ∧ rv = Int32.ofNat B.length ∧ AryJ Z hz aA (B ++ pd)) := by
    rcases HQ with ⟨e, rfl⟩ | ⟨B, pd, e, rfl, A⟩
    · exact ⟨_, rfl, Or.inl ⟨e, rfl⟩⟩
    · exact ⟨_, rfl, Or.inr ⟨B, pd, e, rfl, A⟩⟩
  show Go _ _ _ _ _ _ _ _ _ 141 #[.val (.long p), .second, .val (.long q), .second, .val (.long s1), .second, .val (.long s2), .second, .val (.int md), .val (.int (1 : Int32)), .val (.int (Int32.ofNat cn)), .val (.long p), .second, .val (.long a1), .second, .val (.int (Int32.ofNat (k + 1))), .val (.ref aA), .val (.ref aS), .unset, .unset, .unset, .unset, .unset, .unset, .unset, .unset, .unset, .unset, .unset, .unset, .unset, .unset, .unset] [(.int rv)]
  refine g_istore 143 #[.val (.long p), .second, .val (.long q), .second, .val (.long s1), .second, .val (.long s2), .second, .val (.int md), .val (.int (1 : Int32)), .val (.int (Int32.ofNat cn)), .val (.long p), .second, .val (.long a1), .second, .val (.int (Int32.ofNat (k + 1))), .val (.ref aA), .val (.ref aS), .val (.int rv), .unset, .unset, .unset, .unset, .unset, .unset, .unset, .unset, .unset, .unset, .unset, .unset, .unset, .unset] at_141 rfl rfl ?_
  exact k143 l Z a0 hw n0 hz _ _ (Nat.le_of_ble_eq_true rfl) (Nat.le_of_ble_eq_true rfl) p q s1 s2 md 1 cn (k + 1) a1 aA aS (by decide) hcn (by omega) rv [p] (by simp) HH (fun x0 x1 h0 h1 => by rw [if_pos (by decide)] at h0; rw [if_neg (by decide)] at h1; rw [h0, h1]; unfold ini; rw [if_neg (hp (by decide)), if_pos rfl]) hd hp ha
set_option maxRecDepth 65536 in
set_option maxHeartbeats 40000000 in
theorem k70_2 (l : Launch) (Z : State) (a0 : Array Value) (hw : ∀ d ∈ tables_1, d.before a0 Z = true) (n0 : Nat) (h0 : Heap) (p q s1 s2 : Int64) (md : Int32) (cn : Nat) (a1 : Int64) (hcn : cn ≤ 2) (hd : p &&& a1 = 0) (hp : 1 ≤ 2 → ¬ p = 0) (ha : 2 ≤ 2 → ¬ a1 = 0) : Go l Z n0 M_law room_1 (fun v _ => v = some (.int 1)) h0 0 0 70 #[.val (.long p), .second, .val (.long q), .second, .val (.long s1), .second, .val (.long s2), .second, .val (.int md), .val (.int (2 : Int32)), .val (.int (Int32.ofNat cn)), .val (.long p), .second, .val (.long a1), .second, .unset, .unset, .unset, .unset, .unset, .unset, .unset, .unset, .unset, .unset, .unset, .unset, .unset, .unset, .unset, .unset, .unset, .unset] [] := by
  obtain ⟨k, hk, ek⟩ := own_r10 (XT.ushr md 4)
  refine g_iload 72 at_70 rfl rfl ?_
  refine g_iload 74 at_72 rfl rfl ?_
  refine g_iconst 75 (4 : Int32) at_74 rfl rfl ?_
  refine g_iushr 76 at_75 rfl ?_
  refine g_bipush 78 (15 : Int32) at_76 rfl rfl ?_
  refine g_iand 79 at_78 rfl ?_
  refine g_bipush 81 (10 : Int32) at_79 rfl rfl ?_
  refine g_irem 82 at_81 (by decide) rfl ?_
  rw [ek]
  refine g_iadd 83 at_82 rfl ?_
  rw [show (2 : Int32) + Int32.ofNat k = Int32.ofNat (k + 2) from (own_add 2 k).trans (congrArg Int32.ofNat (Nat.add_comm 2 k))]
  refine g_istore 85 #[.val (.long p), .second, .val (.long q), .second, .val (.long s1), .second, .val (.long s2), .second, .val (.int md), .val (.int (2 : Int32)), .val (.int (Int32.ofNat cn)), .val (.long p), .second, .val (.long a1), .second, .val (.int (Int32.ofNat (k + 2))), .unset, .unset, .unset, .unset, .unset, .unset, .unset, .unset, .unset, .unset, .unset, .unset, .unset, .unset, .unset, .unset, .unset] at_83 rfl rfl ?_
  refine g_iload 87 at_85 rfl rfl ?_
  refine g_sz (fun Zs_h0 => ?_)
  refine g_mkA 89 at_87 (wd hw 1 rfl) rfl (own_nn (by omega)) 11 (own_cap (by omega) (by omega)) (by decide) (Nat.le_of_ble_eq_true rfl) (Nat.le_of_ble_eq_true rfl) rfl (fun hh1 cA1 gX1 gB1 => ?_)
  have gA1 := AryJ.fresh gB1 ((k + 2)) (own_ti (by omega))
  obtain ⟨aA, g1⟩ : ∃ z, z = h0.size := ⟨_, rfl⟩
  rw [← g1] at gA1 ⊢
  have ga_aA : n0 ≤ aA := by have := Zs_h0; omega
  refine g_astore 91 #[.val (.long p), .second, .val (.long q), .second, .val (.long s1), .second, .val (.long s2), .second, .val (.int md), .val (.int (2 : Int32)), .val (.int (Int32.ofNat cn)), .val (.long p), .second, .val (.long a1), .second, .val (.int (Int32.ofNat (k + 2))), .val (.ref aA), .unset, .unset, .unset, .unset, .unset, .unset, .unset, .unset, .unset, .unset, .unset, .unset, .unset, .unset, .unset, .unset] at_89 rfl rfl rfl ?_
  refine g_iload 93 at_91 rfl rfl ?_
  refine g_iconst 94 (1 : Int32) at_93 rfl rfl ?_
  refine g_icmpF 97 at_94 (show ¬ (2 : Int32) < 1 by decide) rfl ?_
  refine g_aload 99 at_97 rfl rfl rfl ?_
  refine g_iconst 100 (0 : Int32) at_99 rfl rfl ?_
  refine g_lload 102 at_100 rfl rfl ?_
  refine g_stJ 103 0 at_102 gA1 rfl (by simp) ga_aA rfl (fun hh2 gW2 => ?_)
  have gA3 := gA1.set gW2
  refine g_iload 105 at_103 rfl rfl ?_
  refine g_iconst 106 (2 : Int32) at_105 rfl rfl ?_
  refine g_icmpF 109 at_106 (show ¬ (2 : Int32) < 2 by decide) rfl ?_
  refine g_aload 111 at_109 rfl rfl rfl ?_
  refine g_iconst 112 (1 : Int32) at_111 rfl rfl ?_
  refine g_lload 114 at_112 rfl rfl ?_
  refine g_stJ 115 1 at_114 gA3 rfl (by simp) ga_aA rfl (fun hh4 gW4 => ?_)
  have gA5 := gA3.set gW4
  refine g_iconst 116 (2 : Int32) at_115 rfl rfl ?_
  refine g_sz (fun Zs_hh4 => ?_)
  refine g_mkA 118 at_116 (wd hw 1 rfl) rfl (by decide) 2 (by decide) (by decide) (Nat.le_of_ble_eq_true rfl) (Nat.le_of_ble_eq_true rfl) rfl (fun hh6 cA6 gX6 gB6 => ?_)
  have gA7 := gA5.ext gX6
  have gA6 := AryJ.fresh gB6 2 rfl
  obtain ⟨aS, g6⟩ : ∃ z, z = hh4.size := ⟨_, rfl⟩
  rw [← g6] at gA6 ⊢
  have ga_aS : n0 ≤ aS := by have := Zs_hh4; omega
  have lt_aA_aS : @LT.lt Nat _ aA aS := Nat.lt_of_lt_of_le gA5.lt (Nat.le_of_eq g6.symm)
  have ne_aA_aS : aA ≠ aS := Nat.ne_of_lt lt_aA_aS
  have ne_aS_aA : aS ≠ aA := fun z => ne_aA_aS z.symm
  refine g_dup 119 at_118 rfl rfl ?_
  refine g_iconst 120 (0 : Int32) at_119 rfl rfl ?_
  refine g_lload 122 at_120 rfl rfl ?_
  refine g_stJ 123 0 at_122 gA6 rfl (by simp) ga_aS rfl (fun hh8 gW8 => ?_)
  have gA9 := gA7.other gW8 ne_aA_aS
  have gA10 := gA6.set gW8
  refine g_dup 124 at_123 rfl rfl ?_
  refine g_iconst 125 (1 : Int32) at_124 rfl rfl ?_
  refine g_lload 127 at_125 rfl rfl ?_
  refine g_stJ 128 1 at_127 gA10 rfl (by simp) ga_aS rfl (fun hh11 gW11 => ?_)
  have gA12 := gA9.other gW11 ne_aA_aS
  have gA13 := gA10.set gW11
  refine g_astore 130 #[.val (.long p), .second, .val (.long q), .second, .val (.long s1), .second, .val (.long s2), .second, .val (.int md), .val (.int (2 : Int32)), .val (.int (Int32.ofNat cn)), .val (.long p), .second, .val (.long a1), .second, .val (.int (Int32.ofNat (k + 2))), .val (.ref aA), .val (.ref aS), .unset, .unset, .unset, .unset, .unset, .unset, .unset, .unset, .unset, .unset, .unset, .unset, .unset, .unset, .unset] at_128 rfl rfl rfl ?_
  refine g_aload 132 at_130 rfl rfl rfl ?_
  refine g_iload 134 at_132 rfl rfl ?_
  refine g_aload 136 at_134 rfl rfl rfl ?_
  refine g_iload 138 at_136 rfl rfl ?_
  refine g_callS 141 (N := M_sp) [(.ref aS), (.int (Int32.ofNat cn)), (.ref aA), (.int (2 : Int32))] [] at_138 (wd hw 2 rfl) (wd hw 3 rfl) (wd hw 4 rfl) (wd hw 5 rfl) (by decide) (c_sp l Z a0 hw n0 hh11 aS aA cn 2 [s1, s2] (k + 2) (by omega) ga_aA ne_aS_aA ([s1, s2].take cn) [p, a1] ([s1, s2].drop cn) (List.replicate k 0) (by simp; omega) (by omega) (List.take_append_drop cn [s1, s2]).symm rfl gA12 (by simp; try omega) gA13) rfl pd_sp rfl rfl (Nat.le_of_ble_eq_true rfl) (Nat.le_of_ble_eq_true rfl) (Nat.le_of_ble_eq_true rfl) (Nat.le_of_ble_eq_true rfl) rfl ?_
  intro v hz HQ
  obtain ⟨rv, rfl, HH⟩ : ∃ rv, v = some (Value.int rv) ∧ ((cS (k + 2) ([s1, s2].take cn) [p, a1] = none ∧ rv = -1) ∨ ∃ B pd, cS (k + 2) ([s1, s2].take cn) [p, a1] = some B ∧ rv = Int32.ofNat B.length ∧ AryJ Z hz aA (B ++ pd)) := by
    rcases HQ with ⟨e, rfl⟩ | ⟨B, pd, e, rfl, A⟩
    · exact ⟨_, rfl, Or.inl ⟨e, rfl⟩⟩
    · exact ⟨_, rfl, Or.inr ⟨B, pd, e, rfl, A⟩⟩
  show Go _ _ _ _ _ _ _ _ _ 141 #[.val (.long p), .second, .val (.long q), .second, .val (.long s1), .second, .val (.long s2), .second, .val (.int md), .val (.int (2 : Int32)), .val (.int (Int32.ofNat cn)), .val (.long p), .second, .val (.long a1), .second, .val (.int (Int32.ofNat (k + 2))), .val (.ref aA), .val (.ref aS), .unset, .unset, .unset, .unset, .unset, .unset, .unset, .unset, .unset, .unset, .unset, .unset, .unset, .unset, .unset] [(.int rv)]
  refine g_istore 143 #[.val (.long p), .second, .val (.long q), .second, .val (.long s1), .second, .val (.long s2), .second, .val (.int md), .val (.int (2 : Int32)), .val (.int (Int32.ofNat cn)), .val (.long p), .second, .val (.long a1), .second, .val (.int (Int32.ofNat (k + 2))), .val (.ref aA), .val (.ref aS), .val (.int rv), .unset, .unset, .unset, .unset, .unset, .unset, .unset, .unset, .unset, .unset, .unset, .unset, .unset, .unset] at_141 rfl rfl ?_
  exact k143 l Z a0 hw n0 hz _ _ (Nat.le_of_ble_eq_true rfl) (Nat.le_of_ble_eq_true rfl) p q s1 s2 md 2 cn (k + 2) a1 aA aS (by decide) hcn (by omega) rv [p, a1] (by simp) HH (fun x0 x1 h0 h1 => by rw [if_pos (by decide)] at h0 h1; rw [h0, h1]; unfold ini; rw [if_neg (hp (by decide)), if_neg (ha (by decide))]) hd hp ha
set_option maxRecDepth 65536 in
set_option maxHeartbeats 40000000 in
theorem k70 (l : Launch) (Z : State) (a0 : Array Value) (hw : ∀ d ∈ tables_1, d.before a0 Z = true) (n0 : Nat) (h0 : Heap) (p q s1 s2 : Int64) (md : Int32) (kn cn : Nat) (a1 : Int64) (hkn : kn ≤ 2) (hcn : cn ≤ 2) (hd : p &&& a1 = 0) (hp : 1 ≤ kn → ¬ p = 0) (ha : 2 ≤ kn → ¬ a1 = 0) : Go l Z n0 M_law room_1 (fun v _ => v = some (.int 1)) h0 0 0 70 #[.val (.long p), .second, .val (.long q), .second, .val (.long s1), .second, .val (.long s2), .second, .val (.int md), .val (.int (Int32.ofNat kn)), .val (.int (Int32.ofNat cn)), .val (.long p), .second, .val (.long a1), .second, .unset, .unset, .unset, .unset, .unset, .unset, .unset, .unset, .unset, .unset, .unset, .unset, .unset, .unset, .unset, .unset, .unset, .unset] [] := by
  match kn, hkn with
  | 0, _ => exact k70_0 l Z a0 hw n0 h0 p q s1 s2 md cn a1 hcn hd hp ha
  | 1, _ => exact k70_1 l Z a0 hw n0 h0 p q s1 s2 md cn a1 hcn hd hp ha
  | 2, _ => exact k70_2 l Z a0 hw n0 h0 p q s1 s2 md cn a1 hcn hd hp ha
set_option maxRecDepth 65536 in
set_option maxHeartbeats 40000000 in
theorem k54 (l : Launch) (Z : State) (a0 : Array Value) (hw : ∀ d ∈ tables_1, d.before a0 Z = true) (n0 : Nat) (h0 : Heap) (p q s1 s2 : Int64) (md : Int32) (kn cn : Nat) (a1 : Int64) (hkn : kn ≤ 2) (hcn : cn ≤ 2) (hd : p &&& a1 = 0) (hp : 1 ≤ kn → ¬ p = 0) : Go l Z n0 M_law room_1 (fun v _ => v = some (.int 1)) h0 0 0 54 #[.val (.long p), .second, .val (.long q), .second, .val (.long s1), .second, .val (.long s2), .second, .val (.int md), .val (.int (Int32.ofNat kn)), .val (.int (Int32.ofNat cn)), .val (.long p), .second, .val (.long a1), .second, .unset, .unset, .unset, .unset, .unset, .unset, .unset, .unset, .unset, .unset, .unset, .unset, .unset, .unset, .unset, .unset, .unset, .unset] [] := by
  refine g_iload 56 at_54 rfl rfl ?_
  refine g_iconst 57 (2 : Int32) at_56 rfl rfl ?_
  refine g_icmp 70 60 at_57 rfl rfl (fun c1 => ?_) (fun c1 => ?_)
  · exact k70 l Z a0 hw n0 h0 p q s1 s2 md kn cn a1 hkn hcn hd hp (fun g => absurd (show kn = 2 by omega) (fun z => c1 (by rw [z]; rfl)))
  · refine g_lload 62 at_60 rfl rfl ?_
    refine g_lconst 63 (0 : Int64) at_62 rfl rfl ?_
    refine g_lcmp 70 67 at_63 at_64 rfl rfl (fun c2 => ?_) (fun c2 => ?_)
    · exact k70 l Z a0 hw n0 h0 p q s1 s2 md kn cn a1 hkn hcn hd hp (fun _ => c2)
    · refine g_iconst 68 (1 : Int32) at_67 rfl rfl ?_
      refine g_istore 70 #[.val (.long p), .second, .val (.long q), .second, .val (.long s1), .second, .val (.long s2), .second, .val (.int md), .val (.int (1 : Int32)), .val (.int (Int32.ofNat cn)), .val (.long p), .second, .val (.long a1), .second, .unset, .unset, .unset, .unset, .unset, .unset, .unset, .unset, .unset, .unset, .unset, .unset, .unset, .unset, .unset, .unset, .unset, .unset] at_68 rfl rfl ?_
      exact k70 l Z a0 hw n0 h0 p q s1 s2 md 1 cn a1 (by decide) hcn hd (fun _ => hp (by have := (own_eq (a := kn) (b := 2) (by omega) (by decide)).mp (Classical.not_not.mp c1); omega)) (fun g => absurd g (by decide))
set_option maxRecDepth 65536 in
set_option maxHeartbeats 40000000 in
theorem k32 (l : Launch) (Z : State) (a0 : Array Value) (hw : ∀ d ∈ tables_1, d.before a0 Z = true) (n0 : Nat) (h0 : Heap) (p q s1 s2 : Int64) (md : Int32) (kn cn : Nat) (hkn : kn ≤ 2) (hcn : cn ≤ 2) : Go l Z n0 M_law room_1 (fun v _ => v = some (.int 1)) h0 0 0 32 #[.val (.long p), .second, .val (.long q), .second, .val (.long s1), .second, .val (.long s2), .second, .val (.int md), .val (.int (Int32.ofNat kn)), .val (.int (Int32.ofNat cn)), .unset, .unset, .unset, .unset, .unset, .unset, .unset, .unset, .unset, .unset, .unset, .unset, .unset, .unset, .unset, .unset, .unset, .unset, .unset, .unset, .unset, .unset] [] := by
  refine g_lload_n 33 at_32 rfl rfl ?_
  refine g_lstore 35 #[.val (.long p), .second, .val (.long q), .second, .val (.long s1), .second, .val (.long s2), .second, .val (.int md), .val (.int (Int32.ofNat kn)), .val (.int (Int32.ofNat cn)), .val (.long p), .second, .unset, .unset, .unset, .unset, .unset, .unset, .unset, .unset, .unset, .unset, .unset, .unset, .unset, .unset, .unset, .unset, .unset, .unset, .unset, .unset] at_33 rfl rfl ?_
  refine g_lload_n 36 at_35 rfl rfl ?_
  refine g_lload_n 37 at_36 rfl rfl ?_
  refine g_ldc2J (w := -1) 40 at_37 (wd hw 0 rfl) rfl ?_
  refine g_lxor 41 at_40 rfl ?_
  refine g_land 42 at_41 rfl ?_
  refine g_lstore 44 #[.val (.long p), .second, .val (.long q), .second, .val (.long s1), .second, .val (.long s2), .second, .val (.int md), .val (.int (Int32.ofNat kn)), .val (.int (Int32.ofNat cn)), .val (.long p), .second, .val (.long (q &&& ((p ^^^ ((-1 : Int64)))))), .second, .unset, .unset, .unset, .unset, .unset, .unset, .unset, .unset, .unset, .unset, .unset, .unset, .unset, .unset, .unset, .unset, .unset, .unset] at_42 rfl rfl ?_
  refine g_lload 46 at_44 rfl rfl ?_
  refine g_lconst 47 (0 : Int64) at_46 rfl rfl ?_
  refine g_lcmp 54 51 at_47 at_48 rfl rfl (fun c1 => ?_) (fun c1 => ?_)
  · exact k54 l Z a0 hw n0 h0 p q s1 s2 md kn cn _ hkn hcn (own_dj p q) (fun _ => c1)
  · refine g_iconst 52 (0 : Int32) at_51 rfl rfl ?_
    refine g_istore 54 #[.val (.long p), .second, .val (.long q), .second, .val (.long s1), .second, .val (.long s2), .second, .val (.int md), .val (.int (0 : Int32)), .val (.int (Int32.ofNat cn)), .val (.long p), .second, .val (.long (q &&& ((p ^^^ ((-1 : Int64)))))), .second, .unset, .unset, .unset, .unset, .unset, .unset, .unset, .unset, .unset, .unset, .unset, .unset, .unset, .unset, .unset, .unset, .unset, .unset] at_52 rfl rfl ?_
    exact k54 l Z a0 hw n0 h0 p q s1 s2 md 0 cn _ (by decide) hcn (own_dj p q) (fun g => absurd g (by decide))
set_option maxRecDepth 65536 in
set_option maxHeartbeats 40000000 in
theorem k15 (l : Launch) (Z : State) (a0 : Array Value) (hw : ∀ d ∈ tables_1, d.before a0 Z = true) (n0 : Nat) (h0 : Heap) (p q s1 s2 : Int64) (md : Int32) (kn : Nat) (hkn : kn ≤ 2) : Go l Z n0 M_law room_1 (fun v _ => v = some (.int 1)) h0 0 0 15 #[.val (.long p), .second, .val (.long q), .second, .val (.long s1), .second, .val (.long s2), .second, .val (.int md), .val (.int (Int32.ofNat kn)), .unset, .unset, .unset, .unset, .unset, .unset, .unset, .unset, .unset, .unset, .unset, .unset, .unset, .unset, .unset, .unset, .unset, .unset, .unset, .unset, .unset, .unset, .unset] [] := by
  obtain ⟨c, hc, ec⟩ := own_r3 (XT.ushr md 2)
  refine g_iload 17 at_15 rfl rfl ?_
  refine g_iconst 18 (2 : Int32) at_17 rfl rfl ?_
  refine g_iushr 19 at_18 rfl ?_
  refine g_iconst 20 (3 : Int32) at_19 rfl rfl ?_
  refine g_iand 21 at_20 rfl ?_
  rw [ec]
  refine g_istore 23 #[.val (.long p), .second, .val (.long q), .second, .val (.long s1), .second, .val (.long s2), .second, .val (.int md), .val (.int (Int32.ofNat kn)), .val (.int (Int32.ofNat c)), .unset, .unset, .unset, .unset, .unset, .unset, .unset, .unset, .unset, .unset, .unset, .unset, .unset, .unset, .unset, .unset, .unset, .unset, .unset, .unset, .unset, .unset] at_21 rfl rfl ?_
  refine g_iload 25 at_23 rfl rfl ?_
  refine g_iconst 26 (3 : Int32) at_25 rfl rfl ?_
  refine g_icmp 32 29 at_26 rfl rfl (fun c1 => ?_) (fun c1 => ?_)
  · exact k32 l Z a0 hw n0 h0 p q s1 s2 md kn c hkn (by have : ¬ c = 3 := fun z => c1 (by rw [z]; rfl); omega)
  · refine g_iconst 30 (2 : Int32) at_29 rfl rfl ?_
    refine g_istore 32 #[.val (.long p), .second, .val (.long q), .second, .val (.long s1), .second, .val (.long s2), .second, .val (.int md), .val (.int (Int32.ofNat kn)), .val (.int (2 : Int32)), .unset, .unset, .unset, .unset, .unset, .unset, .unset, .unset, .unset, .unset, .unset, .unset, .unset, .unset, .unset, .unset, .unset, .unset, .unset, .unset, .unset, .unset] at_30 rfl rfl ?_
    exact k32 l Z a0 hw n0 h0 p q s1 s2 md kn 2 hkn (by decide)
set_option maxRecDepth 65536 in
set_option maxHeartbeats 40000000 in
theorem c_law (l : Launch) (Z : State) (a0 : Array Value) (hw : ∀ d ∈ tables_1, d.before a0 Z = true) (n0 : Nat) (h0 : Heap) (p q s1 s2 : Int64) (md : Int32) :
    Con l Z n0 M_law room_1 #[(.long p), (.long q), (.long s1), (.long s2), (.int md)] h0 (fun v _ => v = some (.int 1)) := by
  refine con_intro pl_law #[.val (.long p), .second, .val (.long q), .second, .val (.long s1), .second, .val (.long s2), .second, .val (.int md), .unset, .unset, .unset, .unset, .unset, .unset, .unset, .unset, .unset, .unset, .unset, .unset, .unset, .unset, .unset, .unset, .unset, .unset, .unset, .unset, .unset, .unset, .unset, .unset] (fun m => by first | (simp [entryFrame, mkF, argsToLocals, Value.category, maxLocals]; done) | rfl) (fun Zs_h0 => ?_)
  obtain ⟨c, hc, ec⟩ := own_r3 md
  refine g_iload 2 at_0 rfl rfl ?_
  refine g_iconst 3 (3 : Int32) at_2 rfl rfl ?_
  refine g_iand 4 at_3 rfl ?_
  rw [ec]
  refine g_istore 6 #[.val (.long p), .second, .val (.long q), .second, .val (.long s1), .second, .val (.long s2), .second, .val (.int md), .val (.int (Int32.ofNat c)), .unset, .unset, .unset, .unset, .unset, .unset, .unset, .unset, .unset, .unset, .unset, .unset, .unset, .unset, .unset, .unset, .unset, .unset, .unset, .unset, .unset, .unset, .unset] at_4 rfl rfl ?_
  refine g_iload 8 at_6 rfl rfl ?_
  refine g_iconst 9 (3 : Int32) at_8 rfl rfl ?_
  refine g_icmp 15 12 at_9 rfl rfl (fun c1 => ?_) (fun c1 => ?_)
  · exact k15 l Z a0 hw n0 h0 p q s1 s2 md c (by have : ¬ c = 3 := fun z => c1 (by rw [z]; rfl); omega)
  · refine g_iconst 13 (2 : Int32) at_12 rfl rfl ?_
    refine g_istore 15 #[.val (.long p), .second, .val (.long q), .second, .val (.long s1), .second, .val (.long s2), .second, .val (.int md), .val (.int (2 : Int32)), .unset, .unset, .unset, .unset, .unset, .unset, .unset, .unset, .unset, .unset, .unset, .unset, .unset, .unset, .unset, .unset, .unset, .unset, .unset, .unset, .unset, .unset, .unset] at_13 rfl rfl ?_
    exact k15 l Z a0 hw n0 h0 p q s1 s2 md 2 (by decide)
set_option maxRecDepth 65536 in
set_option maxHeartbeats 40000000 in
theorem comes_1 {Post : Tables → Env → Array Value → State → Outcome → State → Prop} (hpost : ∀ tb e args s v u, (limb_1_1.after args s (.returned v) u = true ∧ limb_1_2.after args s (.returned v) u = true ∧ True) → FrameEnd s (.returned v) u (Jvm.fieldLocs frame_1_writes args s ++ Jvm.arrayLocs frame_1_arrays args s ++ Jvm.staticLocs frame_1_statics s) 16 128 → Post tb e args s (.returned v) u) :
    ArmFor flags0 classFile x code maxLocals ret World_1 tables_1 room_1 Calls_1 rest_1 Pre_1 Post := by
  intro l hfl _ _ p e ha hc hk s m args below hf hA hF happ hP
  obtain ⟨hcalls, hrest, hpre⟩ := hP
  obtain ⟨-, -, -, hnamed, -, -, -, hat⟩ := (Spec.applies_iff hf).mp happ
  obtain ⟨hg, hn⟩ := and_e (Cond.before_iff.mp (show (Jvm.Cond.and given_1 narrow_1).before args s = true from hpre))
  obtain ⟨h1, k0⟩ := and_e hg
  obtain ⟨j0, k1⟩ := and_e k0
  obtain ⟨j1, k2⟩ := and_e k1
  obtain ⟨j2, k3⟩ := and_e k2
  obtain ⟨j3, k4⟩ := and_e k3
  obtain ⟨w0, w1, w2, w3, w4, rfl⟩ : ∃ w0 w1 w2 w3 w4 : Value, args = #[w0, w1, w2, w3, w4] := by
    have hs : args.size = 5 := by simpa [Cond.value, given_1] using h1
    obtain ⟨L⟩ := args
    match L, hs with
    | [w0, w1, w2, w3, w4], _ => exact ⟨w0, w1, w2, w3, w4, rfl⟩
  have hw := fun d (hd : d ∈ tables_1) => atoms_spec (ws := Jvm.Cond.code x code maxLocals ret :: tables_1) hat d (List.mem_cons_of_mem _ hd)
  obtain ⟨i0, e0⟩ := isL_v j0
  obtain rfl : w0 = (.long i0) := Option.some.inj e0
  obtain ⟨i1, e1⟩ := isL_v j1
  obtain rfl : w1 = (.long i1) := Option.some.inj e1
  obtain ⟨i2, e2⟩ := isL_v j2
  obtain rfl : w2 = (.long i2) := Option.some.inj e2
  obtain ⟨i3, e3⟩ := isL_v j3
  obtain rfl : w3 = (.long i3) := Option.some.inj e3
  obtain ⟨i4, e4⟩ := is_v k4
  obtain rfl : w4 = (.int i4) := Option.some.inj e4
  obtain ⟨n, o, h1, h2, h3, _, L, rfl, ⟨rfl, N⟩, hq⟩ := c_law l s _ hw s.heap.size s.heap i0 i1 i2 i3 i4 (Nat.le_refl _) tables_1 p e ha hc hk s m _ below hf ((Spec.applies_iff_loose hf).mp happ).1 ⟨rfl, State.Warmed39.refl s, rfl⟩ trivial
  refine ⟨n, _, h1, h2, h3, hpost _ _ _ _ _ _ ⟨Cond.after_iff.mpr rfl, Cond.after_iff.mpr (eq_i res_at (Term.int_eval (1)) rfl), trivial⟩ ⟨hq.1, hq.2.1, (hq.2.2.sift fun y hy => Or.inr (N y hy)).mono (by decide) (by decide)⟩⟩
theorem main_1_1 : Claimed_1_1 := comes_1 fun _ _ _ _ _ _ h hF => ⟨h.1, hF⟩
theorem main_1_2 : Claimed_1_2 := comes_1 fun _ _ _ _ _ _ h hF => ⟨h.2.1, hF⟩
end Jvm.Pilot.@@N@@
namespace Jvm.Pilot.@@N@@
open Jvm Jvm.ClassFile Sem Op Lib Jvm.Free Jvm.Stand Jvm.Pilot.@@N@@.Jvm.D
/-! MADE BY PROGRAM (witnessworld.py) out of the Statement's table words and the real class files: 11 classes; the members and pool entries that the words name. The judged class is class 1, her method 1. -/
namespace start1
open Jvm.ClassFile
def u (s : String) : CpInfo := .utf8 (stringToUtf16 s)
/-- a pool by its gaps: so many unusable entries, then the entry; so many at the end -/
def gap : Nat → List CpInfo → List CpInfo
  | 0, r => r
  | n + 1, r => .unusable :: gap n r
def poolList (es : List (Nat × CpInfo)) (last : Nat) : List CpInfo := es.foldr (fun e r => gap e.1 (e.2 :: r)) (gap last [])
def pool (es : List (Nat × CpInfo)) (last : Nat) : Array CpInfo := ⟨poolList es last⟩
def fileOf (pool : Array CpInfo) (this : Nat) (attrs : Array Attribute := #[]) (ms : Array MethodInfo := #[]) (fl : Nat := 33) (sup : Nat := 0) (ifs : Array Nat := #[]) (fds : Array FieldInfo := #[]) : ClassFile where
  minorVersion := 0
  majorVersion := 65
  constantPool := pool
  accessFlags := fl
  thisClass := this
  superClass := sup
  interfaces := ifs
  fields := fds
  methods := ms
  attributes := attrs
def plain (name : String) (sup : Option ClassId) : Class where
  name := name
  kind := .ordinary
  loader := none
  accessFlags := 33
  super := sup
  interfaces := #[]
  cf := none
  fields := #[]
  methods := #[]
  instanceTypes := #[]
  staticTypes := #[]
  resolved := #[]
  callSites := []
  init := .initialized
  statics := none
  mirror := none

def pool0 : Array CpInfo := pool [(5, u "<init>"), (0, u "()V"), (1, .class_ 10), (1, u "java/lang/Object")] 113

def k0m0 : Method := { name := "<init>", desc := "()V", sig := { parameters := [], returnType := none }, accessFlags := 1, code := none }
/-- java/lang/Object -/
def k0 : Class := { plain "java/lang/Object" none with
  accessFlags := 33
  interfaces := #[]
  cf := some (fileOf pool0 8 #[] #[{ accessFlags := 1, nameIndex := 5, descriptorIndex := 6, attributes := #[] }] 33 0 #[] #[])
  fields := #[]
  methods := #[k0m0]
  instanceTypes := #[]
  staticTypes := #[]
  resolved := Array.replicate 124 none
  statics := none }

def pool1 : Array CpInfo := pool [(2, .class_ 4), (1, u "java/lang/Object"), (0, u "<init>"), (0, u "()V"), (0, .long 18446744073709551615), (1, .methodref 10 11), (0, .class_ 12), (0, .nameAndType 13 14), (0, u "com/example/lynceus/lynceus/AtomTable"), (0, u "split"), (0, u "([JI[JI)I"), (0, .methodref 16 17), (0, .class_ 18), (0, .nameAndType 19 20), (0, u "com/example/lynceus/lynceus/AtomTableSplitPinLaw"), (0, u "cells"), (0, u "(JJJ)I"), (0, .methodref 16 22), (0, .nameAndType 23 24), (0, u "nz"), (0, u "(J)I"), (0, .methodref 16 26), (0, .nameAndType 27 28), (0, u "good"), (0, u "([JIIJJJJ)Z"), (0, .methodref 16 30), (0, .nameAndType 31 32), (0, u "at"), (0, u "([JII)J"), (2, u "law"), (0, u "(JJJJI)Z")] 5

def k1m0 : Method := { name := "<init>", desc := "()V", sig := { parameters := [], returnType := none }, accessFlags := 1, code := none }
def k1c1 : Code := { maxStack := 11, maxLocals := 33, code := code, exceptionTable := #[], attributes := #[] }
def k1m1 : Method := { name := "law", desc := "(JJJJI)Z", sig := { parameters := [.long, .long, .long, .long, .int], returnType := some .boolean }, accessFlags := 9, code := some k1c1 }
def k1c2 : Code := { maxStack := 4, maxLocals := 2, code := method_3_code, exceptionTable := #[], attributes := #[] }
def k1m2 : Method := { name := "nz", desc := "(J)I", sig := { parameters := [.long], returnType := some .int }, accessFlags := 10, code := some k1c2 }
def k1c3 : Code := { maxStack := 7, maxLocals := 6, code := method_4_code, exceptionTable := #[], attributes := #[] }
def k1m3 : Method := { name := "cells", desc := "(JJJ)I", sig := { parameters := [.long, .long, .long], returnType := some .int }, accessFlags := 10, code := some k1c3 }
def k1c4 : Code := { maxStack := 2, maxLocals := 3, code := method_5_code, exceptionTable := #[], attributes := #[] }
def k1m4 : Method := { name := "at", desc := "([JII)J", sig := { parameters := [(.array .long), .int, .int], returnType := some .long }, accessFlags := 10, code := some k1c4 }
def k1c5 : Code := { maxStack := 6, maxLocals := 19, code := method_6_code, exceptionTable := #[], attributes := #[] }
def k1m5 : Method := { name := "good", desc := "([JIIJJJJ)Z", sig := { parameters := [(.array .long), .int, .int, .long, .long, .long, .long], returnType := some .boolean }, accessFlags := 10, code := some k1c5 }
/-- com/example/lynceus/lynceus/AtomTableSplitPinLaw -/
def k1 : Class := { plain "com/example/lynceus/lynceus/AtomTableSplitPinLaw" (some 0) with
  accessFlags := 49
  interfaces := #[]
  cf := some (fileOf pool1 16 #[] #[{ accessFlags := 1, nameIndex := 5, descriptorIndex := 6, attributes := #[] }, { accessFlags := 9, nameIndex := 35, descriptorIndex := 36, attributes := #[] }, { accessFlags := 10, nameIndex := 23, descriptorIndex := 24, attributes := #[] }, { accessFlags := 10, nameIndex := 19, descriptorIndex := 20, attributes := #[] }, { accessFlags := 10, nameIndex := 31, descriptorIndex := 32, attributes := #[] }, { accessFlags := 10, nameIndex := 27, descriptorIndex := 28, attributes := #[] }] 49 2 #[] #[])
  fields := #[]
  methods := #[k1m0, k1m1, k1m2, k1m3, k1m4, k1m5]
  instanceTypes := #[]
  staticTypes := #[]
  resolved := Array.replicate 42 none
  statics := none }

def pool2 : Array CpInfo := pool [(2, .class_ 4), (1, u "java/lang/Object"), (3, .class_ 10), (1, u "com/example/lynceus/lynceus/AtomTable"), (0, u "atoms"), (0, u "[J"), (2, u "places"), (0, u "[I"), (8, u "bests"), (0, u "[D"), (10, .long 18446744073709551615), (12, u "MOST_ATOMS"), (0, u "I"), (2, u "FEW_STEPS"), (0, u "J"), (6, u "split"), (0, u "([JI[JI)I")] 14

def k2c0 : Code := { maxStack := 6, maxLocals := 18, code := prog_3_method_3_code, exceptionTable := #[], attributes := #[] }
def k2m0 : Method := { name := "split", desc := "([JI[JI)I", sig := { parameters := [(.array .long), .int, (.array .long), .int], returnType := some .int }, accessFlags := 8, code := some k2c0 }
/-- com/example/lynceus/lynceus/AtomTable -/
def k2 : Class := { plain "com/example/lynceus/lynceus/AtomTable" (some 0) with
  accessFlags := 32
  interfaces := #[]
  cf := some (fileOf pool2 8 #[] #[{ accessFlags := 8, nameIndex := 62, descriptorIndex := 63, attributes := #[] }] 32 2 #[] #[{ accessFlags := 24, nameIndex := 50, descriptorIndex := 51, attributes := #[] }, { accessFlags := 26, nameIndex := 54, descriptorIndex := 55, attributes := #[] }, { accessFlags := 18, nameIndex := 11, descriptorIndex := 12, attributes := #[] }, { accessFlags := 18, nameIndex := 15, descriptorIndex := 16, attributes := #[] }, { accessFlags := 18, nameIndex := 25, descriptorIndex := 26, attributes := #[] }])
  fields := #[{ name := "MOST_ATOMS", type := .int, accessFlags := 24, slot := 0, constantValue := 0 }, { name := "FEW_STEPS", type := .long, accessFlags := 26, slot := 1, constantValue := 0 }, { name := "atoms", type := (.array .long), accessFlags := 18, slot := 0, constantValue := 0 }, { name := "places", type := (.array .int), accessFlags := 18, slot := 1, constantValue := 0 }, { name := "bests", type := (.array .double), accessFlags := 18, slot := 2, constantValue := 0 }]
  methods := #[k2m0]
  instanceTypes := #[(.array .long), (.array .int), (.array .double)]
  staticTypes := #[.int, .long]
  resolved := Array.replicate 78 none
  statics := none }

def pool3 : Array CpInfo := pool [(1, u "java/lang/Cloneable"), (0, .class_ 1), (0, u "java/lang/Object"), (0, .class_ 3)] 3

/-- java/lang/Cloneable -/
def k3 : Class := { plain "java/lang/Cloneable" (some 0) with
  accessFlags := 1537
  interfaces := #[]
  cf := some (fileOf pool3 2 #[] #[] 1537 4 #[] #[])
  fields := #[]
  methods := #[]
  instanceTypes := #[]
  staticTypes := #[]
  resolved := Array.replicate 8 none
  statics := none }

def pool4 : Array CpInfo := pool [(1, u "java/io/Serializable"), (0, .class_ 1), (0, u "java/lang/Object"), (0, .class_ 3)] 3

/-- java/io/Serializable -/
def k4 : Class := { plain "java/io/Serializable" (some 0) with
  accessFlags := 1537
  interfaces := #[]
  cf := some (fileOf pool4 2 #[] #[] 1537 4 #[] #[])
  fields := #[]
  methods := #[]
  instanceTypes := #[]
  staticTypes := #[]
  resolved := Array.replicate 8 none
  statics := none }

/-- the primitive byte -/
def k5 : Class := { plain "byte" none with kind := .primitive 'B', accessFlags := 0x411 }
/-- [B -/
def k6 : Class := { plain "[B" (some 0) with kind := .array 5 .byte, interfaces := #[3, 4], accessFlags := 1041 }

/-- the primitive int -/
def k7 : Class := { plain "int" none with kind := .primitive 'I', accessFlags := 0x411 }
/-- [I -/
def k8 : Class := { plain "[I" (some 0) with kind := .array 7 .int, interfaces := #[3, 4], accessFlags := 1041 }

/-- the primitive long -/
def k9 : Class := { plain "long" none with kind := .primitive 'J', accessFlags := 0x411 }
/-- [J -/
def k10 : Class := { plain "[J" (some 0) with kind := .array 9 .long, interfaces := #[3, 4], accessFlags := 1041 }

def heap : Heap := #[]
def classes : Array Class := #[k0, k1, k2, k3, k4, k5, k6, k7, k8, k9, k10]
def interned : List (Array UInt16 × Addr) := []
def slotsUsed : Nat := 0
def theMethod : MethodId := ⟨1, 1⟩
def args0 : Array Value := #[.long 12, .long 3, .long 10, .long 6, .int 90]
def aboutOver (below : List Frame) : State where
  vm := { classes := classes, interned := interned.toArray }
  heap := heap
  slotsUsed := slotsUsed
  threads := #[{ frames := .invoking theMethod args0 :: below }]
def below0 : List Frame := [.native { method := ⟨0, 0⟩, args := #[] }]
def about1 : State := aboutOver below0
def p0 : Program := .bare "" "" ""
def e0 : Env := launch0.env 0 0 0
theorem w_frames : about1.frames = Frame.invoking theMethod args0 :: below0 := rfl
set_option maxRecDepth 65536 in
theorem w_args : argsFit about1.vm theMethod args0 = true := by decide +kernel
set_option maxRecDepth 65536 in
theorem w_heap : heapFits about1 = true := by decide +kernel
set_option maxRecDepth 65536 in
theorem w_runnable : about1.curStatus? = some .runnable := by decide +kernel
set_option maxRecDepth 65536 in
theorem w_alone : about1.alone = true := by decide +kernel
set_option maxRecDepth 65536 in
theorem w_named : about1.methodNamed? x = some theMethod := by decide +kernel
set_option maxRecDepth 65536 in
theorem w_hears : about1.hears theMethod below0 = true := by decide +kernel
set_option maxRecDepth 65536 in
theorem w_ripe : about1.ripe theMethod args0 below0 = true := by decide +kernel
theorem w_running : about1.status = .running := rfl
set_option maxRecDepth 65536 in
theorem w_room : about1.hasRoom e0.platform room_1 = true :=
  launch0.hasRoom_least _ room_1 (by decide +kernel) (by decide +kernel) (by decide +kernel) (by decide +kernel) (by decide +kernel) (by decide +kernel)
theorem allAtoms_all (ts : List Jvm.Cond) (a : Array Jvm.Value) (st : Jvm.State) : (allAtoms ts).before a st = ts.all (fun c => c.before a st) := by
  induction ts with
  | nil => rfl
  | cons c t ih =>
    show (Jvm.Cond.and c (allAtoms t)).before a st = _
    rw [Jvm.Cond.before_and, ih, List.all_cons]
def words1 : List Jvm.Cond := Jvm.Cond.code x code maxLocals ret :: tables_1
/-- a 'code' word, met by the world's own term for the bytes: nothing is compared byte by byte -/
theorem code_word {y : MethodName} {bytes : ByteArray} {mx : Nat} {rt : Option FieldType} {a : Array Value} {s : State} {m : MethodId} {meth : Method} {c : Code} (h1 : s.methodNamed? y = some m) (h2 : s.vm.method? m = some meth) (h3 : meth.code = some c) (h4 : c.code = bytes)
    (h5 : (c.maxLocals == mx && c.exceptionTable.isEmpty && decide (c.maxStack ≤ mostOperands) && decide (meth.sig.returnType = rt) && !meth.locks && decide (parseMethodDescriptor y.desc = some meth.sig)) = true) : (Jvm.Cond.code y bytes mx rt).before a s = true := by
  simp only [Bool.and_eq_true, beq_iff_eq, Bool.not_eq_true', decide_eq_true_eq] at h5
  obtain ⟨⟨⟨⟨⟨g1, g2⟩, g3⟩, g4⟩, g5⟩, g6⟩ := h5
  simp [Cond.before, Cond.holds, Cond.value, h1, h2, h3, h4, g1, g2, g3, g4, g5, g6]
def isCode : Jvm.Cond → Bool
  | .code _ _ _ _ => true
  | _ => false
theorem all_split {L : List Jvm.Cond} {P : Jvm.Cond → Bool} (h1 : L.all (fun c => isCode c || P c) = true) (h2 : ∀ c ∈ L.filter isCode, P c = true) : L.all P = true := by
  refine List.all_eq_true.mpr fun c hc => ?_
  have h := List.all_eq_true.mp h1 c hc
  rcases Bool.eq_false_or_eq_true (isCode c) with hi | hi
  · exact h2 c (List.mem_filter.mpr ⟨hc, hi⟩)
  · simpa [hi] using h
set_option maxRecDepth 65536 in
theorem w_c0 : (Jvm.Cond.code x code maxLocals ret).before args0 about1 = true := code_word (m := ⟨1, 1⟩) (meth := k1m1) (c := k1c1) (by decide +kernel) rfl rfl rfl (by decide +kernel)
set_option maxRecDepth 65536 in
theorem w_c1 : (Jvm.Cond.code ({ cls := "com/example/lynceus/lynceus/AtomTable", name := "split", desc := "([JI[JI)I" } : Jvm.MethodName) prog_3_method_3_code (18 : Nat) (Option.some Jvm.ClassFile.FieldType.int)).before args0 about1 = true := code_word (m := ⟨2, 0⟩) (meth := k2m0) (c := k2c0) (by decide +kernel) rfl rfl rfl (by decide +kernel)
set_option maxRecDepth 65536 in
theorem w_c2 : (Jvm.Cond.code ({ cls := "com/example/lynceus/lynceus/AtomTableSplitPinLaw", name := "cells", desc := "(JJJ)I" } : Jvm.MethodName) method_4_code (6 : Nat) (Option.some Jvm.ClassFile.FieldType.int)).before args0 about1 = true := code_word (m := ⟨1, 3⟩) (meth := k1m3) (c := k1c3) (by decide +kernel) rfl rfl rfl (by decide +kernel)
set_option maxRecDepth 65536 in
theorem w_c3 : (Jvm.Cond.code ({ cls := "com/example/lynceus/lynceus/AtomTableSplitPinLaw", name := "nz", desc := "(J)I" } : Jvm.MethodName) method_3_code (2 : Nat) (Option.some Jvm.ClassFile.FieldType.int)).before args0 about1 = true := code_word (m := ⟨1, 2⟩) (meth := k1m2) (c := k1c2) (by decide +kernel) rfl rfl rfl (by decide +kernel)
set_option maxRecDepth 65536 in
theorem w_c4 : (Jvm.Cond.code ({ cls := "com/example/lynceus/lynceus/AtomTableSplitPinLaw", name := "good", desc := "([JIIJJJJ)Z" } : Jvm.MethodName) method_6_code (19 : Nat) (Option.some Jvm.ClassFile.FieldType.boolean)).before args0 about1 = true := code_word (m := ⟨1, 5⟩) (meth := k1m5) (c := k1c5) (by decide +kernel) rfl rfl rfl (by decide +kernel)
set_option maxRecDepth 65536 in
theorem w_c5 : (Jvm.Cond.code ({ cls := "com/example/lynceus/lynceus/AtomTableSplitPinLaw", name := "at", desc := "([JII)J" } : Jvm.MethodName) method_5_code (3 : Nat) (Option.some Jvm.ClassFile.FieldType.long)).before args0 about1 = true := code_word (m := ⟨1, 4⟩) (meth := k1m4) (c := k1c4) (by decide +kernel) rfl rfl rfl (by decide +kernel)
def codes1 : List Jvm.Cond := [Jvm.Cond.code x code maxLocals ret, Jvm.Cond.code ({ cls := "com/example/lynceus/lynceus/AtomTable", name := "split", desc := "([JI[JI)I" } : Jvm.MethodName) prog_3_method_3_code (18 : Nat) (Option.some Jvm.ClassFile.FieldType.int), Jvm.Cond.code ({ cls := "com/example/lynceus/lynceus/AtomTableSplitPinLaw", name := "cells", desc := "(JJJ)I" } : Jvm.MethodName) method_4_code (6 : Nat) (Option.some Jvm.ClassFile.FieldType.int), Jvm.Cond.code ({ cls := "com/example/lynceus/lynceus/AtomTableSplitPinLaw", name := "nz", desc := "(J)I" } : Jvm.MethodName) method_3_code (2 : Nat) (Option.some Jvm.ClassFile.FieldType.int), Jvm.Cond.code ({ cls := "com/example/lynceus/lynceus/AtomTableSplitPinLaw", name := "good", desc := "([JIIJJJJ)Z" } : Jvm.MethodName) method_6_code (19 : Nat) (Option.some Jvm.ClassFile.FieldType.boolean), Jvm.Cond.code ({ cls := "com/example/lynceus/lynceus/AtomTableSplitPinLaw", name := "at", desc := "([JII)J" } : Jvm.MethodName) method_5_code (3 : Nat) (Option.some Jvm.ClassFile.FieldType.long)]
set_option maxRecDepth 65536 in
theorem codes_eq : words1.filter isCode = codes1 := rfl
theorem w_codes : ∀ c ∈ words1.filter isCode, c.before args0 about1 = true := by
  rw [codes_eq]
  intro c hc
  simp only [codes1, List.mem_cons, List.not_mem_nil, or_false] at hc
  rcases hc with rfl | rfl | rfl | rfl | rfl | rfl
  · exact w_c0
  · exact w_c1
  · exact w_c2
  · exact w_c3
  · exact w_c4
  · exact w_c5
set_option maxRecDepth 65536 in
theorem w_t1 : words1.all (fun c => isCode c || c.before args0 about1) = true := by decide +kernel
theorem w_tables : (allAtoms (Jvm.Cond.code x code maxLocals ret :: tables_1)).before args0 about1 = true := by
  rw [allAtoms_all]
  show words1.all (fun c => c.before args0 about1) = true
  refine all_split ?_ w_codes
  rw [w_t1]
set_option maxRecDepth 65536 in
theorem w_case : (Jvm.Cond.and given_1 narrow_1).before args0 about1 = true := by decide +kernel
theorem w_applies : (headSpec (Jvm.Cond.code x code maxLocals ret :: tables_1) room_1).applies x e0.platform about1 = true :=
  (Spec.applies_iff w_frames).mpr ⟨w_running, w_runnable, w_alone, w_named, w_hears, w_ripe, w_room, w_tables⟩
theorem atStart : AtStart classFile x code maxLocals ret World_1 tables_1 room_1 Calls_1 rest_1 Pre_1 launch0 p0 e0 about1 theMethod args0 below0 :=
  ⟨lists_1, trivial, launch0.admits_env _ _ _, launch0.least_env, fairChoices_fair.cas, fairChoices_fair.clock, w_frames, w_args, w_heap, w_applies, trivial, trivial, w_case⟩
end start1
theorem witness_1 : WitnessClaimed_1 := ⟨start1.p0, start1.e0, start1.about1, start1.theMethod, start1.args0, start1.below0, start1.atStart⟩
end Jvm.Pilot.@@N@@
