import JvmDerived
import JvmDerived.Pilot.@@N@@Statement
import JvmDerived.Pilot.@@N@@Code
set_option linter.unusedVariables false
set_option linter.unusedSimpArgs false
namespace Jvm.Pilot.@@N@@
open Jvm Jvm.ClassFile Sem Op Lib Jvm.Free Jvm.Stand Jvm.LawKit Jvm.RoadKit Bundle Jvm.Pilot.@@N@@.Jvm.D
-- OWN PRELUDE: a small logic over lawnew's family. Go .. h kc ks pc L S: from every state in which this body stands at pc with locals L, stack S, heap h (kc cells, ks slots made so far), it returns with Q.
abbrev MD := MethodName × ByteArray × Nat × Option FieldType
def Inv (Z : State) (n0 : Nat) (M : MD) (p : Program) (s : State) (m : MethodId) (meth : Method) (c : Code) : Prop :=
  p.tables.exec = Jvm.exec ∧ Z.Warmed39 s.vm ∧ c.code = M.2.1 ∧ c.maxLocals = M.2.2.1 ∧ s.vm.findClass M.1.cls = some m.cls ∧ meth.name = M.1.name ∧ meth.sig.returnType = M.2.2.2 ∧ meth.locks = false ∧ n0 ≤ s.heap.size
def Goes (p : Program) (e : Env) (below : List Frame) (s : State) (n0 kc ks : Nat) (Q : Option Value → Heap → Prop) (T : State) (g : JFrame) : Prop :=
  ∃ s₂ o, Steps p.tables e below (T.setTop g) s₂ ∧ s₂.status = .running ∧ Ended s₂ below o ∧ ∃ v L, o = .returned v ∧ (Q v s₂.heap ∧ Fr n0 L) ∧ FrameEnd s o s₂ L kc ks
def Go (l : Launch) (Z : State) (n0 : Nat) (M : MD) (R : Room) (Q : Option Value → Heap → Prop) (h : Heap) (kc ks pc : Nat) (L : Array Slot) (S : List Value) : Prop :=
  ∀ (p : Program) (e : Env) (s : State) (m : MethodId) (args : Array Value) (below : List Frame) (meth : Method) (c : Code) (T : State) (locs : List Loc),
    Inv Z n0 M p s m meth c → Stand p l e R s m args below meth c T locs kc ks → T.heap = h → Fr n0 locs → Goes p e below s n0 R.cells R.slots Q T (mkF m pc L S)
def Con (l : Launch) (Z : State) (n0 : Nat) (M : MD) (rm : Room) (as' : Array Value) (h0 : Heap) (Q : Option Value → Heap → Prop) : Prop :=
  n0 ≤ h0.size → ∀ ws : List Jvm.Cond, MetFree l M.1 (head1 (Jvm.Cond.code M.1 M.2.1 M.2.2.1 M.2.2.2 :: ws) rm) (fun a U => a = as' ∧ Z.Warmed39 U.vm ∧ U.heap = h0) (fun _ _ _ _ _ => True)
    (fun _ U o U' => ∃ v L, o = .returned v ∧ (Q v U'.heap ∧ Fr n0 L) ∧ FrameEnd U o U' L rm.cells rm.slots)
def cP : ClassFile.Cond → Int32 → Int32 → Prop
  | .eq, x, y => x = y
  | .ne, x, y => ¬ x = y
  | .lt, x, y => x < y
  | .ge, x, y => ¬ x < y
  | .gt, x, y => y < x
  | .le, x, y => ¬ y < x
theorem cP_t {cd : ClassFile.Cond} {x y : Int32} (h : cP cd x y) : if_icmp.holds cd x y = true := by
  cases cd
  · exact (teq h).1
  · exact (feq h).2
  · exact (tlt h).1
  · exact (flt h).2.1
  · exact (tlt h).2.2.1
  · exact (flt h).2.2.2
theorem cP_f {cd : ClassFile.Cond} {x y : Int32} (h : ¬ cP cd x y) : if_icmp.holds cd x y = false := by
  cases cd
  · exact (feq h).1
  · exact (teq (Classical.not_not.mp h)).2
  · exact (flt h).1
  · exact (tlt (Classical.not_not.mp h)).2.1
  · exact (flt h).2.2.1
  · exact (tlt (Classical.not_not.mp h)).2.2.2
def lP : ClassFile.Cond → Int64 → Int64 → Prop
  | .eq, x, y => x = y
  | .ne, x, y => ¬ x = y
  | .lt, x, y => x < y
  | .ge, x, y => ¬ x < y
  | .gt, x, y => y < x
  | .le, x, y => ¬ y < x
theorem lP_t {cd : ClassFile.Cond} {x y : Int64} (h : lP cd x y) : ifCond.holds cd (XT.cmpL x y) = true := by
  cases cd
  · exact XT.ll_eq_t h
  · exact XT.ll_ne_t h
  · exact XT.ll_lt_t h
  · exact XT.ll_ge_t h
  · exact XT.ll_gt_t h
  · exact XT.ll_le_t h
theorem lP_f {cd : ClassFile.Cond} {x y : Int64} (h : ¬ lP cd x y) : ifCond.holds cd (XT.cmpL x y) = false := by
  cases cd
  · exact XT.ll_eq_f h
  · exact XT.ll_ne_f (Classical.not_not.mp h)
  · exact XT.ll_lt_f h
  · exact XT.ll_ge_f (Classical.not_not.mp h)
  · exact XT.ll_gt_f h
  · exact XT.ll_le_f (Classical.not_not.mp h)
section Own
variable {l : Launch} {Z : State} {n0 : Nat} {M : MD} {R : Room} {Q : Option Value → Heap → Prop} {h : Heap} {kc ks pc : Nat} {L : Array Slot} {S : List Value} {a0 : Array Value}
theorem g_via {h' : Heap} {kc' ks' pc' : Nat} {L' : Array Slot} {S' : List Value}
    (st : ∀ {p : Program} {e : Env} {s : State} {m : MethodId} {args : Array Value} {below : List Frame} {meth : Method} {c : Code} {T : State} {locs : List Loc}, Inv Z n0 M p s m meth c → Stand p l e R s m args below meth c T locs kc ks → T.heap = h →
      ∃ T', Stand p l e R s m args below meth c T' locs kc' ks' ∧ T'.heap = h' ∧ ∀ target, Steps p.tables e below (T'.setTop (mkF m pc' L' S')) target → Steps p.tables e below (T.setTop (mkF m pc L S)) target)
    (k : Go l Z n0 M R Q h' kc' ks' pc' L' S') : Go l Z n0 M R Q h kc ks pc L S := by
  intro p e s m args below meth c T locs I X eT N
  obtain ⟨T', X', eT', st'⟩ := st I X eT
  obtain ⟨s₂, o, h1, r⟩ := k p e s m args below meth c T' locs I X' eT' N
  exact ⟨s₂, o, st' _ h1, r⟩
theorem g_pure {pc' : Nat} {L' : Array Slot} {S' : List Value}
    (st : ∀ {p : Program} {e : Env} {s : State} {m : MethodId} {args : Array Value} {below : List Frame} {meth : Method} {c : Code} {T : State} {locs : List Loc}, Inv Z n0 M p s m meth c → Stand p l e R s m args below meth c T locs kc ks →
      ∀ target, Steps p.tables e below (T.setTop (mkF m pc' L' S')) target → Steps p.tables e below (T.setTop (mkF m pc L S)) target)
    (k : Go l Z n0 M R Q h kc ks pc' L' S') : Go l Z n0 M R Q h kc ks pc L S :=
  g_via (fun I X eT => ⟨_, X, eT, st I X⟩) k
theorem g_iload_n (pc' : Nat) {k : Fin 4} {v : Int32} (hd : decode M.2.1 pc = .ok (.iload_n k, 1)) (hl : L[k.val]? = some (.val (.int v))) (hp : pc + 1 = pc') (kk : Go l Z n0 M R Q h kc ks pc' L (.int v :: S)) : Go l Z n0 M R Q h kc ks pc L (S) := by
  subst hp
  exact g_pure (fun I X t kt => XS.iloadN X.here I.1 rfl (hb I.2.2.1 hd) hl kt) kk
theorem g_iload (pc' : Nat) {k : Nat} {v : Int32} (hd : decode M.2.1 pc = .ok (.iload k, 2)) (hl : L[k]? = some (.val (.int v))) (hp : pc + 2 = pc') (kk : Go l Z n0 M R Q h kc ks pc' L (.int v :: S)) : Go l Z n0 M R Q h kc ks pc L (S) := by
  subst hp
  exact g_pure (fun I X t kt => XS.iload X.here I.1 rfl (hb I.2.2.1 hd) hl kt) kk
theorem g_lload_n (pc' : Nat) {k : Fin 4} {v : Int64} (hd : decode M.2.1 pc = .ok (.lload_n k, 1)) (hl : L[k.val]? = some (.val (.long v))) (hp : pc + 1 = pc') (kk : Go l Z n0 M R Q h kc ks pc' L (.long v :: S)) : Go l Z n0 M R Q h kc ks pc L (S) := by
  subst hp
  exact g_pure (fun I X t kt => XT.lloadN X.here I.1 rfl (hb I.2.2.1 hd) hl kt) kk
theorem g_lload (pc' : Nat) {k : Nat} {v : Int64} (hd : decode M.2.1 pc = .ok (.lload k, 2)) (hl : L[k]? = some (.val (.long v))) (hp : pc + 2 = pc') (kk : Go l Z n0 M R Q h kc ks pc' L (.long v :: S)) : Go l Z n0 M R Q h kc ks pc L (S) := by
  subst hp
  exact g_pure (fun I X t kt => XT.lload X.here I.1 rfl (hb I.2.2.1 hd) hl kt) kk
theorem g_aload_n (pc' : Nat) {k : Fin 4} {v : Value} (hd : decode M.2.1 pc = .ok (.aload_n k, 1)) (hl : L[k.val]? = some (.val v)) (hv : v.isRef = true) (hp : pc + 1 = pc') (kk : Go l Z n0 M R Q h kc ks pc' L (v :: S)) : Go l Z n0 M R Q h kc ks pc L (S) := by
  subst hp
  exact g_pure (fun I X t kt => XS.aloadN X.here I.1 rfl (hb I.2.2.1 hd) hl hv kt) kk
theorem g_aload (pc' : Nat) {k : Nat} {v : Value} (hd : decode M.2.1 pc = .ok (.aload k, 2)) (hl : L[k]? = some (.val v)) (hv : v.isRef = true) (hp : pc + 2 = pc') (kk : Go l Z n0 M R Q h kc ks pc' L (v :: S)) : Go l Z n0 M R Q h kc ks pc L (S) := by
  subst hp
  exact g_pure (fun I X t kt => XS.aload X.here I.1 rfl (hb I.2.2.1 hd) hl hv kt) kk
theorem g_istore_n (pc' : Nat) {k : Fin 4} {x : Int32} (L' : Array Slot) (hd : decode M.2.1 pc = .ok (.istore_n k, 1)) (hl : storeLocals L k.val (.int x) = some L') (hp : pc + 1 = pc') (kk : Go l Z n0 M R Q h kc ks pc' L' (S)) : Go l Z n0 M R Q h kc ks pc L (.int x :: S) := by
  subst hp
  exact g_pure (fun I X t kt => XS.istoreN X.here I.1 rfl (hb I.2.2.1 hd) rfl hl kt) kk
theorem g_istore (pc' : Nat) {k : Nat} {x : Int32} (L' : Array Slot) (hd : decode M.2.1 pc = .ok (.istore k, 2)) (hl : storeLocals L k (.int x) = some L') (hp : pc + 2 = pc') (kk : Go l Z n0 M R Q h kc ks pc' L' (S)) : Go l Z n0 M R Q h kc ks pc L (.int x :: S) := by
  subst hp
  exact g_pure (fun I X t kt => XS.istore X.here I.1 rfl (hb I.2.2.1 hd) rfl hl kt) kk
theorem g_lstore_n (pc' : Nat) {k : Fin 4} {x : Int64} (L' : Array Slot) (hd : decode M.2.1 pc = .ok (.lstore_n k, 1)) (hl : storeLocals L k.val (.long x) = some L') (hp : pc + 1 = pc') (kk : Go l Z n0 M R Q h kc ks pc' L' (S)) : Go l Z n0 M R Q h kc ks pc L (.long x :: S) := by
  subst hp
  exact g_pure (fun I X t kt => XT.lstoreN X.here I.1 rfl (hb I.2.2.1 hd) rfl hl kt) kk
theorem g_lstore (pc' : Nat) {k : Nat} {x : Int64} (L' : Array Slot) (hd : decode M.2.1 pc = .ok (.lstore k, 2)) (hl : storeLocals L k (.long x) = some L') (hp : pc + 2 = pc') (kk : Go l Z n0 M R Q h kc ks pc' L' (S)) : Go l Z n0 M R Q h kc ks pc L (.long x :: S) := by
  subst hp
  exact g_pure (fun I X t kt => XT.lstore X.here I.1 rfl (hb I.2.2.1 hd) rfl hl kt) kk
theorem g_astore_n (pc' : Nat) {k : Fin 4} {x : Value} (L' : Array Slot) (hd : decode M.2.1 pc = .ok (.astore_n k, 1)) (hv : x.isRef = true) (hl : storeLocals L k.val x = some L') (hp : pc + 1 = pc') (kk : Go l Z n0 M R Q h kc ks pc' L' (S)) : Go l Z n0 M R Q h kc ks pc L (x :: S) := by
  subst hp
  exact g_pure (fun I X t kt => XS.astoreN X.here I.1 rfl (hb I.2.2.1 hd) rfl hv hl kt) kk
theorem g_astore (pc' : Nat) {k : Nat} {x : Value} (L' : Array Slot) (hd : decode M.2.1 pc = .ok (.astore k, 2)) (hv : x.isRef = true) (hl : storeLocals L k x = some L') (hp : pc + 2 = pc') (kk : Go l Z n0 M R Q h kc ks pc' L' (S)) : Go l Z n0 M R Q h kc ks pc L (x :: S) := by
  subst hp
  exact g_pure (fun I X t kt => XS.astore X.here I.1 rfl (hb I.2.2.1 hd) rfl hv hl kt) kk
theorem g_iinc (pc' : Nat) {k : Nat} {cst : Int} {x : Int32} (L' : Array Slot) (hd : decode M.2.1 pc = .ok (.iinc k cst, 3)) (hl : L[k]? = some (.val (.int x))) (hl2 : storeLocals L k (.int (x + Int32.ofInt cst)) = some L') (hp : pc + 3 = pc') (kk : Go l Z n0 M R Q h kc ks pc' L' (S)) : Go l Z n0 M R Q h kc ks pc L (S) := by
  subst hp
  exact g_pure (fun I X t kt => XS.iinc X.here I.1 rfl (hb I.2.2.1 hd) hl hl2 kt) kk
theorem g_iconst (pc' : Nat) {i : Int} (w : Int32) (hd : decode M.2.1 pc = .ok (.iconst i, 1)) (hv : w = Int32.ofInt i) (hp : pc + 1 = pc') (kk : Go l Z n0 M R Q h kc ks pc' L (.int w :: S)) : Go l Z n0 M R Q h kc ks pc L (S) := by
  subst hp
  exact g_pure (fun I X t kt => XS.iconst X.here I.1 rfl (hb I.2.2.1 hd) (hv ▸ kt)) kk
theorem g_bipush (pc' : Nat) {i : Int} (w : Int32) (hd : decode M.2.1 pc = .ok (.bipush i, 2)) (hv : w = (Int8.ofInt i).toInt32) (hp : pc + 2 = pc') (kk : Go l Z n0 M R Q h kc ks pc' L (.int w :: S)) : Go l Z n0 M R Q h kc ks pc L (S) := by
  subst hp
  exact g_pure (fun I X t kt => XS.bipush X.here I.1 rfl (hb I.2.2.1 hd) (hv ▸ kt)) kk
theorem g_sipush (pc' : Nat) {i : Int} (w : Int32) (hd : decode M.2.1 pc = .ok (.sipush i, 3)) (hv : w = (Int16.ofInt i).toInt32) (hp : pc + 3 = pc') (kk : Go l Z n0 M R Q h kc ks pc' L (.int w :: S)) : Go l Z n0 M R Q h kc ks pc L (S) := by
  subst hp
  exact g_pure (fun I X t kt => XS.sipush X.here I.1 rfl (hb I.2.2.1 hd) (hv ▸ kt)) kk
theorem g_lconst (pc' : Nat) {k : Fin 2} (w : Int64) (hd : decode M.2.1 pc = .ok (.lconst k, 1)) (hv : w = Int64.ofNat k) (hp : pc + 1 = pc') (kk : Go l Z n0 M R Q h kc ks pc' L (.long w :: S)) : Go l Z n0 M R Q h kc ks pc L (S) := by
  subst hp
  exact g_pure (fun I X t kt => XT.lconst X.here I.1 rfl (hb I.2.2.1 hd) (hv ▸ kt)) kk
theorem g_aconst_null (pc' : Nat)  (hd : decode M.2.1 pc = .ok (.aconst_null, 1))  (hp : pc + 1 = pc') (kk : Go l Z n0 M R Q h kc ks pc' L (.null :: S)) : Go l Z n0 M R Q h kc ks pc L (S) := by
  subst hp
  exact g_pure (fun I X t kt => XS.aconstNull X.here I.1 rfl (hb I.2.2.1 hd) kt) kk
theorem g_ldcI (pc' : Nat) {index : Nat} {w : Int32} (hd : decode M.2.1 pc = .ok (.ldc index, 2)) (hw : (Jvm.Cond.constant M.1.cls index w).before a0 Z = true) (hp : pc + 2 = pc') (kk : Go l Z n0 M R Q h kc ks pc' L (.int w :: S)) : Go l Z n0 M R Q h kc ks pc L (S) := by
  subst hp
  exact g_pure (fun I X t kt => X.ldcI I.1 I.2.2.2.2.1 (mvT I.2.1 hw) rfl (hb I.2.2.1 hd) kt) kk
theorem g_ldcWI (pc' : Nat) {index : Nat} {w : Int32} (hd : decode M.2.1 pc = .ok (.ldc_w index, 3)) (hw : (Jvm.Cond.constant M.1.cls index w).before a0 Z = true) (hp : pc + 3 = pc') (kk : Go l Z n0 M R Q h kc ks pc' L (.int w :: S)) : Go l Z n0 M R Q h kc ks pc L (S) := by
  subst hp
  exact g_pure (fun I X t kt => X.ldcWI I.1 I.2.2.2.2.1 (mvT I.2.1 hw) rfl (hb I.2.2.1 hd) kt) kk
theorem g_ldc2J (pc' : Nat) {index : Nat} {w : Int64} (hd : decode M.2.1 pc = .ok (.ldc2_w index, 3)) (hw : (Jvm.Cond.constantLong M.1.cls index w).before a0 Z = true) (hp : pc + 3 = pc') (kk : Go l Z n0 M R Q h kc ks pc' L (.long w :: S)) : Go l Z n0 M R Q h kc ks pc L (S) := by
  subst hp
  exact g_pure (fun I X t kt => X.ldc2J I.1 I.2.2.2.2.1 (mvT I.2.1 hw) rfl (hb I.2.2.1 hd) kt) kk
theorem g_iadd (pc' : Nat) {x y : Int32} (hd : decode M.2.1 pc = .ok (.iadd, 1))  (hp : pc + 1 = pc') (kk : Go l Z n0 M R Q h kc ks pc' L (.int (x + y) :: S)) : Go l Z n0 M R Q h kc ks pc L (.int y :: .int x :: S) := by
  subst hp
  exact g_pure (fun I X t kt => XS.iadd X.here I.1 rfl (hb I.2.2.1 hd) rfl kt) kk
theorem g_isub (pc' : Nat) {x y : Int32} (hd : decode M.2.1 pc = .ok (.isub, 1))  (hp : pc + 1 = pc') (kk : Go l Z n0 M R Q h kc ks pc' L (.int (x - y) :: S)) : Go l Z n0 M R Q h kc ks pc L (.int y :: .int x :: S) := by
  subst hp
  exact g_pure (fun I X t kt => XS.isub X.here I.1 rfl (hb I.2.2.1 hd) rfl kt) kk
theorem g_imul (pc' : Nat) {x y : Int32} (hd : decode M.2.1 pc = .ok (.imul, 1))  (hp : pc + 1 = pc') (kk : Go l Z n0 M R Q h kc ks pc' L (.int (x * y) :: S)) : Go l Z n0 M R Q h kc ks pc L (.int y :: .int x :: S) := by
  subst hp
  exact g_pure (fun I X t kt => XS.imul X.here I.1 rfl (hb I.2.2.1 hd) rfl kt) kk
theorem g_iand (pc' : Nat) {x y : Int32} (hd : decode M.2.1 pc = .ok (.iand, 1))  (hp : pc + 1 = pc') (kk : Go l Z n0 M R Q h kc ks pc' L (.int (x &&& y) :: S)) : Go l Z n0 M R Q h kc ks pc L (.int y :: .int x :: S) := by
  subst hp
  exact g_pure (fun I X t kt => XS.iand X.here I.1 rfl (hb I.2.2.1 hd) rfl kt) kk
theorem g_ior (pc' : Nat) {x y : Int32} (hd : decode M.2.1 pc = .ok (.ior, 1))  (hp : pc + 1 = pc') (kk : Go l Z n0 M R Q h kc ks pc' L (.int (x ||| y) :: S)) : Go l Z n0 M R Q h kc ks pc L (.int y :: .int x :: S) := by
  subst hp
  exact g_pure (fun I X t kt => XT.ior X.here I.1 rfl (hb I.2.2.1 hd) rfl kt) kk
theorem g_ixor (pc' : Nat) {x y : Int32} (hd : decode M.2.1 pc = .ok (.ixor, 1))  (hp : pc + 1 = pc') (kk : Go l Z n0 M R Q h kc ks pc' L (.int (x ^^^ y) :: S)) : Go l Z n0 M R Q h kc ks pc L (.int y :: .int x :: S) := by
  subst hp
  exact g_pure (fun I X t kt => XT.ixor X.here I.1 rfl (hb I.2.2.1 hd) rfl kt) kk
theorem g_ishl (pc' : Nat) {x y : Int32} (hd : decode M.2.1 pc = .ok (.ishl, 1))  (hp : pc + 1 = pc') (kk : Go l Z n0 M R Q h kc ks pc' L (.int (x <<< (y &&& 31)) :: S)) : Go l Z n0 M R Q h kc ks pc L (.int y :: .int x :: S) := by
  subst hp
  exact g_pure (fun I X t kt => XT.ishl X.here I.1 rfl (hb I.2.2.1 hd) rfl kt) kk
theorem g_ishr (pc' : Nat) {x y : Int32} (hd : decode M.2.1 pc = .ok (.ishr, 1))  (hp : pc + 1 = pc') (kk : Go l Z n0 M R Q h kc ks pc' L (.int (x >>> (y &&& 31)) :: S)) : Go l Z n0 M R Q h kc ks pc L (.int y :: .int x :: S) := by
  subst hp
  exact g_pure (fun I X t kt => XT.ishr X.here I.1 rfl (hb I.2.2.1 hd) rfl kt) kk
theorem g_iushr (pc' : Nat) {x y : Int32} (hd : decode M.2.1 pc = .ok (.iushr, 1))  (hp : pc + 1 = pc') (kk : Go l Z n0 M R Q h kc ks pc' L (.int (XT.ushr x y) :: S)) : Go l Z n0 M R Q h kc ks pc L (.int y :: .int x :: S) := by
  subst hp
  exact g_pure (fun I X t kt => XT.iushr X.here I.1 rfl (hb I.2.2.1 hd) rfl kt) kk
theorem g_idiv (pc' : Nat) {x y : Int32} (hd : decode M.2.1 pc = .ok (.idiv, 1)) (hy : y ≠ 0) (hp : pc + 1 = pc') (kk : Go l Z n0 M R Q h kc ks pc' L (.int (x / y) :: S)) : Go l Z n0 M R Q h kc ks pc L (.int y :: .int x :: S) := by
  subst hp
  exact g_pure (fun I X t kt => XS.idiv X.here I.1 rfl (hb I.2.2.1 hd) rfl hy kt) kk
theorem g_irem (pc' : Nat) {x y : Int32} (hd : decode M.2.1 pc = .ok (.irem, 1)) (hy : y ≠ 0) (hp : pc + 1 = pc') (kk : Go l Z n0 M R Q h kc ks pc' L (.int (x % y) :: S)) : Go l Z n0 M R Q h kc ks pc L (.int y :: .int x :: S) := by
  subst hp
  exact g_pure (fun I X t kt => iremM X I.1 rfl (hb I.2.2.1 hd) rfl hy kt) kk
theorem g_ineg (pc' : Nat) {x : Int32} (hd : decode M.2.1 pc = .ok (.ineg, 1))  (hp : pc + 1 = pc') (kk : Go l Z n0 M R Q h kc ks pc' L (.int (-x) :: S)) : Go l Z n0 M R Q h kc ks pc L (.int x :: S) := by
  subst hp
  exact g_pure (fun I X t kt => XS.ineg X.here I.1 rfl (hb I.2.2.1 hd) rfl kt) kk
theorem g_ladd (pc' : Nat) {x y : Int64} (hd : decode M.2.1 pc = .ok (.ladd, 1))  (hp : pc + 1 = pc') (kk : Go l Z n0 M R Q h kc ks pc' L (.long (x + y) :: S)) : Go l Z n0 M R Q h kc ks pc L (.long y :: .long x :: S) := by
  subst hp
  exact g_pure (fun I X t kt => XT.ladd X.here I.1 rfl (hb I.2.2.1 hd) rfl kt) kk
theorem g_lsub (pc' : Nat) {x y : Int64} (hd : decode M.2.1 pc = .ok (.lsub, 1))  (hp : pc + 1 = pc') (kk : Go l Z n0 M R Q h kc ks pc' L (.long (x - y) :: S)) : Go l Z n0 M R Q h kc ks pc L (.long y :: .long x :: S) := by
  subst hp
  exact g_pure (fun I X t kt => XT.lsub X.here I.1 rfl (hb I.2.2.1 hd) rfl kt) kk
theorem g_lmul (pc' : Nat) {x y : Int64} (hd : decode M.2.1 pc = .ok (.lmul, 1))  (hp : pc + 1 = pc') (kk : Go l Z n0 M R Q h kc ks pc' L (.long (x * y) :: S)) : Go l Z n0 M R Q h kc ks pc L (.long y :: .long x :: S) := by
  subst hp
  exact g_pure (fun I X t kt => XT.lmul X.here I.1 rfl (hb I.2.2.1 hd) rfl kt) kk
theorem g_land (pc' : Nat) {x y : Int64} (hd : decode M.2.1 pc = .ok (.land, 1))  (hp : pc + 1 = pc') (kk : Go l Z n0 M R Q h kc ks pc' L (.long (x &&& y) :: S)) : Go l Z n0 M R Q h kc ks pc L (.long y :: .long x :: S) := by
  subst hp
  exact g_pure (fun I X t kt => XT.land X.here I.1 rfl (hb I.2.2.1 hd) rfl kt) kk
theorem g_lor (pc' : Nat) {x y : Int64} (hd : decode M.2.1 pc = .ok (.lor, 1))  (hp : pc + 1 = pc') (kk : Go l Z n0 M R Q h kc ks pc' L (.long (x ||| y) :: S)) : Go l Z n0 M R Q h kc ks pc L (.long y :: .long x :: S) := by
  subst hp
  exact g_pure (fun I X t kt => XT.lor X.here I.1 rfl (hb I.2.2.1 hd) rfl kt) kk
theorem g_lxor (pc' : Nat) {x y : Int64} (hd : decode M.2.1 pc = .ok (.lxor, 1))  (hp : pc + 1 = pc') (kk : Go l Z n0 M R Q h kc ks pc' L (.long (x ^^^ y) :: S)) : Go l Z n0 M R Q h kc ks pc L (.long y :: .long x :: S) := by
  subst hp
  exact g_pure (fun I X t kt => XT.lxor X.here I.1 rfl (hb I.2.2.1 hd) rfl kt) kk
theorem g_lrem (pc' : Nat) {x y : Int64} (hd : decode M.2.1 pc = .ok (.lrem, 1)) (hy : y ≠ 0) (hp : pc + 1 = pc') (kk : Go l Z n0 M R Q h kc ks pc' L (.long (x - (x / y) * y) :: S)) : Go l Z n0 M R Q h kc ks pc L (.long y :: .long x :: S) := by
  subst hp
  exact g_pure (fun I X t kt => XT.lrem X.here I.1 rfl (hb I.2.2.1 hd) rfl hy kt) kk
theorem g_lneg (pc' : Nat) {x : Int64} (hd : decode M.2.1 pc = .ok (.lneg, 1))  (hp : pc + 1 = pc') (kk : Go l Z n0 M R Q h kc ks pc' L (.long (-x) :: S)) : Go l Z n0 M R Q h kc ks pc L (.long x :: S) := by
  subst hp
  exact g_pure (fun I X t kt => XT.lneg X.here I.1 rfl (hb I.2.2.1 hd) rfl kt) kk
theorem g_lshl (pc' : Nat) {x : Int64} {y : Int32} (hd : decode M.2.1 pc = .ok (.lshl, 1))  (hp : pc + 1 = pc') (kk : Go l Z n0 M R Q h kc ks pc' L (.long (x <<< (y.toInt64 &&& 63)) :: S)) : Go l Z n0 M R Q h kc ks pc L (.int y :: .long x :: S) := by
  subst hp
  exact g_pure (fun I X t kt => XT.lshl X.here I.1 rfl (hb I.2.2.1 hd) rfl kt) kk
theorem g_lushr (pc' : Nat) {x : Int64} {y : Int32} (hd : decode M.2.1 pc = .ok (.lushr, 1))  (hp : pc + 1 = pc') (kk : Go l Z n0 M R Q h kc ks pc' L (.long (XT.ushrL x y) :: S)) : Go l Z n0 M R Q h kc ks pc L (.int y :: .long x :: S) := by
  subst hp
  exact g_pure (fun I X t kt => XT.lushr X.here I.1 rfl (hb I.2.2.1 hd) rfl kt) kk
theorem g_i2l (pc' : Nat) {x : Int32} (hd : decode M.2.1 pc = .ok (.i2l, 1))  (hp : pc + 1 = pc') (kk : Go l Z n0 M R Q h kc ks pc' L (.long x.toInt64 :: S)) : Go l Z n0 M R Q h kc ks pc L (.int x :: S) := by
  subst hp
  exact g_pure (fun I X t kt => XT.i2l X.here I.1 rfl (hb I.2.2.1 hd) rfl kt) kk
theorem g_l2i (pc' : Nat) {x : Int64} (hd : decode M.2.1 pc = .ok (.l2i, 1))  (hp : pc + 1 = pc') (kk : Go l Z n0 M R Q h kc ks pc' L (.int x.toInt32 :: S)) : Go l Z n0 M R Q h kc ks pc L (.long x :: S) := by
  subst hp
  exact g_pure (fun I X t kt => XT.l2i X.here I.1 rfl (hb I.2.2.1 hd) rfl kt) kk
theorem g_dload_n (pc' : Nat) {k : Fin 4} {v : UInt64} (hd : decode M.2.1 pc = .ok (.dload_n k, 1)) (hl : L[k.val]? = some (.val (.double v))) (hp : pc + 1 = pc') (kk : Go l Z n0 M R Q h kc ks pc' L (.double v :: S)) : Go l Z n0 M R Q h kc ks pc L (S) := by
  subst hp
  exact g_pure (fun I X t kt => XS.dloadN X.here I.1 rfl (hb I.2.2.1 hd) hl kt) kk
theorem g_ldc2D (pc' : Nat) {index : Nat} {w : UInt64} (hd : decode M.2.1 pc = .ok (.ldc2_w index, 3)) (hw : (Jvm.Cond.constantDouble M.1.cls index w).before a0 Z = true) (hp : pc + 3 = pc') (kk : Go l Z n0 M R Q h kc ks pc' L (.double w :: S)) : Go l Z n0 M R Q h kc ks pc L (S) := by
  subst hp
  exact g_pure (fun I X t kt => X.ldc2DoubleC I.1 I.2.2.2.2.1 (mvT I.2.1 hw) (g := mkF _ pc L S) rfl (hb I.2.2.1 hd) _ kt) kk
theorem g_dup (pc' : Nat) {v : Value} (hd : decode M.2.1 pc = .ok (.dup, 1)) (hv : v.category = 1) (hp : pc + 1 = pc') (kk : Go l Z n0 M R Q h kc ks pc' L (v :: v :: S)) : Go l Z n0 M R Q h kc ks pc L (v :: S) := by
  subst hp
  exact g_pure (fun I X t kt => XS.dup X.here I.1 rfl (hb I.2.2.1 hd) rfl hv kt) kk
theorem g_goto (pc' : Nat) {o : Int} (hd : decode M.2.1 pc = .ok (.goto o, 3)) (hp : (pc : Int) + o = (pc' : Int)) (kk : Go l Z n0 M R Q h kc ks pc' L S) : Go l Z n0 M R Q h kc ks pc L S :=
  g_pure (fun I X t kt => XS.goto X.here I.1 rfl (pc0 := pc) (pc' := pc') rfl (hb I.2.2.1 hd) (by omega) (by omega) kt) kk
theorem g_icmpT (pc' : Nat) {cd : ClassFile.Cond} {o : Int} {x y : Int32} (hd : decode M.2.1 pc = .ok (.if_icmp cd o, 3)) (hc : cP cd x y) (hp : (pc : Int) + o = (pc' : Int)) (kk : Go l Z n0 M R Q h kc ks pc' L S) : Go l Z n0 M R Q h kc ks pc L (.int y :: .int x :: S) :=
  g_pure (fun I X t kt => XS.icmpYes X.here I.1 rfl (pc0 := pc) (pc' := pc') rfl (hb I.2.2.1 hd) rfl (cP_t hc) (by omega) (by omega) kt) kk
theorem g_icmpF (pc' : Nat) {cd : ClassFile.Cond} {o : Int} {x y : Int32} (hd : decode M.2.1 pc = .ok (.if_icmp cd o, 3)) (hc : ¬ cP cd x y) (hp : pc + 3 = pc') (kk : Go l Z n0 M R Q h kc ks pc' L S) : Go l Z n0 M R Q h kc ks pc L (.int y :: .int x :: S) := by
  subst hp
  exact g_pure (fun I X t kt => XS.icmpNo X.here I.1 rfl (hb I.2.2.1 hd) rfl (cP_f hc) kt) kk
theorem g_ifT (pc' : Nat) {cd : ClassFile.Cond} {o : Int} {x : Int32} (hd : decode M.2.1 pc = .ok (.ifCond cd o, 3)) (hc : cP cd x 0) (hp : (pc : Int) + o = (pc' : Int)) (kk : Go l Z n0 M R Q h kc ks pc' L S) : Go l Z n0 M R Q h kc ks pc L (.int x :: S) :=
  g_pure (fun I X t kt => XS.ifYes X.here I.1 rfl (pc0 := pc) (pc' := pc') rfl (hb I.2.2.1 hd) rfl ((if0 cd x).trans (cP_t hc)) (by omega) (by omega) kt) kk
theorem g_ifF (pc' : Nat) {cd : ClassFile.Cond} {o : Int} {x : Int32} (hd : decode M.2.1 pc = .ok (.ifCond cd o, 3)) (hc : ¬ cP cd x 0) (hp : pc + 3 = pc') (kk : Go l Z n0 M R Q h kc ks pc' L S) : Go l Z n0 M R Q h kc ks pc L (.int x :: S) := by
  subst hp
  exact g_pure (fun I X t kt => XS.ifNo X.here I.1 rfl (hb I.2.2.1 hd) rfl ((if0 cd x).trans (cP_f hc)) kt) kk
theorem g_lcmpT (pc' : Nat) {cd : ClassFile.Cond} {o : Int} {x y : Int64} (hd : decode M.2.1 pc = .ok (.lcmp, 1)) (hd2 : decode M.2.1 (pc + 1) = .ok (.ifCond cd o, 3)) (hc : lP cd x y) (hp : ((pc + 1 : Nat) : Int) + o = (pc' : Int)) (kk : Go l Z n0 M R Q h kc ks pc' L S) : Go l Z n0 M R Q h kc ks pc L (.long y :: .long x :: S) :=
  g_pure (fun I X t kt => XT.lcmp X.here I.1 rfl (hb I.2.2.1 hd) rfl (XS.ifYes X.here I.1 rfl (pc0 := pc + 1) (pc' := pc') rfl (hb I.2.2.1 hd2) rfl (lP_t hc) (by omega) (by omega) kt)) kk
theorem g_lcmpF (pc' : Nat) {cd : ClassFile.Cond} {o : Int} {x y : Int64} (hd : decode M.2.1 pc = .ok (.lcmp, 1)) (hd2 : decode M.2.1 (pc + 1) = .ok (.ifCond cd o, 3)) (hc : ¬ lP cd x y) (hp : pc + 4 = pc') (kk : Go l Z n0 M R Q h kc ks pc' L S) : Go l Z n0 M R Q h kc ks pc L (.long y :: .long x :: S) := by
  subst hp
  exact g_pure (fun I X t kt => XT.lcmp X.here I.1 rfl (hb I.2.2.1 hd) rfl (XS.ifNo X.here I.1 rfl (hb I.2.2.1 hd2) rfl (lP_f hc) kt)) kk
theorem g_icmp (pcT pcF : Nat) {cd : ClassFile.Cond} {o : Int} {x y : Int32} (hd : decode M.2.1 pc = .ok (.if_icmp cd o, 3)) (hp : (pc : Int) + o = (pcT : Int)) (hp2 : pc + 3 = pcF) (k1 : cP cd x y → Go l Z n0 M R Q h kc ks pcT L S) (k2 : ¬ cP cd x y → Go l Z n0 M R Q h kc ks pcF L S) : Go l Z n0 M R Q h kc ks pc L (.int y :: .int x :: S) := by
  by_cases q : cP cd x y
  · exact g_icmpT pcT hd q hp (k1 q)
  · exact g_icmpF pcF hd q hp2 (k2 q)
theorem g_ifC (pcT pcF : Nat) {cd : ClassFile.Cond} {o : Int} {x : Int32} (hd : decode M.2.1 pc = .ok (.ifCond cd o, 3)) (hp : (pc : Int) + o = (pcT : Int)) (hp2 : pc + 3 = pcF) (k1 : cP cd x 0 → Go l Z n0 M R Q h kc ks pcT L S) (k2 : ¬ cP cd x 0 → Go l Z n0 M R Q h kc ks pcF L S) : Go l Z n0 M R Q h kc ks pc L (.int x :: S) := by
  by_cases q : cP cd x 0
  · exact g_ifT pcT hd q hp (k1 q)
  · exact g_ifF pcF hd q hp2 (k2 q)
theorem g_lcmp (pcT pcF : Nat) {cd : ClassFile.Cond} {o : Int} {x y : Int64} (hd : decode M.2.1 pc = .ok (.lcmp, 1)) (hd2 : decode M.2.1 (pc + 1) = .ok (.ifCond cd o, 3)) (hp : ((pc + 1 : Nat) : Int) + o = (pcT : Int)) (hp2 : pc + 4 = pcF) (k1 : lP cd x y → Go l Z n0 M R Q h kc ks pcT L S) (k2 : ¬ lP cd x y → Go l Z n0 M R Q h kc ks pcF L S) : Go l Z n0 M R Q h kc ks pc L (.long y :: .long x :: S) := by
  by_cases q : lP cd x y
  · exact g_lcmpT pcT hd hd2 q hp (k1 q)
  · exact g_lcmpF pcF hd hd2 q hp2 (k2 q)
theorem g_nullT (pc' : Nat) {o : Int} (hd : decode M.2.1 pc = .ok (.ifnull o, 3)) (hp : (pc : Int) + o = (pc' : Int)) (kk : Go l Z n0 M R Q h kc ks pc' L S) : Go l Z n0 M R Q h kc ks pc L (.null :: S) :=
  g_pure (fun I X t kt => XS.ifnullYes X.here I.1 rfl (pc0 := pc) (pc' := pc') rfl (hb I.2.2.1 hd) rfl (by omega) (by omega) kt) kk
theorem g_nullF (pc' : Nat) {o : Int} {a : Addr} (hd : decode M.2.1 pc = .ok (.ifnull o, 3)) (hp : pc + 3 = pc') (kk : Go l Z n0 M R Q h kc ks pc' L S) : Go l Z n0 M R Q h kc ks pc L (.ref a :: S) := by
  subst hp
  exact g_pure (fun I X t kt => XS.ifnullNo X.here I.1 rfl (hb I.2.2.1 hd) rfl kt) kk
theorem g_nonnullT (pc' : Nat) {o : Int} {a : Addr} (hd : decode M.2.1 pc = .ok (.ifnonnull o, 3)) (hp : (pc : Int) + o = (pc' : Int)) (kk : Go l Z n0 M R Q h kc ks pc' L S) : Go l Z n0 M R Q h kc ks pc L (.ref a :: S) :=
  g_pure (fun I X t kt => XT.ifnonnullYes X.here I.1 rfl (pc0 := pc) (pc' := pc') rfl (hb I.2.2.1 hd) rfl (by omega) (by omega) kt) kk
theorem g_nonnullF (pc' : Nat) {o : Int} (hd : decode M.2.1 pc = .ok (.ifnonnull o, 3)) (hp : pc + 3 = pc') (kk : Go l Z n0 M R Q h kc ks pc' L S) : Go l Z n0 M R Q h kc ks pc L (.null :: S) := by
  subst hp
  exact g_pure (fun I X t kt => XT.ifnonnullNo X.here I.1 rfl (hb I.2.2.1 hd) rfl kt) kk
-- RETURNS
theorem g_ret {w : Value} {t : FieldType} {i : Instr} (hd : decode M.2.1 pc = .ok (i, 1)) (hret : M.2.2.2 = some t) (hn : narrow t w = w)
    (hi : (i = .ireturn ∧ (t = .int ∨ t = .boolean ∨ t = .byte ∨ t = .char ∨ t = .short) ∧ ∃ z, w = .int z) ∨ (i = .lreturn ∧ t = .long ∧ ∃ z, w = .long z) ∨ (i = .dreturn ∧ t = .double ∧ ∃ z, w = .double z) ∨ (i = .freturn ∧ t = .float ∧ ∃ z, w = .float z) ∨ (i = .areturn ∧ t.isReference = true ∧ w.isRef = true))
    (hc : kc ≤ R.cells) (hs : ks ≤ R.slots) (hq : Q (some w) h) : Go l Z n0 M R Q h kc ks pc L (w :: S) := by
  intro p e s m args below meth c T locs I X eT N
  obtain ⟨hx, hZ, hby, hml, hown, hnm, hrt, hlk, hn0⟩ := I
  obtain ⟨fs, hr, hrun, hended, hW, hsame⟩ := X.leave (v := some w) (fun q => by rw [hrt, hret] at q; cases q) hlk
  refine ⟨_, _, retOut X hx (hrt.trans hret) hn hi (hb hby hd) hr, hrun, hended, _, _, rfl, ⟨?_, N⟩, ⟨_, rfl⟩, hW, hsame.mono hc hs⟩
  show Q (some w) T.heap
  rw [eT]
  exact hq
theorem g_retI {z : Int32} (hd : decode M.2.1 pc = .ok (.ireturn, 1)) (hret : M.2.2.2 = some .int) (hc : kc ≤ R.cells) (hs : ks ≤ R.slots) (hq : Q (some (.int z)) h) : Go l Z n0 M R Q h kc ks pc L (.int z :: S) :=
  g_ret hd hret rfl (Or.inl ⟨rfl, Or.inl rfl, _, rfl⟩) hc hs hq
theorem g_retZ {z : Int32} (hd : decode M.2.1 pc = .ok (.ireturn, 1)) (hret : M.2.2.2 = some .boolean) (hn : narrow .boolean (.int z) = .int z) (hc : kc ≤ R.cells) (hs : ks ≤ R.slots) (hq : Q (some (.int z)) h) : Go l Z n0 M R Q h kc ks pc L (.int z :: S) :=
  g_ret hd hret hn (Or.inl ⟨rfl, Or.inr (Or.inl rfl), _, rfl⟩) hc hs hq
theorem g_retJ {z : Int64} (hd : decode M.2.1 pc = .ok (.lreturn, 1)) (hret : M.2.2.2 = some .long) (hc : kc ≤ R.cells) (hs : ks ≤ R.slots) (hq : Q (some (.long z)) h) : Go l Z n0 M R Q h kc ks pc L (.long z :: S) :=
  g_ret hd hret rfl (Or.inr (Or.inl ⟨rfl, rfl, _, rfl⟩)) hc hs hq
theorem g_retV (hd : decode M.2.1 pc = .ok (.return_, 1)) (hret : M.2.2.2 = none) (hc : kc ≤ R.cells) (hs : ks ≤ R.slots) (hq : Q none h) : Go l Z n0 M R Q h kc ks pc L [] := by
  intro p e s m args below meth c T locs I X eT N
  obtain ⟨hx, hZ, hby, hml, hown, hnm, hrt, hlk, hn0⟩ := I
  obtain ⟨fs, hr, hrun, hended, hW, hsame⟩ := X.leave (v := none) (fun _ => rfl) hlk
  refine ⟨_, _, X.returnOut hx (hrt.trans hret) (hb hby hd) hr, hrun, hended, _, _, rfl, ⟨?_, N⟩, ⟨_, rfl⟩, hW, hsame.mono hc hs⟩
  show Q none T.heap
  rw [eT]
  exact hq
-- ENTRY
theorem con_intro {as' : Array Value} {h0 : Heap} {rm : Room} (hpl : plainFor M.1 = true) (L : Array Slot) (hL : ∀ m, entryFrame m as' M.2.2.1 = mkF m 0 L []) (body : n0 ≤ h0.size → Go l Z n0 M rm Q h0 0 0 0 L []) : Con l Z n0 M rm as' h0 Q := by
  intro Z0 ws
  refine MetFree.of_bodySF hpl hisR ?_
  intro p e s m args below meth c s₁ Bd hml0 hP hK
  obtain ⟨rfl, hZ, hh⟩ := hP
  have e0 : s₁.heap = h0 := by rw [← hh, Bd.state]; rfl
  have X0 : Stand p l e rm s m args below meth c s₁ [] 0 0 := Stand.of_body Bd
  obtain ⟨s₂, o, h1, r⟩ := body Z0 p e s m args below meth c s₁ [] ⟨Bd.exec, hZ, Bd.bytes, hml0, findClass_of_methodNamed Bd.named, (name_of_methodNamed Bd.named Bd.method).1, Bd.returns, Bd.notSynchronized, by rw [hh]; exact Z0⟩ X0 e0 (Fr.nil n0)
  exact ⟨s₂, o, castTop (hL m) h1, r⟩
-- HEAP
theorem g_getF (pc' : Nat) {index : Nat} {O n d : String} {a : Addr} {v : Value} (hd : decode M.2.1 pc = .ok (.getfield index, 3)) (w : (Jvm.Cond.fieldLink M.1.cls index O n d).before a0 Z = true) (F : Fld Z h a O n d v) (hp : pc + 3 = pc') (kk : Go l Z n0 M R Q h kc ks pc' L (v :: S)) : Go l Z n0 M R Q h kc ks pc L (.ref a :: S) := by
  subst hp
  exact g_via (fun I X eT => getF X I.1 I.2.1 I.2.2.2.2.1 (host := "") (Or.inl w) Via.refl eT F (g := mkF _ pc L (.ref a :: S)) rfl rfl (hb I.2.2.1 hd)) kk
theorem g_ex {pc' : Nat} {L' : Array Slot} {S' : List Value} {kc' ks' : Nat} {P : Heap → Prop}
    (st : ∀ {p : Program} {e : Env} {s : State} {m : MethodId} {args : Array Value} {below : List Frame} {meth : Method} {c : Code} {T : State} {locs : List Loc}, Inv Z n0 M p s m meth c → Stand p l e R s m args below meth c T locs kc ks → T.heap = h → Fr n0 locs →
      ∃ T' h' locs', Stand p l e R s m args below meth c T' locs' kc' ks' ∧ T'.heap = h' ∧ Fr n0 locs' ∧ P h' ∧ ∀ target, Steps p.tables e below (T'.setTop (mkF m pc' L' S')) target → Steps p.tables e below (T.setTop (mkF m pc L S)) target)
    (k : ∀ h', P h' → Go l Z n0 M R Q h' kc' ks' pc' L' S') : Go l Z n0 M R Q h kc ks pc L S := by
  intro p e s m args below meth c T locs I X eT N
  obtain ⟨T', h', locs', X', eT', N', hP, st'⟩ := st I X eT N
  obtain ⟨s₂, o, h1, r⟩ := k h' hP p e s m args below meth c T' locs' I X' eT' N'
  exact ⟨s₂, o, st' _ h1, r⟩
theorem g_sz (kk : n0 ≤ h.size → Go l Z n0 M R Q h kc ks pc L S) : Go l Z n0 M R Q h kc ks pc L S := by
  intro p e s m args below meth c T locs I X eT N
  have q : n0 ≤ h.size := by
    rw [← eT]
    exact Nat.le_trans I.2.2.2.2.2.2.2.2 X.same.2.1
  exact kk q p e s m args below meth c T locs I X eT N
theorem g_putF (pc' : Nat) {index kk' : Nat} {O n d C : String} {a : Addr} {v old : Value} {ty : FieldType} (hd : decode M.2.1 pc = .ok (.putfield index, 3)) (w : (Jvm.Cond.fieldLink M.1.cls index O n d).before a0 Z = true) (F : Fld Z h a O n d old) (E : Exa Z h a C)
    (Lw : (Jvm.Cond.lays C O n d).before a0 Z = true ∨ ((Jvm.Cond.laysFinal C O n d).before a0 Z = true ∧ M.1.cls = O ∧ M.1.name = "<init>")) (wi : (Jvm.Cond.instantiable C kk').before a0 Z = true) (hty : parseFieldDescriptor d = some ty) (hn : narrow ty v = v) (hf : fits ty v = true) (ga : n0 ≤ a) (hp : pc + 3 = pc')
    (kk : ∀ h', Wr h h' a (Jvm.RoadKit.slotOf Z O n d) v → Go l Z n0 M R Q h' kc ks pc' L S) : Go l Z n0 M R Q h kc ks pc L (v :: .ref a :: S) := by
  subst hp
  refine g_ex (P := fun h' => Wr h h' a (Jvm.RoadKit.slotOf Z O n d) v) (fun I X eT N => ?_) kk
  obtain ⟨T', h', X', e', W', st⟩ := putF X I.1 I.2.1 I.2.2.2.2.1 (host := "") (Or.inl w) Via.refl eT F E (Lw.imp id (fun q => ⟨q.1, q.2.1, I.2.2.2.2.2.1.trans q.2.2⟩)) wi hty hn hf (g := mkF _ pc L (v :: .ref a :: S)) rfl rfl (hb I.2.2.1 hd)
  exact ⟨T', h', _, X', e', Fr.snoc X' N ga, W', st⟩
theorem g_new (pc' : Nat) {index n : Nat} {C : String} (hd : decode M.2.1 pc = .ok (.new index, 3)) (w : (Jvm.Cond.classLink M.1.cls index C).before a0 Z = true) (wi : (Jvm.Cond.instantiable C n).before a0 Z = true) (wz : (Jvm.Cond.initialized C).before a0 Z = true) (hc : kc + 1 ≤ R.cells) (hs : ks + n ≤ R.slots) (hp : pc + 3 = pc')
    (kk : ∀ h', Ext h h' → Exa Z h' h.size C → (∀ {O nm d : String} {ty : FieldType}, Laid Z a0 C O nm d → parseFieldDescriptor d = some ty → Fld Z h' h.size O nm d (defaultValue ty)) → Go l Z n0 M R Q h' (kc + 1) (ks + n) pc' L (.ref h.size :: S)) : Go l Z n0 M R Q h kc ks pc L S := by
  subst hp
  refine g_ex (P := fun h' => Ext h h' ∧ Exa Z h' h.size C ∧ (∀ {O nm d : String} {ty : FieldType}, Laid Z a0 C O nm d → parseFieldDescriptor d = some ty → Fld Z h' h.size O nm d (defaultValue ty))) (fun I X eT N => ?_) (fun h' q => kk h' q.1 q.2.1 q.2.2)
  obtain ⟨T', h', X', e', E', A', D', -, st⟩ := newO X I.1 I.2.1 I.2.2.2.2.1 w wi wz eT (g := mkF _ pc L S) rfl (hb I.2.2.1 hd) hc hs
  exact ⟨T', h', _, X', e', N, ⟨E', A', D'⟩, st⟩
theorem g_init (pc' : Nat) {idx : Nat} {a : Addr} (hd : decode M.2.1 pc = .ok (.invokespecial idx, 3)) (w1 : (Jvm.Cond.methodLink M.1.cls idx Lib.objectInit).before a0 Z = true) (w2 : (Jvm.Cond.instanceMethod Lib.objectInit).before a0 Z = true) (w3 : (Jvm.Cond.code Lib.objectInit ⟨#[0xb1]⟩ 1 none).before a0 Z = true)
    (hsz : L.size = M.2.2.1) (hf : 1 ≤ R.frames) (hl : (S.map fun v => v.category).sum + 12 ≤ R.locals) (hp : pc + 3 = pc') (kk : Go l Z n0 M R Q h kc ks pc' L S) : Go l Z n0 M R Q h kc ks pc L (.ref a :: S) := by
  subst hp
  exact g_via (fun I X eT => initO X I.1 I.2.1 I.2.2.2.2.1 w1 w2 w3 eT (g := mkF _ pc L (.ref a :: S)) rfl (hsz.trans I.2.2.2.1.symm) rfl (hb I.2.2.1 hd) hf (W := (S.map fun v => v.category).sum) (by show 2 * 0 + _ ≤ _; omega) hl) kk
theorem g_mkA (pc' : Nat) {aty : ArrayType} {ty : FieldType} {n : Int32} (hd : decode M.2.1 pc = .ok (.newarray aty, 2)) (w : (Jvm.Cond.arrayClass ty).before a0 Z = true) (ht : newarray.typeOf aty = ty) (hn : ¬ n < 0) (cap : Nat) (hcap : n.toNatClampNeg ≤ cap) (hb8 : cap * 8 ≤ 536870912) (hc : kc + 1 ≤ R.cells) (hs : ks + cap ≤ R.slots) (hp : pc + 2 = pc')
    (kk : ∀ h' cA, Ext h h' → Arr Z h' h.size (newA cA ty n) ty → Go l Z n0 M R Q h' (kc + 1) (ks + cap) pc' L (.ref h.size :: S)) : Go l Z n0 M R Q h kc ks pc L (.int n :: S) := by
  subst hp ht
  refine g_ex (P := fun h' => ∃ cA, Ext h h' ∧ Arr Z h' h.size (newA cA (newarray.typeOf aty) n) (newarray.typeOf aty)) (fun I X eT N => ?_) (fun h' q => q.elim fun cA q => kk h' cA q.1 q.2)
  obtain ⟨T', h', cA, X', e', E', A', st⟩ := newP X I.1 I.2.1 w eT (g := mkF _ pc L (.int n :: S)) rfl (hb I.2.2.1 hd) rfl hn hcap hb8 hc hs
  exact ⟨T', h', _, X', e', N, ⟨cA, E', A'⟩, st⟩
-- ARRAYS, by the list of their values
def Ary (Z : State) (h : Heap) (a : Addr) (ty : FieldType) (vs : List Value) : Prop := ∃ c : Cell, Arr Z h a c ty ∧ c.slots = vs.toArray ∧ vs.length < 2147483648
theorem Ary.lt {a : Addr} {ty : FieldType} {vs : List Value} (A : Ary Z h a ty vs) : a < h.size := A.elim fun c q => q.1.lt
theorem Ary.ext {h' : Heap} {a : Addr} {ty : FieldType} {vs : List Value} (A : Ary Z h a ty vs) (E : Ext h h') : Ary Z h' a ty vs := A.elim fun c q => ⟨c, q.1.ext E, q.2⟩
theorem Ary.other {h' : Heap} {a b : Addr} {sl : Nat} {v : Value} {ty : FieldType} {vs : List Value} (A : Ary Z h a ty vs) (W : Wr h h' b sl v) (q : a ≠ b) : Ary Z h' a ty vs := A.elim fun c r => ⟨c, r.1.other W q, r.2⟩
theorem Ary.keep {h' : Heap} {a : Addr} {ws : List Addr} {ty : FieldType} {vs : List Value} (A : Ary Z h a ty vs) (K : Keep h h' ws) (q : a ∉ ws) : Ary Z h' a ty vs := A.elim fun c r => ⟨c, ⟨K.2.1 a c r.1.1 q, r.1.2⟩, r.2⟩
theorem Ary.set {h' : Heap} {a : Addr} {ty : FieldType} {vs : List Value} {i : Nat} {v : Value} (A : Ary Z h a ty vs) (W : Wr h h' a i v) : Ary Z h' a ty (vs.set i v) := by
  obtain ⟨c, r, e, hl⟩ := A
  refine ⟨_, r.same W, ?_, by simpa using hl⟩
  show c.slots.setIfInBounds i v = _
  rw [e]
  simp
theorem Ary.fresh {a : Addr} {ty : FieldType} {cA : ClassId} {n : Int32} (A : Arr Z h a (newA cA ty n) ty) (k : Nat) (hk : n.toInt = (k : Int)) : Ary Z h a ty (List.replicate k (defaultValue ty)) := by
  have e : n.toNatClampNeg = k := by
    show n.toInt.toNat = k
    omega
  refine ⟨_, A, ?_, ?_⟩
  · show Array.replicate n.toNatClampNeg (defaultValue ty) = _
    rw [e]; simp
  · have := n.toInt_lt
    rw [List.length_replicate]; omega
theorem ix_in {a : Addr} {c : Cell} {vs : List Value} {j : Int32} {i : Nat} (e : c.slots = vs.toArray) (hj : j.toInt = (i : Int)) (hi : i < vs.length) : (¬ (j < 0 ∨ c.slots.size ≤ j.toNatClampNeg)) ∧ j.toNatClampNeg = i := by
  have e2 : j.toNatClampNeg = i := by
    show j.toInt.toNat = i
    omega
  refine ⟨?_, e2⟩
  rw [e2, e, Int32.lt_iff_toInt_lt]
  have : (0 : Int32).toInt = 0 := rfl
  have : vs.toArray.size = vs.length := by simp
  omega
theorem g_aloadI (pc' : Nat) {a : Addr} {vs : List Value} {j : Int32} (i : Nat) {v : Value} (hd : decode M.2.1 pc = .ok (.iaload, 1)) (A : Ary Z h a .int vs) (hj : j.toInt = (i : Int)) (hv : vs[i]? = some v) (hp : pc + 1 = pc') (kk : Go l Z n0 M R Q h kc ks pc' L (v :: S)) : Go l Z n0 M R Q h kc ks pc L (.int j :: .ref a :: S) := by
  subst hp
  obtain ⟨c, Ar, e, hl⟩ := A
  obtain ⟨q1, q2⟩ := ix_in (a := a) e hj (List.getElem?_eq_some_iff.mp hv).1
  refine g_via (fun I X eT => ⟨_, X, eT, fun t kt => X.iaload I.1 (cell := c) (v := v) (by rw [eT]; exact Ar.1) (State.isArrayOf_alike I.2.1.alike Ar.2.1) Ar.2.2 q1 (by rw [q2, e]; simpa using hv) (g := mkF _ pc L (.int j :: .ref a :: S)) rfl rfl (hb I.2.2.1 hd) t kt⟩) kk
theorem g_aloadJ (pc' : Nat) {a : Addr} {vs : List Value} {j : Int32} (i : Nat) {v : Value} (hd : decode M.2.1 pc = .ok (.laload, 1)) (A : Ary Z h a .long vs) (hj : j.toInt = (i : Int)) (hv : vs[i]? = some v) (hp : pc + 1 = pc') (kk : Go l Z n0 M R Q h kc ks pc' L (v :: S)) : Go l Z n0 M R Q h kc ks pc L (.int j :: .ref a :: S) := by
  subst hp
  obtain ⟨c, Ar, e, hl⟩ := A
  obtain ⟨q1, q2⟩ := ix_in (a := a) e hj (List.getElem?_eq_some_iff.mp hv).1
  refine g_via (fun I X eT => ⟨_, X, eT, fun t kt => X.laload I.1 (cell := c) (v := v) (by rw [eT]; exact Ar.1) (State.isArrayOf_alike I.2.1.alike Ar.2.1) Ar.2.2 q1 (by rw [q2, e]; simpa using hv) (g := mkF _ pc L (.int j :: .ref a :: S)) rfl rfl (hb I.2.2.1 hd) t kt⟩) kk
theorem g_alen (pc' : Nat) {a : Addr} {ty : FieldType} {vs : List Value} (w : Int32) (hd : decode M.2.1 pc = .ok (.arraylength, 1)) (A : Ary Z h a ty vs) (hw : w = Int32.ofNat vs.length) (hp : pc + 1 = pc') (kk : Go l Z n0 M R Q h kc ks pc' L (.int w :: S)) : Go l Z n0 M R Q h kc ks pc L (.ref a :: S) := by
  subst hp hw
  obtain ⟨c, Ar, e, hl⟩ := A
  have e2 : c.slots.size.toInt32 = Int32.ofNat vs.length := by rw [e]; simp [Nat.toInt32]
  refine g_via (fun I X eT => ⟨_, X, eT, fun t kt => X.arraylength I.1 (cell := c) (by rw [eT]; exact Ar.1) (State.isArrayOf_alike I.2.1.alike Ar.2.1) (g := mkF _ pc L (.ref a :: S)) rfl rfl (hb I.2.2.1 hd) t (by rw [e2]; exact kt)⟩) kk
theorem g_astoreI (pc' : Nat) {a : Addr} {vs : List Value} {j x : Int32} (i : Nat) (hd : decode M.2.1 pc = .ok (.iastore, 1)) (A : Ary Z h a .int vs) (hj : j.toInt = (i : Int)) (hi : i < vs.length) (ga : n0 ≤ a) (hp : pc + 1 = pc')
    (kk : ∀ h', Wr h h' a i (.int x) → Go l Z n0 M R Q h' kc ks pc' L S) : Go l Z n0 M R Q h kc ks pc L (.int x :: .int j :: .ref a :: S) := by
  subst hp
  obtain ⟨c, Ar, e, hl⟩ := A
  obtain ⟨q1, q2⟩ := ix_in (a := a) e hj hi
  refine g_ex (P := fun h' => Wr h h' a i (.int x)) (fun I X eT N => ?_) kk
  obtain ⟨T', h', X', e', W', st⟩ := stI X I.1 I.2.1 eT Ar (x := x) q1 (g := mkF _ pc L (.int x :: .int j :: .ref a :: S)) rfl rfl (hb I.2.2.1 hd)
  exact ⟨T', h', _, X', e', Fr.snoc X' N ga, q2 ▸ W', st⟩
theorem g_astoreJ (pc' : Nat) {a : Addr} {vs : List Value} {j : Int32} {x : Int64} (i : Nat) (hd : decode M.2.1 pc = .ok (.lastore, 1)) (A : Ary Z h a .long vs) (hj : j.toInt = (i : Int)) (hi : i < vs.length) (ga : n0 ≤ a) (hp : pc + 1 = pc')
    (kk : ∀ h', Wr h h' a i (.long x) → Go l Z n0 M R Q h' kc ks pc' L S) : Go l Z n0 M R Q h kc ks pc L (.long x :: .int j :: .ref a :: S) := by
  subst hp
  obtain ⟨c, Ar, e, hl⟩ := A
  obtain ⟨q1, q2⟩ := ix_in (a := a) e hj hi
  refine g_ex (P := fun h' => Wr h h' a i (.long x)) (fun I X eT N => ?_) kk
  obtain ⟨T', h', X', e', W', st⟩ := stJ X I.1 I.2.1 eT Ar (x := x) q1 (g := mkF _ pc L (.long x :: .int j :: .ref a :: S)) rfl rfl (hb I.2.2.1 hd)
  exact ⟨T', h', _, X', e', Fr.snoc X' N ga, q2 ▸ W', st⟩
theorem g_astoreD (pc' : Nat) {a : Addr} {vs : List Value} {j : Int32} {x : UInt64} (i : Nat) (hd : decode M.2.1 pc = .ok (.dastore, 1)) (A : Ary Z h a .double vs) (hj : j.toInt = (i : Int)) (hi : i < vs.length) (ga : n0 ≤ a) (hp : pc + 1 = pc')
    (kk : ∀ h', Wr h h' a i (.double x) → Go l Z n0 M R Q h' kc ks pc' L S) : Go l Z n0 M R Q h kc ks pc L (.double x :: .int j :: .ref a :: S) := by
  subst hp
  obtain ⟨c, Ar, e, hl⟩ := A
  obtain ⟨q1, q2⟩ := ix_in (a := a) e hj hi
  refine g_ex (P := fun h' => Wr h h' a i (.double x)) (fun I X eT N => ?_) kk
  obtain ⟨T', h', X', e', W', st⟩ := stD X I.1 I.2.1 eT Ar (x := x) q1 (g := mkF _ pc L (.double x :: .int j :: .ref a :: S)) rfl rfl (hb I.2.2.1 hd)
  exact ⟨T', h', _, X', e', Fr.snoc X' N ga, q2 ▸ W', st⟩
-- TYPED ARRAYS
def AryI (Z : State) (h : Heap) (a : Addr) (vs : List Int32) : Prop := Ary Z h a .int (vs.map Value.int)
def AryJ (Z : State) (h : Heap) (a : Addr) (vs : List Int64) : Prop := Ary Z h a .long (vs.map Value.long)
theorem AryI.lt {a : Addr} {vs : List Int32} (A : AryI Z h a vs) : a < h.size := Ary.lt (show Ary Z h a .int (vs.map Value.int) from A)
theorem AryI.ext {h' : Heap} {a : Addr} {vs : List Int32} (A : AryI Z h a vs) (E : Ext h h') : AryI Z h' a vs := Ary.ext (show Ary Z h a .int (vs.map Value.int) from A) E
theorem AryI.other {h' : Heap} {a b : Addr} {sl : Nat} {v : Value} {vs : List Int32} (A : AryI Z h a vs) (W : Wr h h' b sl v) (q : a ≠ b) : AryI Z h' a vs := Ary.other (show Ary Z h a .int (vs.map Value.int) from A) W q
theorem AryI.keep {h' : Heap} {a : Addr} {ws : List Addr} {vs : List Int32} (A : AryI Z h a vs) (K : Keep h h' ws) (q : a ∉ ws) : AryI Z h' a vs := Ary.keep (show Ary Z h a .int (vs.map Value.int) from A) K q
theorem AryI.set {h' : Heap} {a : Addr} {vs : List Int32} {i : Nat} {x : Int32} (A : AryI Z h a vs) (W : Wr h h' a i (.int x)) : AryI Z h' a (vs.set i x) := by
  unfold AryI at *
  rw [List.map_set]
  exact A.set W
theorem AryI.fresh {a : Addr} {cA : ClassId} {n : Int32} (A : Arr Z h a (newA cA .int n) .int) (k : Nat) (hk : n.toInt = (k : Int)) : AryI Z h a (List.replicate k 0) := by
  unfold AryI
  rw [List.map_replicate]
  exact Ary.fresh A k hk
theorem g_ldI (pc' : Nat) {a : Addr} {vs : List Int32} {j : Int32} (i : Nat) {x : Int32} (hd : decode M.2.1 pc = .ok (.iaload, 1)) (A : AryI Z h a vs) (hj : j.toInt = (i : Int)) (hv : vs[i]? = some x) (hp : pc + 1 = pc') (kk : Go l Z n0 M R Q h kc ks pc' L (.int x :: S)) : Go l Z n0 M R Q h kc ks pc L (.int j :: .ref a :: S) :=
  g_aloadI pc' i hd (show Ary Z h a .int (vs.map Value.int) from A) hj (by rw [List.getElem?_map, hv]; rfl) hp kk
theorem g_stI (pc' : Nat) {a : Addr} {vs : List Int32} {j : Int32} {x : Int32} (i : Nat) (hd : decode M.2.1 pc = .ok (.iastore, 1)) (A : AryI Z h a vs) (hj : j.toInt = (i : Int)) (hi : i < vs.length) (ga : n0 ≤ a) (hp : pc + 1 = pc')
    (kk : ∀ h', Wr h h' a i (.int x) → Go l Z n0 M R Q h' kc ks pc' L S) : Go l Z n0 M R Q h kc ks pc L (.int x :: .int j :: .ref a :: S) :=
  g_astoreI pc' i hd (show Ary Z h a .int (vs.map Value.int) from A) hj (by rw [List.length_map]; exact hi) ga hp kk
theorem g_lenI (pc' : Nat) {a : Addr} {vs : List Int32} (w : Int32) (hd : decode M.2.1 pc = .ok (.arraylength, 1)) (A : AryI Z h a vs) (hw : w = Int32.ofNat vs.length) (hp : pc + 1 = pc') (kk : Go l Z n0 M R Q h kc ks pc' L (.int w :: S)) : Go l Z n0 M R Q h kc ks pc L (.ref a :: S) :=
  g_alen pc' w hd (show Ary Z h a .int (vs.map Value.int) from A) (by rw [List.length_map]; exact hw) hp kk
theorem AryJ.lt {a : Addr} {vs : List Int64} (A : AryJ Z h a vs) : a < h.size := Ary.lt (show Ary Z h a .long (vs.map Value.long) from A)
theorem AryJ.ext {h' : Heap} {a : Addr} {vs : List Int64} (A : AryJ Z h a vs) (E : Ext h h') : AryJ Z h' a vs := Ary.ext (show Ary Z h a .long (vs.map Value.long) from A) E
theorem AryJ.other {h' : Heap} {a b : Addr} {sl : Nat} {v : Value} {vs : List Int64} (A : AryJ Z h a vs) (W : Wr h h' b sl v) (q : a ≠ b) : AryJ Z h' a vs := Ary.other (show Ary Z h a .long (vs.map Value.long) from A) W q
theorem AryJ.keep {h' : Heap} {a : Addr} {ws : List Addr} {vs : List Int64} (A : AryJ Z h a vs) (K : Keep h h' ws) (q : a ∉ ws) : AryJ Z h' a vs := Ary.keep (show Ary Z h a .long (vs.map Value.long) from A) K q
theorem AryJ.set {h' : Heap} {a : Addr} {vs : List Int64} {i : Nat} {x : Int64} (A : AryJ Z h a vs) (W : Wr h h' a i (.long x)) : AryJ Z h' a (vs.set i x) := by
  unfold AryJ at *
  rw [List.map_set]
  exact A.set W
theorem AryJ.fresh {a : Addr} {cA : ClassId} {n : Int32} (A : Arr Z h a (newA cA .long n) .long) (k : Nat) (hk : n.toInt = (k : Int)) : AryJ Z h a (List.replicate k 0) := by
  unfold AryJ
  rw [List.map_replicate]
  exact Ary.fresh A k hk
theorem g_ldJ (pc' : Nat) {a : Addr} {vs : List Int64} {j : Int32} (i : Nat) {x : Int64} (hd : decode M.2.1 pc = .ok (.laload, 1)) (A : AryJ Z h a vs) (hj : j.toInt = (i : Int)) (hv : vs[i]? = some x) (hp : pc + 1 = pc') (kk : Go l Z n0 M R Q h kc ks pc' L (.long x :: S)) : Go l Z n0 M R Q h kc ks pc L (.int j :: .ref a :: S) :=
  g_aloadJ pc' i hd (show Ary Z h a .long (vs.map Value.long) from A) hj (by rw [List.getElem?_map, hv]; rfl) hp kk
theorem g_stJ (pc' : Nat) {a : Addr} {vs : List Int64} {j : Int32} {x : Int64} (i : Nat) (hd : decode M.2.1 pc = .ok (.lastore, 1)) (A : AryJ Z h a vs) (hj : j.toInt = (i : Int)) (hi : i < vs.length) (ga : n0 ≤ a) (hp : pc + 1 = pc')
    (kk : ∀ h', Wr h h' a i (.long x) → Go l Z n0 M R Q h' kc ks pc' L S) : Go l Z n0 M R Q h kc ks pc L (.long x :: .int j :: .ref a :: S) :=
  g_astoreJ pc' i hd (show Ary Z h a .long (vs.map Value.long) from A) hj (by rw [List.length_map]; exact hi) ga hp kk
theorem g_lenJ (pc' : Nat) {a : Addr} {vs : List Int64} (w : Int32) (hd : decode M.2.1 pc = .ok (.arraylength, 1)) (A : AryJ Z h a vs) (hw : w = Int32.ofNat vs.length) (hp : pc + 1 = pc') (kk : Go l Z n0 M R Q h kc ks pc' L (.int w :: S)) : Go l Z n0 M R Q h kc ks pc L (.ref a :: S) :=
  g_alen pc' w hd (show Ary Z h a .long (vs.map Value.long) from A) (by rw [List.length_map]; exact hw) hp kk
-- WHAT LIES BELOW IS KEPT
def Low (n1 : Nat) (h h' : Heap) : Prop := h.size ≤ h'.size ∧ ∀ (x : Addr) (c : Cell), x < n1 → h[x]? = some c → h'[x]? = some c
theorem con_low {n1 : Nat} {N : MD} {rm : Room} {as' : Array Value} {Q' : Option Value → Heap → Prop} (con : Con l Z n1 N rm as' h Q') (hn : n0 ≤ n1) (h1 : n1 ≤ h.size) : Con l Z n0 N rm as' h (fun v h' => Q' v h' ∧ Low n1 h h') := by
  intro _ ws p e ha hc hk s m args below hf happ hP hK
  obtain ⟨n, o, g1, g2, g3, v, L, rfl, ⟨hQ, hF⟩, hE⟩ := con h1 ws p e ha hc hk s m args below hf happ hP hK
  refine ⟨n, _, g1, g2, g3, v, L, rfl, ⟨⟨hQ, ?_⟩, fun y hy => Nat.le_trans hn (hF y hy)⟩, hE⟩
  obtain ⟨-, -, hh⟩ := hP
  obtain ⟨-, -, -, k1, -, -, -, k5⟩ := hE
  rw [hh] at k1 k5
  refine ⟨k1, fun x c hx hc => ?_⟩
  obtain ⟨c', q1, q2, q3, q4⟩ := k5 x c hc
  have e : c'.slots = c.slots := by
    apply Array.ext_getElem?
    intro i
    exact q4 i (fun hm => absurd (hF _ hm) (Nat.not_le.mpr hx))
  have e2 : c' = c := by rw [q2, e]
  exact e2 ▸ q1
theorem AryI.low {n1 : Nat} {h' : Heap} {a : Addr} {vs : List Int32} (A : AryI Z h a vs) (K : Low n1 h h') (q : a < n1) : AryI Z h' a vs := by
  obtain ⟨c, r, e⟩ := A
  exact ⟨c, ⟨K.2 a c q r.1, r.2⟩, e⟩
-- CALLS
theorem g_callS (pc' : Nat) {index : Nat} {N : MD} {rm : Room} {Q' : Option Value → Heap → Prop} {St : List Value} {ps : List FieldType} {r : Option FieldType} (as' S : List Value) (hd : decode M.2.1 pc = .ok (.invokestatic index, 3))
    (w1 : (Jvm.Cond.methodLink M.1.cls index N.1).before a0 Z = true) (w2 : (Jvm.Cond.static N.1).before a0 Z = true) (w3 : (Jvm.Cond.initialized N.1.cls).before a0 Z = true) (w4 : (Jvm.Cond.code N.1 N.2.1 N.2.2.1 N.2.2.2).before a0 Z = true) (hy : N.1.cls ≠ "java/lang/invoke/MethodHandle" ∧ N.1.cls ≠ "java/lang/invoke/VarHandle")
    (con : Con l Z n0 N rm as'.toArray h Q') (hsz : L.size = M.2.2.1) (hpd : parseMethodDescriptor N.1.desc = some ⟨ps, r⟩) (hlen : as'.length = ps.length) (hst : St = as'.reverse ++ S)
    (hf : rm.frames + 1 ≤ R.frames) (hl : (S.map fun v => v.category).sum + (N.2.2.1 + 11) + rm.locals ≤ R.locals) (hc : kc + rm.cells ≤ R.cells) (hs : ks + rm.slots ≤ R.slots) (hp : pc + 3 = pc')
    (kk : ∀ v h', Q' v h' → Go l Z n0 M R Q h' (kc + rm.cells) (ks + rm.slots) pc' L (v.toList ++ S)) : Go l Z n0 M R Q h kc ks pc L St := by
  subst hp hst
  intro p e s m args below meth c T locs I X eT N'
  have Z0 : n0 ≤ h.size := by
    rw [← eT]
    exact Nat.le_trans I.2.2.2.2.2.2.2.2 X.same.2.1
  obtain ⟨v, _, ⟨T1, L1, k1, m1⟩, -, X1, ⟨Lc, hQ, l1, y1, z1⟩, st⟩ := Jvm.LawKit.callS X I.1 (y := N.1) I.2.2.2.2.1 (mvT I.2.1 w1) (mvT I.2.1 w2) (mvT I.2.1 w3) (mvT I.2.1 w4) hy (backOf (W := (S.map fun v => v.category).sum) (Q := fun v h L => Q' v h ∧ Fr n0 L) (con Z0 []) I.2.1 w4 w3 hf hl) (g := mkF m pc L (as'.reverse ++ S)) rfl (hsz.trans I.2.2.2.1.symm) (argsL := as') (rest := S) (lenOf hpd hlen) rfl (by show 2 * 0 + _ ≤ _; omega) (hb I.2.2.1 hd) (fun _ _ => ⟨rfl, eT, hc, hs⟩)
  dsimp only [Pt.U, Pt.locs, Pt.cells, Pt.slots] at X1 l1 y1 z1 st hQ
  subst l1 y1 z1
  obtain ⟨s₂, o, h1, r⟩ := kk v T1.heap hQ.1 p e s m args below meth c T1 _ I X1 rfl (Fr.app N' hQ.2)
  exact ⟨s₂, o, st _ h1, r⟩
theorem g_callN (pc' : Nat) {index : Nat} {N : MD} {rm : Room} {Q' : Option Value → Heap → Prop} {St : List Value} {ps : List FieldType} {r : Option FieldType} {a : Addr} (as' S : List Value) (hd : decode M.2.1 pc = .ok (.invokespecial index, 3)) (hy1 : N.1.name = "<init>") (hrN : N.2.2.2 = none)
    (w1 : (Jvm.Cond.methodLink M.1.cls index N.1).before a0 Z = true) (w2 : (Jvm.Cond.instanceMethod N.1).before a0 Z = true) (w3 : (Jvm.Cond.initialized N.1.cls).before a0 Z = true) (w4 : (Jvm.Cond.code N.1 N.2.1 N.2.2.1 N.2.2.2).before a0 Z = true) (hy : N.1.cls ≠ "java/lang/invoke/MethodHandle" ∧ N.1.cls ≠ "java/lang/invoke/VarHandle")
    (con : Con l Z n0 N rm (.ref a :: as').toArray h Q') (hsz : L.size = M.2.2.1) (hpd : parseMethodDescriptor N.1.desc = some ⟨ps, r⟩) (hlen : as'.length = ps.length) (hst : St = as'.reverse ++ .ref a :: S)
    (hf : rm.frames + 1 ≤ R.frames) (hl : (S.map fun v => v.category).sum + (N.2.2.1 + 11) + rm.locals ≤ R.locals) (hc : kc + rm.cells ≤ R.cells) (hs : ks + rm.slots ≤ R.slots) (hp : pc + 3 = pc')
    (kk : ∀ v h', Q' v h' → Go l Z n0 M R Q h' (kc + rm.cells) (ks + rm.slots) pc' L (v.toList ++ S)) : Go l Z n0 M R Q h kc ks pc L St := by
  subst hp hst
  intro p e s m args below meth c T locs I X eT N'
  have Z0 : n0 ≤ h.size := by
    rw [← eT]
    exact Nat.le_trans I.2.2.2.2.2.2.2.2 X.same.2.1
  obtain ⟨v, _, ⟨T1, L1, k1, m1⟩, -, X1, ⟨Lc, hQ, l1, y1, z1⟩, st⟩ := X.specialBack I.1 (y := N.1) hy1 I.2.2.2.2.1 (mvT I.2.1 w1) (mvT I.2.1 w2) (hrN ▸ mvT I.2.1 w4) hy (backOf (W := (S.map fun v => v.category).sum) (Q := fun v h L => Q' v h ∧ Fr n0 L) (con Z0 []) I.2.1 w4 w3 hf hl) (g := mkF m pc L (as'.reverse ++ .ref a :: S)) rfl (hsz.trans I.2.2.2.1.symm) (Steps.refl _) (argsL := as') (rest := S) (lenOf hpd hlen) rfl (by show 2 * 0 + _ ≤ _; omega) (hb I.2.2.1 hd) (fun _ _ => ⟨rfl, eT, hc, hs⟩)
  dsimp only [Pt.U, Pt.locs, Pt.cells, Pt.slots] at X1 l1 y1 z1 st hQ
  subst l1 y1 z1
  obtain ⟨s₂, o, h1, r⟩ := kk v T1.heap hQ.1 p e s m args below meth c T1 _ I X1 rfl (Fr.app N' hQ.2)
  exact ⟨s₂, o, st.trans h1, r⟩
theorem g_callV (pc' : Nat) {index : Nat} {N : MD} {C : String} {rm : Room} {Q' : Option Value → Heap → Prop} {St : List Value} {ps : List FieldType} {r : Option FieldType} {a : Addr} (as' S : List Value) (hd : decode M.2.1 pc = .ok (.invokevirtual index, 3))
    (w1 : (Jvm.Cond.methodLink M.1.cls index N.1).before a0 Z = true) (w2 : (Jvm.Cond.instanceMethod N.1).before a0 Z = true) (w3 : (Jvm.Cond.initialized N.1.cls).before a0 Z = true) (w4 : (Jvm.Cond.code N.1 N.2.1 N.2.2.1 N.2.2.2).before a0 Z = true) (w5 : (Jvm.Cond.declares N.1).before a0 Z = true) (w6 : (Jvm.Cond.selects C N.1 N.1).before a0 Z = true) (E : Exa Z h a C) (hy : N.1.cls ≠ "java/lang/invoke/MethodHandle" ∧ N.1.cls ≠ "java/lang/invoke/VarHandle")
    (con : Con l Z n0 N rm (.ref a :: as').toArray h Q') (hsz : L.size = M.2.2.1) (hpd : parseMethodDescriptor N.1.desc = some ⟨ps, r⟩) (hlen : as'.length = ps.length) (hst : St = as'.reverse ++ .ref a :: S)
    (hf : rm.frames + 1 ≤ R.frames) (hl : (S.map fun v => v.category).sum + (N.2.2.1 + 11) + rm.locals ≤ R.locals) (hc : kc + rm.cells ≤ R.cells) (hs : ks + rm.slots ≤ R.slots) (hp : pc + 3 = pc')
    (kk : ∀ v h', Q' v h' → Go l Z n0 M R Q h' (kc + rm.cells) (ks + rm.slots) pc' L (v.toList ++ S)) : Go l Z n0 M R Q h kc ks pc L St := by
  subst hp hst
  intro p e s m args below meth c T locs I X eT N'
  have Z0 : n0 ≤ h.size := by
    rw [← eT]
    exact Nat.le_trans I.2.2.2.2.2.2.2.2 X.same.2.1
  obtain ⟨cq, kq, qa, qb, qc⟩ := isOf I.2.1 eT E
  obtain ⟨v, _, ⟨T1, L1, k1, m1⟩, -, X1, ⟨Lc, hQ, l1, y1, z1⟩, st⟩ := X.virtualBack I.1 (y := N.1) (z := N.1) I.2.2.2.2.1 (mvT I.2.1 w1) (mvT I.2.1 w5) (notFace_of_selects (args := #[]) (mvT I.2.1 w6)) (mvT I.2.1 w6) (mvT I.2.1 w2) hy (backOf (W := (S.map fun v => v.category).sum) (Q := fun v h L => Q' v h ∧ Fr n0 L) (con Z0 []) I.2.1 w4 w3 hf hl) qa qc (g := mkF m pc L (as'.reverse ++ .ref a :: S)) rfl (hsz.trans I.2.2.2.1.symm) (Steps.refl _) (argsL := as') (rest := S) (lenOf hpd hlen) rfl (by show 2 * 0 + _ ≤ _; omega) (hb I.2.2.1 hd) (fun _ _ => ⟨rfl, eT, hc, hs⟩)
  dsimp only [Pt.U, Pt.locs, Pt.cells, Pt.slots] at X1 l1 y1 z1 st hQ
  subst l1 y1 z1
  obtain ⟨s₂, o, h1, r⟩ := kk v T1.heap hQ.1 p e s m args below meth c T1 _ I X1 rfl (Fr.app N' hQ.2)
  exact ⟨s₂, o, st.trans h1, r⟩
theorem g_callP (pc' : Nat) {index kk' : Nat} {N : MD} {rm : Room} {Q' : Option Value → Heap → Prop} {St : List Value} {ps : List FieldType} {r : Option FieldType} {a : Addr} (as' S : List Value) (hd : decode M.2.1 pc = .ok (.invokevirtual index, 3))
    (w1 : (Jvm.Cond.methodLink M.1.cls index N.1).before a0 Z = true) (w2 : (Jvm.Cond.instanceMethod N.1).before a0 Z = true) (w3 : (Jvm.Cond.initialized N.1.cls).before a0 Z = true) (w4 : (Jvm.Cond.code N.1 N.2.1 N.2.2.1 N.2.2.2).before a0 Z = true) (w5 : (Jvm.Cond.privateMethod N.1).before a0 Z = true) (w6 : (Jvm.Cond.instantiable N.1.cls kk').before a0 Z = true) (E : Exa Z h a N.1.cls) (hy : N.1.cls ≠ "java/lang/invoke/MethodHandle" ∧ N.1.cls ≠ "java/lang/invoke/VarHandle")
    (con : Con l Z n0 N rm (.ref a :: as').toArray h Q') (hsz : L.size = M.2.2.1) (hpd : parseMethodDescriptor N.1.desc = some ⟨ps, r⟩) (hlen : as'.length = ps.length) (hst : St = as'.reverse ++ .ref a :: S)
    (hf : rm.frames + 1 ≤ R.frames) (hl : (S.map fun v => v.category).sum + (N.2.2.1 + 11) + rm.locals ≤ R.locals) (hc : kc + rm.cells ≤ R.cells) (hs : ks + rm.slots ≤ R.slots) (hp : pc + 3 = pc')
    (kk : ∀ v h', Q' v h' → Go l Z n0 M R Q h' (kc + rm.cells) (ks + rm.slots) pc' L (v.toList ++ S)) : Go l Z n0 M R Q h kc ks pc L St := by
  subst hp hst
  intro p e s m args below meth c T locs I X eT N'
  have Z0 : n0 ≤ h.size := by
    rw [← eT]
    exact Nat.le_trans I.2.2.2.2.2.2.2.2 X.same.2.1
  obtain ⟨cell, hcell, hobj⟩ := E.cell
  have u2 : (Jvm.Cond.instanceMethod N.1).before args s = true := mvT I.2.1 w2
  have u4 : (Jvm.Cond.code N.1 N.2.1 N.2.2.1 N.2.2.2).before args s = true := mvT I.2.1 w4
  have u6 : (Jvm.Cond.instantiable N.1.cls kk').before args s = true := mvT I.2.1 w6
  obtain ⟨mk, methM, hnamed, hmethM, hstM, habM⟩ := Cond.instanceMethod_spec u2
  obtain ⟨methM', cM, hmethM', -, -, -, -, -, -, hsigM⟩ := Cond.code_spec hnamed u4
  cases hmethM.symm.trans hmethM'
  obtain ⟨ck, kP, i1, hkP0, -, hni, -, -⟩ := Cond.instantiable_spec u6
  have hkP : s.vm.classes[mk.cls]? = some kP := by
    have q := findClass_of_methodNamed hnamed
    rw [i1] at q
    cases q
    exact hkP0
  have hkPi : kP.isInterface = false := (Bool.or_eq_false_iff.mp hni).1
  have hpriv := Cond.privateMethod_at (mvP (args := args) I.2.1 w5)
  have hselP : selectMethod e.platform s.vm cell.cls mk = .method mk := selectMethod_private hmethM (hpriv mk methM hnamed hmethM)
  obtain ⟨vm₁, X₁, hstep₁⟩ := X.invokevirtual I.1 I.2.2.2.2.1 (mvT I.2.1 w1) hnamed hmethM hstM hkP hkPi hy (a := a) (cell := cell) (by rw [eT]; exact hcell) hobj hselP hmethM habM hkP hkPi (g := mkF m pc L (as'.reverse ++ .ref a :: S)) rfl (argsL := as') (rest := S) (lenOf hpd hlen _ hsigM) rfl (hb I.2.2.1 hd)
  have hK := backOf (W := (S.map fun v => v.category).sum) (Q := fun v h L => Q' v h ∧ Fr n0 L) (p := p) (e := e) (below := below) (args := args) (len := 3) (con Z0 []) I.2.1 w4 w3 hf hl
  obtain ⟨v, ⟨T1, L1, k1, m1⟩, X1, ⟨Lc, hQ, l1, y1, z1⟩, st⟩ := hK m meth c ⟨T.setVm vm₁, locs, kc, ks⟩ (mkF m pc L S) (.invokevirtual index) mk (.ref a :: as').toArray X₁ rfl (hsz.trans I.2.2.2.1.symm) (hb I.2.2.1 hd) (by show 2 * 0 + (S.map fun v => v.category).sum ≤ _; omega) (X₁.named hnamed) ⟨rfl, eT, hc, hs⟩
  dsimp only [Pt.U, Pt.locs, Pt.cells, Pt.slots] at X1 l1 y1 z1 st hQ
  subst l1 y1 z1
  obtain ⟨s₂, o, h1, r⟩ := kk v T1.heap hQ.1 p e s m args below meth c T1 _ I X1 rfl (Fr.app N' hQ.2)
  exact ⟨s₂, o, (hstep₁ _ fun acts => by rw [doInvoke_state]; exact Steps.refl _).trans (st.trans h1), r⟩
theorem wd {tb : List Jvm.Cond} (hw : ∀ d ∈ tb, d.before a0 Z = true) (k : Nat) {d : Jvm.Cond} (q : tb[k]? = some d) : d.before a0 Z = true := hw _ (List.mem_of_getElem? q)
end Own
-- numbers: small naturals as ints
theorem own_ti {n : Nat} (h : n < 2147483648) : (Int32.ofNat n).toInt = (n : Int) := Int32.toInt_ofNat_of_lt h
theorem own_eq {a b : Nat} (ha : a < 2147483648) (hb : b < 2147483648) : Int32.ofNat a = Int32.ofNat b ↔ a = b := by
  rw [← Int32.toInt_inj, own_ti ha, own_ti hb]
  omega
theorem own_lt {a b : Nat} (ha : a < 2147483648) (hb : b < 2147483648) : Int32.ofNat a < Int32.ofNat b ↔ a < b := by
  rw [Int32.lt_iff_toInt_lt, own_ti ha, own_ti hb]
  omega
theorem own_nn {a : Nat} (ha : a < 2147483648) : ¬ Int32.ofNat a < 0 := by
  rw [Int32.lt_iff_toInt_lt, own_ti ha]
  have : (0 : Int32).toInt = 0 := rfl
  omega
theorem own_cap {a c : Nat} (ha : a < 2147483648) (hc : a ≤ c) : (Int32.ofNat a).toNatClampNeg ≤ c := by
  show (Int32.ofNat a).toInt.toNat ≤ c
  rw [own_ti ha]
  omega
theorem own_of {x : Int32} (h : 0 ≤ x.toInt) : ∃ n : Nat, x = Int32.ofNat n ∧ n < 2147483648 ∧ (n : Int) = x.toInt := by
  have r := rng32 x
  refine ⟨x.toInt.toNat, ?_, by omega, by omega⟩
  rw [← Int32.toInt_inj, own_ti (by omega)]
  omega
theorem own_ge (x : Int32) : ¬ x < 0 ↔ 0 ≤ x.toInt := by
  rw [Int32.lt_iff_toInt_lt]
  have : (0 : Int32).toInt = 0 := rfl
  omega
theorem own_le (x y : Int32) : ¬ x < y ↔ y.toInt ≤ x.toInt := by
  rw [Int32.lt_iff_toInt_lt]
  omega
theorem own_sub {a b : Nat} (ha : a < 2147483648) (hb : b ≤ a) : Int32.ofNat a - Int32.ofNat b = Int32.ofNat (a - b) := by
  rw [← Int32.toInt_inj, own_ti (by omega)]
  have h := c_isub (Int32.ofNat a) (Int32.ofNat b)
  rw [own_ti ha, own_ti (by omega)] at h
  have r := rng32 (Int32.ofNat a - Int32.ofNat b)
  omega
theorem own_add (a b : Nat) : Int32.ofNat a + Int32.ofNat b = Int32.ofNat (a + b) := (Int32.ofNat_add a b).symm
theorem own_one (a : Nat) : Int32.ofNat a + (1 : Int32) = Int32.ofNat (a + 1) := own_add a 1
theorem own_rem (x : Int32) (m : Nat) (hm : 1 ≤ m) (hm2 : m < 2147483648) : ∃ r : Nat, r < m ∧ ((x &&& 2147483647) % Int32.ofNat m) = Int32.ofNat r := by
  have h0 := (c_and x 2147483647 (by decide)).1
  have h1 := (c_irem (x &&& 2147483647) (Int32.ofNat m) m (own_ti hm2)).1 h0
  have h2 := Int.emod_nonneg (x &&& 2147483647).toInt (b := (m : Int)) (by omega)
  have h3 := Int.emod_lt_of_pos (x &&& 2147483647).toInt (b := (m : Int)) (by omega)
  obtain ⟨n, e1, e2, e3⟩ := own_of (x := (x &&& 2147483647) % Int32.ofNat m) (by omega)
  exact ⟨n, by omega, e1⟩
theorem dn32_0 : decode jdk_33_method_48_code 0 = .ok (.iload_n 0, 1) := by decide +kernel
theorem dn32_1 : decode jdk_33_method_48_code 1 = .ok (.iconst (-1), 1) := by decide +kernel
theorem dn32_2 : decode jdk_33_method_48_code 2 = .ok (.ixor, 1) := by decide +kernel
theorem dn32_3 : decode jdk_33_method_48_code 3 = .ok (.iload_n 0, 1) := by decide +kernel
theorem dn32_4 : decode jdk_33_method_48_code 4 = .ok (.iconst 1, 1) := by decide +kernel
theorem dn32_5 : decode jdk_33_method_48_code 5 = .ok (.isub, 1) := by decide +kernel
theorem dn32_6 : decode jdk_33_method_48_code 6 = .ok (.iand, 1) := by decide +kernel
theorem dn32_7 : decode jdk_33_method_48_code 7 = .ok (.istore_n 0, 1) := by decide +kernel
theorem dn32_8 : decode jdk_33_method_48_code 8 = .ok (.iload_n 0, 1) := by decide +kernel
theorem dn32_9 : decode jdk_33_method_48_code 9 = .ok (.ifCond .gt 8, 3) := by decide +kernel
theorem dn32_12 : decode jdk_33_method_48_code 12 = .ok (.iload_n 0, 1) := by decide +kernel
theorem dn32_13 : decode jdk_33_method_48_code 13 = .ok (.bipush 32, 2) := by decide +kernel
theorem dn32_15 : decode jdk_33_method_48_code 15 = .ok (.iand, 1) := by decide +kernel
theorem dn32_16 : decode jdk_33_method_48_code 16 = .ok (.ireturn, 1) := by decide +kernel
theorem dn32_17 : decode jdk_33_method_48_code 17 = .ok (.iconst 1, 1) := by decide +kernel
theorem dn32_18 : decode jdk_33_method_48_code 18 = .ok (.istore_n 1, 1) := by decide +kernel
theorem dn32_19 : decode jdk_33_method_48_code 19 = .ok (.iload_n 0, 1) := by decide +kernel
theorem dn32_20 : decode jdk_33_method_48_code 20 = .ok (.ldc_w 264, 3) := by decide +kernel
theorem dn32_23 : decode jdk_33_method_48_code 23 = .ok (.if_icmp .le 11, 3) := by decide +kernel
theorem dn32_26 : decode jdk_33_method_48_code 26 = .ok (.iinc 1 16, 3) := by decide +kernel
theorem dn32_29 : decode jdk_33_method_48_code 29 = .ok (.iload_n 0, 1) := by decide +kernel
theorem dn32_30 : decode jdk_33_method_48_code 30 = .ok (.bipush 16, 2) := by decide +kernel
theorem dn32_32 : decode jdk_33_method_48_code 32 = .ok (.iushr, 1) := by decide +kernel
theorem dn32_33 : decode jdk_33_method_48_code 33 = .ok (.istore_n 0, 1) := by decide +kernel
theorem dn32_34 : decode jdk_33_method_48_code 34 = .ok (.iload_n 0, 1) := by decide +kernel
theorem dn32_35 : decode jdk_33_method_48_code 35 = .ok (.sipush 256, 3) := by decide +kernel
theorem dn32_38 : decode jdk_33_method_48_code 38 = .ok (.if_icmp .le 11, 3) := by decide +kernel
theorem dn32_41 : decode jdk_33_method_48_code 41 = .ok (.iinc 1 8, 3) := by decide +kernel
theorem dn32_44 : decode jdk_33_method_48_code 44 = .ok (.iload_n 0, 1) := by decide +kernel
theorem dn32_45 : decode jdk_33_method_48_code 45 = .ok (.bipush 8, 2) := by decide +kernel
theorem dn32_47 : decode jdk_33_method_48_code 47 = .ok (.iushr, 1) := by decide +kernel
theorem dn32_48 : decode jdk_33_method_48_code 48 = .ok (.istore_n 0, 1) := by decide +kernel
theorem dn32_49 : decode jdk_33_method_48_code 49 = .ok (.iload_n 0, 1) := by decide +kernel
theorem dn32_50 : decode jdk_33_method_48_code 50 = .ok (.bipush 16, 2) := by decide +kernel
theorem dn32_52 : decode jdk_33_method_48_code 52 = .ok (.if_icmp .le 10, 3) := by decide +kernel
theorem dn32_55 : decode jdk_33_method_48_code 55 = .ok (.iinc 1 4, 3) := by decide +kernel
theorem dn32_58 : decode jdk_33_method_48_code 58 = .ok (.iload_n 0, 1) := by decide +kernel
theorem dn32_59 : decode jdk_33_method_48_code 59 = .ok (.iconst 4, 1) := by decide +kernel
theorem dn32_60 : decode jdk_33_method_48_code 60 = .ok (.iushr, 1) := by decide +kernel
theorem dn32_61 : decode jdk_33_method_48_code 61 = .ok (.istore_n 0, 1) := by decide +kernel
theorem dn32_62 : decode jdk_33_method_48_code 62 = .ok (.iload_n 0, 1) := by decide +kernel
theorem dn32_63 : decode jdk_33_method_48_code 63 = .ok (.iconst 4, 1) := by decide +kernel
theorem dn32_64 : decode jdk_33_method_48_code 64 = .ok (.if_icmp .le 10, 3) := by decide +kernel
theorem dn32_67 : decode jdk_33_method_48_code 67 = .ok (.iinc 1 2, 3) := by decide +kernel
theorem dn32_70 : decode jdk_33_method_48_code 70 = .ok (.iload_n 0, 1) := by decide +kernel
theorem dn32_71 : decode jdk_33_method_48_code 71 = .ok (.iconst 2, 1) := by decide +kernel
theorem dn32_72 : decode jdk_33_method_48_code 72 = .ok (.iushr, 1) := by decide +kernel
theorem dn32_73 : decode jdk_33_method_48_code 73 = .ok (.istore_n 0, 1) := by decide +kernel
theorem dn32_74 : decode jdk_33_method_48_code 74 = .ok (.iload_n 1, 1) := by decide +kernel
theorem dn32_75 : decode jdk_33_method_48_code 75 = .ok (.iload_n 0, 1) := by decide +kernel
theorem dn32_76 : decode jdk_33_method_48_code 76 = .ok (.iconst 1, 1) := by decide +kernel
theorem dn32_77 : decode jdk_33_method_48_code 77 = .ok (.iushr, 1) := by decide +kernel
theorem dn32_78 : decode jdk_33_method_48_code 78 = .ok (.iadd, 1) := by decide +kernel
theorem dn32_79 : decode jdk_33_method_48_code 79 = .ok (.ireturn, 1) := by decide +kernel
abbrev M_n32 : MD := ((⟨"java/lang/Integer", "numberOfTrailingZeros", "(I)I"⟩ : MethodName), jdk_33_method_48_code, 2, (some .int))
theorem pl_n32 : plainFor M_n32.1 = true := plainFor_of_name (by decide +kernel)
theorem pd_n32 : parseMethodDescriptor "(I)I" = some ⟨[.int], (some .int)⟩ := by decide +kernel
theorem dn64_0 : decode jdk_35_method_49_code 0 = .ok (.lload_n 0, 1) := by decide +kernel
theorem dn64_1 : decode jdk_35_method_49_code 1 = .ok (.l2i, 1) := by decide +kernel
theorem dn64_2 : decode jdk_35_method_49_code 2 = .ok (.istore_n 2, 1) := by decide +kernel
theorem dn64_3 : decode jdk_35_method_49_code 3 = .ok (.iload_n 2, 1) := by decide +kernel
theorem dn64_4 : decode jdk_35_method_49_code 4 = .ok (.ifCond .ne 17, 3) := by decide +kernel
theorem dn64_7 : decode jdk_35_method_49_code 7 = .ok (.bipush 32, 2) := by decide +kernel
theorem dn64_9 : decode jdk_35_method_49_code 9 = .ok (.lload_n 0, 1) := by decide +kernel
theorem dn64_10 : decode jdk_35_method_49_code 10 = .ok (.bipush 32, 2) := by decide +kernel
theorem dn64_12 : decode jdk_35_method_49_code 12 = .ok (.lushr, 1) := by decide +kernel
theorem dn64_13 : decode jdk_35_method_49_code 13 = .ok (.l2i, 1) := by decide +kernel
theorem dn64_14 : decode jdk_35_method_49_code 14 = .ok (.invokestatic 311, 3) := by decide +kernel
theorem dn64_17 : decode jdk_35_method_49_code 17 = .ok (.iadd, 1) := by decide +kernel
theorem dn64_18 : decode jdk_35_method_49_code 18 = .ok (.goto 7, 3) := by decide +kernel
theorem dn64_21 : decode jdk_35_method_49_code 21 = .ok (.iload_n 2, 1) := by decide +kernel
theorem dn64_22 : decode jdk_35_method_49_code 22 = .ok (.invokestatic 311, 3) := by decide +kernel
theorem dn64_25 : decode jdk_35_method_49_code 25 = .ok (.ireturn, 1) := by decide +kernel
abbrev M_n64 : MD := ((⟨"java/lang/Long", "numberOfTrailingZeros", "(J)I"⟩ : MethodName), jdk_35_method_49_code, 3, (some .int))
theorem pl_n64 : plainFor M_n64.1 = true := plainFor_of_name (by decide +kernel)
theorem pd_n64 : parseMethodDescriptor "(J)I" = some ⟨[.long], (some .int)⟩ := by decide +kernel
theorem dfd_0 : decode jdk_65_method_113_code 0 = .ok (.iconst 0, 1) := by decide +kernel
theorem dfd_1 : decode jdk_65_method_113_code 1 = .ok (.istore_n 3, 1) := by decide +kernel
theorem dfd_2 : decode jdk_65_method_113_code 2 = .ok (.aload_n 0, 1) := by decide +kernel
theorem dfd_3 : decode jdk_65_method_113_code 3 = .ok (.arraylength, 1) := by decide +kernel
theorem dfd_4 : decode jdk_65_method_113_code 4 = .ok (.istore 4, 2) := by decide +kernel
theorem dfd_6 : decode jdk_65_method_113_code 6 = .ok (.iload_n 3, 1) := by decide +kernel
theorem dfd_7 : decode jdk_65_method_113_code 7 = .ok (.iload 4, 2) := by decide +kernel
theorem dfd_9 : decode jdk_65_method_113_code 9 = .ok (.if_icmp .ge 13, 3) := by decide +kernel
theorem dfd_12 : decode jdk_65_method_113_code 12 = .ok (.aload_n 0, 1) := by decide +kernel
theorem dfd_13 : decode jdk_65_method_113_code 13 = .ok (.iload_n 3, 1) := by decide +kernel
theorem dfd_14 : decode jdk_65_method_113_code 14 = .ok (.dload_n 1, 1) := by decide +kernel
theorem dfd_15 : decode jdk_65_method_113_code 15 = .ok (.dastore, 1) := by decide +kernel
theorem dfd_16 : decode jdk_65_method_113_code 16 = .ok (.iinc 3 1, 3) := by decide +kernel
theorem dfd_19 : decode jdk_65_method_113_code 19 = .ok (.goto (-13), 3) := by decide +kernel
theorem dfd_22 : decode jdk_65_method_113_code 22 = .ok (.return_, 1) := by decide +kernel
abbrev M_fd : MD := ((⟨"java/util/Arrays", "fill", "([DD)V"⟩ : MethodName), jdk_65_method_113_code, 5, none)
theorem pl_fd : plainFor M_fd.1 = true := plainFor_of_name (by decide +kernel)
theorem pd_fd : parseMethodDescriptor "([DD)V" = some ⟨[(.array .double), .double], none⟩ := by decide +kernel
theorem dai_0 : decode prog_3_method_1_code 0 = .ok (.aload_n 0, 1) := by decide +kernel
theorem dai_1 : decode prog_3_method_1_code 1 = .ok (.invokespecial 1, 3) := by decide +kernel
theorem dai_4 : decode prog_3_method_1_code 4 = .ok (.aload_n 0, 1) := by decide +kernel
theorem dai_5 : decode prog_3_method_1_code 5 = .ok (.aload_n 1, 1) := by decide +kernel
theorem dai_6 : decode prog_3_method_1_code 6 = .ok (.putfield 7, 3) := by decide +kernel
theorem dai_9 : decode prog_3_method_1_code 9 = .ok (.aload_n 0, 1) := by decide +kernel
theorem dai_10 : decode prog_3_method_1_code 10 = .ok (.aload_n 1, 1) := by decide +kernel
theorem dai_11 : decode prog_3_method_1_code 11 = .ok (.arraylength, 1) := by decide +kernel
theorem dai_12 : decode prog_3_method_1_code 12 = .ok (.newarray .int, 2) := by decide +kernel
theorem dai_14 : decode prog_3_method_1_code 14 = .ok (.putfield 13, 3) := by decide +kernel
theorem dai_17 : decode prog_3_method_1_code 17 = .ok (.iconst 0, 1) := by decide +kernel
theorem dai_18 : decode prog_3_method_1_code 18 = .ok (.istore_n 2, 1) := by decide +kernel
theorem dai_19 : decode prog_3_method_1_code 19 = .ok (.iload_n 2, 1) := by decide +kernel
theorem dai_20 : decode prog_3_method_1_code 20 = .ok (.aload_n 1, 1) := by decide +kernel
theorem dai_21 : decode prog_3_method_1_code 21 = .ok (.arraylength, 1) := by decide +kernel
theorem dai_22 : decode prog_3_method_1_code 22 = .ok (.if_icmp .ge 21, 3) := by decide +kernel
theorem dai_25 : decode prog_3_method_1_code 25 = .ok (.aload_n 0, 1) := by decide +kernel
theorem dai_26 : decode prog_3_method_1_code 26 = .ok (.getfield 13, 3) := by decide +kernel
theorem dai_29 : decode prog_3_method_1_code 29 = .ok (.iload_n 2, 1) := by decide +kernel
theorem dai_30 : decode prog_3_method_1_code 30 = .ok (.aload_n 1, 1) := by decide +kernel
theorem dai_31 : decode prog_3_method_1_code 31 = .ok (.iload_n 2, 1) := by decide +kernel
theorem dai_32 : decode prog_3_method_1_code 32 = .ok (.laload, 1) := by decide +kernel
theorem dai_33 : decode prog_3_method_1_code 33 = .ok (.invokestatic 17, 3) := by decide +kernel
theorem dai_36 : decode prog_3_method_1_code 36 = .ok (.iastore, 1) := by decide +kernel
theorem dai_37 : decode prog_3_method_1_code 37 = .ok (.iinc 2 1, 3) := by decide +kernel
theorem dai_40 : decode prog_3_method_1_code 40 = .ok (.goto (-21), 3) := by decide +kernel
theorem dai_43 : decode prog_3_method_1_code 43 = .ok (.aload_n 0, 1) := by decide +kernel
theorem dai_44 : decode prog_3_method_1_code 44 = .ok (.iconst 1, 1) := by decide +kernel
theorem dai_45 : decode prog_3_method_1_code 45 = .ok (.aload_n 1, 1) := by decide +kernel
theorem dai_46 : decode prog_3_method_1_code 46 = .ok (.arraylength, 1) := by decide +kernel
theorem dai_47 : decode prog_3_method_1_code 47 = .ok (.ishl, 1) := by decide +kernel
theorem dai_48 : decode prog_3_method_1_code 48 = .ok (.newarray .double, 2) := by decide +kernel
theorem dai_50 : decode prog_3_method_1_code 50 = .ok (.putfield 23, 3) := by decide +kernel
theorem dai_53 : decode prog_3_method_1_code 53 = .ok (.aload_n 0, 1) := by decide +kernel
theorem dai_54 : decode prog_3_method_1_code 54 = .ok (.getfield 23, 3) := by decide +kernel
theorem dai_57 : decode prog_3_method_1_code 57 = .ok (.ldc2_w 27, 3) := by decide +kernel
theorem dai_60 : decode prog_3_method_1_code 60 = .ok (.invokestatic 29, 3) := by decide +kernel
theorem dai_63 : decode prog_3_method_1_code 63 = .ok (.return_, 1) := by decide +kernel
abbrev M_ai : MD := ((⟨"com/example/lynceus/lynceus/AtomTable", "<init>", "([J)V"⟩ : MethodName), prog_3_method_1_code, 3, none)
theorem pl_ai : plainFor M_ai.1 = true := plainFor_of_name (by decide +kernel)
theorem pd_ai : parseMethodDescriptor "([J)V" = some ⟨[(.array .long)], none⟩ := by decide +kernel
def n74 (i n : Int32) : Int32 := n + XT.ushr i 1
def n62 (i n : Int32) : Int32 := if (4 : Int32) < i then n74 (XT.ushr i 2) (n + 2) else n74 i n
def n49 (i n : Int32) : Int32 := if (16 : Int32) < i then n62 (XT.ushr i 4) (n + 4) else n62 i n
def n34 (i n : Int32) : Int32 := if (256 : Int32) < i then n49 (XT.ushr i 8) (n + 8) else n49 i n
def n19 (i n : Int32) : Int32 := if (65536 : Int32) < i then n34 (XT.ushr i 16) (n + 16) else n34 i n
def ntz32 (x : Int32) : Int32 := if 0 < ((x ^^^ (-1)) &&& (x - 1)) then n19 ((x ^^^ (-1)) &&& (x - 1)) 1 else ((x ^^^ (-1)) &&& (x - 1)) &&& 32
def ntz64 (x : Int64) : Int32 := if ¬ x.toInt32 = 0 then ntz32 x.toInt32 else 32 + ntz32 (XT.ushrL x 32).toInt32
set_option maxRecDepth 65536 in
set_option maxHeartbeats 40000000 in
theorem k74 (l : Launch) (Z : State) (a0 : Array Value) (hw : ∀ d ∈ tables_1, d.before a0 Z = true) (n0 : Nat) (h0 : Heap) {Q : Option Value → Heap → Prop} (i n : Int32) (hq : Q (some (.int (n74 i n))) h0) : Go l Z n0 M_n32 ({ frames := 0, cells := 0, slots := 0, locals := 0 } : Room) Q h0 0 0 74 #[.val (.int i), .val (.int n)] [] := by
  refine g_iload_n 75 dn32_74 rfl rfl ?_
  refine g_iload_n 76 dn32_75 rfl rfl ?_
  refine g_iconst 77 (1 : Int32) dn32_76 rfl rfl ?_
  refine g_iushr 78 dn32_77 rfl ?_
  refine g_iadd 79 dn32_78 rfl ?_
  refine g_retI dn32_79 rfl (Nat.le_of_ble_eq_true rfl) (Nat.le_of_ble_eq_true rfl) ?_
  exact hq
set_option maxRecDepth 65536 in
set_option maxHeartbeats 40000000 in
theorem k62 (l : Launch) (Z : State) (a0 : Array Value) (hw : ∀ d ∈ tables_1, d.before a0 Z = true) (n0 : Nat) (h0 : Heap) {Q : Option Value → Heap → Prop} (i n : Int32) (hq : Q (some (.int (n62 i n))) h0) : Go l Z n0 M_n32 ({ frames := 0, cells := 0, slots := 0, locals := 0 } : Room) Q h0 0 0 62 #[.val (.int i), .val (.int n)] [] := by
  unfold n62 at hq
  refine g_iload_n 63 dn32_62 rfl rfl ?_
  refine g_iconst 64 (4 : Int32) dn32_63 rfl rfl ?_
  refine g_icmp 74 67 dn32_64 rfl rfl (fun q => ?_) (fun q => ?_)
  · first | (rw [if_neg q] at hq; exact k74 l Z a0 hw n0 h0 _ _ hq) | (rw [if_pos (Classical.not_not.mp q)] at hq; exact k74 l Z a0 hw n0 h0 _ _ hq)
  · refine g_iinc 70 #[.val (.int i), .val (.int (n + (2 : Int32)))] dn32_67 rfl rfl rfl ?_
    refine g_iload_n 71 dn32_70 rfl rfl ?_
    refine g_iconst 72 (2 : Int32) dn32_71 rfl rfl ?_
    refine g_iushr 73 dn32_72 rfl ?_
    refine g_istore_n 74 #[.val (.int (XT.ushr i ((2 : Int32)))), .val (.int (n + (2 : Int32)))] dn32_73 rfl rfl ?_
    first | (rw [if_neg q] at hq; exact k74 l Z a0 hw n0 h0 _ _ hq) | (rw [if_pos (Classical.not_not.mp q)] at hq; exact k74 l Z a0 hw n0 h0 _ _ hq)
set_option maxRecDepth 65536 in
set_option maxHeartbeats 40000000 in
theorem k49 (l : Launch) (Z : State) (a0 : Array Value) (hw : ∀ d ∈ tables_1, d.before a0 Z = true) (n0 : Nat) (h0 : Heap) {Q : Option Value → Heap → Prop} (i n : Int32) (hq : Q (some (.int (n49 i n))) h0) : Go l Z n0 M_n32 ({ frames := 0, cells := 0, slots := 0, locals := 0 } : Room) Q h0 0 0 49 #[.val (.int i), .val (.int n)] [] := by
  unfold n49 at hq
  refine g_iload_n 50 dn32_49 rfl rfl ?_
  refine g_bipush 52 (16 : Int32) dn32_50 rfl rfl ?_
  refine g_icmp 62 55 dn32_52 rfl rfl (fun q => ?_) (fun q => ?_)
  · first | (rw [if_neg q] at hq; exact k62 l Z a0 hw n0 h0 _ _ hq) | (rw [if_pos (Classical.not_not.mp q)] at hq; exact k62 l Z a0 hw n0 h0 _ _ hq)
  · refine g_iinc 58 #[.val (.int i), .val (.int (n + (4 : Int32)))] dn32_55 rfl rfl rfl ?_
    refine g_iload_n 59 dn32_58 rfl rfl ?_
    refine g_iconst 60 (4 : Int32) dn32_59 rfl rfl ?_
    refine g_iushr 61 dn32_60 rfl ?_
    refine g_istore_n 62 #[.val (.int (XT.ushr i ((4 : Int32)))), .val (.int (n + (4 : Int32)))] dn32_61 rfl rfl ?_
    first | (rw [if_neg q] at hq; exact k62 l Z a0 hw n0 h0 _ _ hq) | (rw [if_pos (Classical.not_not.mp q)] at hq; exact k62 l Z a0 hw n0 h0 _ _ hq)
set_option maxRecDepth 65536 in
set_option maxHeartbeats 40000000 in
theorem k34 (l : Launch) (Z : State) (a0 : Array Value) (hw : ∀ d ∈ tables_1, d.before a0 Z = true) (n0 : Nat) (h0 : Heap) {Q : Option Value → Heap → Prop} (i n : Int32) (hq : Q (some (.int (n34 i n))) h0) : Go l Z n0 M_n32 ({ frames := 0, cells := 0, slots := 0, locals := 0 } : Room) Q h0 0 0 34 #[.val (.int i), .val (.int n)] [] := by
  unfold n34 at hq
  refine g_iload_n 35 dn32_34 rfl rfl ?_
  refine g_sipush 38 (256 : Int32) dn32_35 rfl rfl ?_
  refine g_icmp 49 41 dn32_38 rfl rfl (fun q => ?_) (fun q => ?_)
  · first | (rw [if_neg q] at hq; exact k49 l Z a0 hw n0 h0 _ _ hq) | (rw [if_pos (Classical.not_not.mp q)] at hq; exact k49 l Z a0 hw n0 h0 _ _ hq)
  · refine g_iinc 44 #[.val (.int i), .val (.int (n + (8 : Int32)))] dn32_41 rfl rfl rfl ?_
    refine g_iload_n 45 dn32_44 rfl rfl ?_
    refine g_bipush 47 (8 : Int32) dn32_45 rfl rfl ?_
    refine g_iushr 48 dn32_47 rfl ?_
    refine g_istore_n 49 #[.val (.int (XT.ushr i ((8 : Int32)))), .val (.int (n + (8 : Int32)))] dn32_48 rfl rfl ?_
    first | (rw [if_neg q] at hq; exact k49 l Z a0 hw n0 h0 _ _ hq) | (rw [if_pos (Classical.not_not.mp q)] at hq; exact k49 l Z a0 hw n0 h0 _ _ hq)
set_option maxRecDepth 65536 in
set_option maxHeartbeats 40000000 in
theorem k19 (l : Launch) (Z : State) (a0 : Array Value) (hw : ∀ d ∈ tables_1, d.before a0 Z = true) (n0 : Nat) (h0 : Heap) {Q : Option Value → Heap → Prop} (i n : Int32) (hq : Q (some (.int (n19 i n))) h0) : Go l Z n0 M_n32 ({ frames := 0, cells := 0, slots := 0, locals := 0 } : Room) Q h0 0 0 19 #[.val (.int i), .val (.int n)] [] := by
  unfold n19 at hq
  refine g_iload_n 20 dn32_19 rfl rfl ?_
  refine g_ldcWI (w := 65536) 23 dn32_20 (wd hw 37 rfl) rfl ?_
  refine g_icmp 34 26 dn32_23 rfl rfl (fun q => ?_) (fun q => ?_)
  · first | (rw [if_neg q] at hq; exact k34 l Z a0 hw n0 h0 _ _ hq) | (rw [if_pos (Classical.not_not.mp q)] at hq; exact k34 l Z a0 hw n0 h0 _ _ hq)
  · refine g_iinc 29 #[.val (.int i), .val (.int (n + (16 : Int32)))] dn32_26 rfl rfl rfl ?_
    refine g_iload_n 30 dn32_29 rfl rfl ?_
    refine g_bipush 32 (16 : Int32) dn32_30 rfl rfl ?_
    refine g_iushr 33 dn32_32 rfl ?_
    refine g_istore_n 34 #[.val (.int (XT.ushr i ((16 : Int32)))), .val (.int (n + (16 : Int32)))] dn32_33 rfl rfl ?_
    first | (rw [if_neg q] at hq; exact k34 l Z a0 hw n0 h0 _ _ hq) | (rw [if_pos (Classical.not_not.mp q)] at hq; exact k34 l Z a0 hw n0 h0 _ _ hq)
set_option maxRecDepth 65536 in
set_option maxHeartbeats 40000000 in
theorem c_n32 (l : Launch) (Z : State) (a0 : Array Value) (hw : ∀ d ∈ tables_1, d.before a0 Z = true) (n0 : Nat) (h0 : Heap) (x : Int32) :
    Con l Z n0 M_n32 ({ frames := 0, cells := 0, slots := 0, locals := 0 } : Room) #[(.int x)] h0 (fun v h => h0 = h ∧ v = some (.int (ntz32 x))) := by
  refine con_intro pl_n32 #[.val (.int x), .unset] (fun m => by first | rfl | (simp [entryFrame, mkF, argsToLocals, Value.category]; done)) (fun Zs_h0 => ?_)
  refine g_iload_n 1 dn32_0 rfl rfl ?_
  refine g_iconst 2 (-1 : Int32) dn32_1 rfl rfl ?_
  refine g_ixor 3 dn32_2 rfl ?_
  refine g_iload_n 4 dn32_3 rfl rfl ?_
  refine g_iconst 5 (1 : Int32) dn32_4 rfl rfl ?_
  refine g_isub 6 dn32_5 rfl ?_
  refine g_iand 7 dn32_6 rfl ?_
  refine g_istore_n 8 #[.val (.int (((x ^^^ ((-1 : Int32)))) &&& ((x - ((1 : Int32)))))), .unset] dn32_7 rfl rfl ?_
  refine g_iload_n 9 dn32_8 rfl rfl ?_
  refine g_ifC 17 12 dn32_9 rfl rfl (fun q => ?_) (fun q => ?_)
  · refine g_iconst 18 (1 : Int32) dn32_17 rfl rfl ?_
    refine g_istore_n 19 #[.val (.int (((x ^^^ ((-1 : Int32)))) &&& ((x - ((1 : Int32)))))), .val (.int (1 : Int32))] dn32_18 rfl rfl ?_
    exact k19 l Z a0 hw n0 h0 _ _ ⟨rfl, by unfold ntz32; exact congrArg (fun z => some (Value.int z)) (Eq.symm (if_pos q))⟩
  · refine g_iload_n 13 dn32_12 rfl rfl ?_
    refine g_bipush 15 (32 : Int32) dn32_13 rfl rfl ?_
    refine g_iand 16 dn32_15 rfl ?_
    refine g_retI dn32_16 rfl (Nat.le_of_ble_eq_true rfl) (Nat.le_of_ble_eq_true rfl) ?_
    exact ⟨rfl, by unfold ntz32; exact congrArg (fun z => some (Value.int z)) (Eq.symm (if_neg q))⟩
set_option maxRecDepth 65536 in
set_option maxHeartbeats 40000000 in
theorem c_n64 (l : Launch) (Z : State) (a0 : Array Value) (hw : ∀ d ∈ tables_1, d.before a0 Z = true) (n0 : Nat) (h0 : Heap) (x : Int64) :
    Con l Z n0 M_n64 ({ frames := 1, cells := 0, slots := 0, locals := 14 } : Room) #[(.long x)] h0 (fun v h => h0 = h ∧ v = some (.int (ntz64 x))) := by
  refine con_intro pl_n64 #[.val (.long x), .second, .unset] (fun m => by first | rfl | (simp [entryFrame, mkF, argsToLocals, Value.category]; done)) (fun Zs_h0 => ?_)
  refine g_lload_n 1 dn64_0 rfl rfl ?_
  refine g_l2i 2 dn64_1 rfl ?_
  refine g_istore_n 3 #[.val (.long x), .second, .val (.int (x.toInt32))] dn64_2 rfl rfl ?_
  refine g_iload_n 4 dn64_3 rfl rfl ?_
  refine g_ifC 21 7 dn64_4 rfl rfl (fun q => ?_) (fun q => ?_)
  · refine g_iload_n 22 dn64_21 rfl rfl ?_
    refine g_callS 25 (N := M_n32) [(.int (x.toInt32))] [] dn64_22 (wd hw 33 rfl) (wd hw 34 rfl) (wd hw 35 rfl) (wd hw 36 rfl) (by decide) (c_n32 l Z a0 hw n0 h0 ((x.toInt32))) rfl pd_n32 rfl rfl (Nat.le_of_ble_eq_true rfl) (Nat.le_of_ble_eq_true rfl) (Nat.le_of_ble_eq_true rfl) (Nat.le_of_ble_eq_true rfl) rfl ?_
    rintro v _ ⟨rfl, rfl⟩
    show Go _ _ _ _ _ _ _ _ _ 25 #[.val (.long x), .second, .val (.int (x.toInt32))] [(.int (ntz32 ((x.toInt32))))]
    refine g_retI dn64_25 rfl (Nat.le_of_ble_eq_true rfl) (Nat.le_of_ble_eq_true rfl) ?_
    first | exact ⟨rfl, by unfold ntz64; exact congrArg (fun z => some (Value.int z)) (Eq.symm (if_pos q))⟩ | exact ⟨rfl, by unfold ntz64; exact congrArg (fun z => some (Value.int z)) (Eq.symm (if_neg q))⟩
  · refine g_bipush 9 (32 : Int32) dn64_7 rfl rfl ?_
    refine g_lload_n 10 dn64_9 rfl rfl ?_
    refine g_bipush 12 (32 : Int32) dn64_10 rfl rfl ?_
    refine g_lushr 13 dn64_12 rfl ?_
    refine g_l2i 14 dn64_13 rfl ?_
    refine g_callS 17 (N := M_n32) [(.int (((XT.ushrL x ((32 : Int32)))).toInt32))] [(.int (32 : Int32))] dn64_14 (wd hw 33 rfl) (wd hw 34 rfl) (wd hw 35 rfl) (wd hw 36 rfl) (by decide) (c_n32 l Z a0 hw n0 h0 ((((XT.ushrL x ((32 : Int32)))).toInt32))) rfl pd_n32 rfl rfl (Nat.le_of_ble_eq_true rfl) (Nat.le_of_ble_eq_true rfl) (Nat.le_of_ble_eq_true rfl) (Nat.le_of_ble_eq_true rfl) rfl ?_
    rintro v _ ⟨rfl, rfl⟩
    show Go _ _ _ _ _ _ _ _ _ 17 #[.val (.long x), .second, .val (.int (x.toInt32))] [(.int (ntz32 ((((XT.ushrL x ((32 : Int32)))).toInt32)))), (.int (32 : Int32))]
    refine g_iadd 18 dn64_17 rfl ?_
    refine g_goto 25 dn64_18 rfl ?_
    refine g_retI dn64_25 rfl (Nat.le_of_ble_eq_true rfl) (Nat.le_of_ble_eq_true rfl) ?_
    first | exact ⟨rfl, by unfold ntz64; exact congrArg (fun z => some (Value.int z)) (Eq.symm (if_pos q))⟩ | exact ⟨rfl, by unfold ntz64; exact congrArg (fun z => some (Value.int z)) (Eq.symm (if_neg q))⟩
set_option maxRecDepth 65536 in
set_option maxHeartbeats 40000000 in
theorem loopfd (l : Launch) (Z : State) (a0 : Array Value) (hw : ∀ d ∈ tables_1, d.before a0 Z = true) (n0 : Nat) (h0 : Heap) (a : Nat) (v : UInt64) (N : Nat) (hN : N < 2147483648) (ga : n0 ≤ a) : ∀ (d i : Nat) (vs : List Value) (h : Heap), i + d = N → vs.length = N → Ary Z h a .double vs → Keep h0 h [a] →
    Go l Z n0 M_fd ({ frames := 0, cells := 0, slots := 0, locals := 0 } : Room) (fun v h => v = none ∧ Keep h0 h [a]) h 0 0 6 #[.val (.ref a), .val (.double v), .second, .val (.int (Int32.ofNat i)), .val (.int (Int32.ofNat N))] [] := by
  intro d
  induction d with
  | zero =>
    intro i vs h hi hl A K
    refine g_iload_n 7 dfd_6 rfl rfl ?_
    refine g_iload 9 dfd_7 rfl rfl ?_
    refine g_icmpT 22 dfd_9 (fun z => absurd ((own_lt (by omega) (by omega)).mp z) (by omega)) rfl ?_
    refine g_retV dfd_22 rfl (Nat.le_of_ble_eq_true rfl) (Nat.le_of_ble_eq_true rfl) ?_
    exact ⟨rfl, K⟩
  | succ d ih =>
    intro i vs h hi hl A K
    refine g_iload_n 7 dfd_6 rfl rfl ?_
    refine g_iload 9 dfd_7 rfl rfl ?_
    refine g_icmpF 12 dfd_9 (fun z => z ((own_lt (by omega) (by omega)).mpr (by omega))) rfl ?_
    refine g_aload_n 13 dfd_12 rfl rfl rfl ?_
    refine g_iload_n 14 dfd_13 rfl rfl ?_
    refine g_dload_n 15 dfd_14 rfl rfl ?_
    refine g_astoreD 16 i dfd_15 A (own_ti (by omega)) (by omega) ga rfl (fun hh1 gW1 => ?_)
    have gK2 := K.wr gW1 (Or.inl (by simp))
    have gA3 := A.set gW1
    refine g_iinc 19 #[.val (.ref a), .val (.double v), .second, .val (.int (((Int32.ofNat i)) + (1 : Int32))), .val (.int (Int32.ofNat N))] dfd_16 rfl rfl rfl ?_
    rw [own_one]
    refine g_goto 6 dfd_19 rfl ?_
    exact ih (i + 1) _ hh1 (by omega) (by simp; omega) gA3 gK2
set_option maxRecDepth 65536 in
set_option maxHeartbeats 40000000 in
theorem c_fd (l : Launch) (Z : State) (a0 : Array Value) (hw : ∀ d ∈ tables_1, d.before a0 Z = true) (n0 : Nat) (h0 : Heap) (a : Nat) (v : UInt64) (N : Nat) (hN : N < 2147483648) (vs : List Value) (hl : vs.length = N) (A : Ary Z h0 a .double vs) (ga : n0 ≤ a) :
    Con l Z n0 M_fd ({ frames := 0, cells := 0, slots := 0, locals := 0 } : Room) #[(.ref a), (.double v)] h0 (fun v h => v = none ∧ Keep h0 h [a]) := by
  refine con_intro pl_fd #[.val (.ref a), .val (.double v), .second, .unset, .unset] (fun m => by first | rfl | (simp [entryFrame, mkF, argsToLocals, Value.category]; done)) (fun Zs_h0 => ?_)
  refine g_iconst 1 (0 : Int32) dfd_0 rfl rfl ?_
  refine g_istore_n 2 #[.val (.ref a), .val (.double v), .second, .val (.int (0 : Int32)), .unset] dfd_1 rfl rfl ?_
  refine g_aload_n 3 dfd_2 rfl rfl rfl ?_
  refine g_alen 4 ((Int32.ofNat N)) dfd_3 A (by rw [hl]) rfl ?_
  refine g_istore 6 #[.val (.ref a), .val (.double v), .second, .val (.int (0 : Int32)), .val (.int (Int32.ofNat N))] dfd_4 rfl rfl ?_
  exact loopfd l Z a0 hw n0 h0 a v N hN ga N 0 vs h0 (by omega) hl A (Keep.refl _ _)
theorem own_p16 (n : Nat) (h : n ≤ 4) : 2 ^ n ≤ 16 := Nat.pow_le_pow_right (n := 2) (by decide) h
theorem own_sh : ∀ n : Nat, n ≤ 4 → (1 : Int32) <<< (Int32.ofNat n &&& 31) = Int32.ofNat (2 ^ n) := by
  intro n h
  have : ∀ n : Nat, n < 5 → (1 : Int32) <<< (Int32.ofNat n &&& 31) = Int32.ofNat (2 ^ n) := by decide
  exact this n (by omega)
set_option maxRecDepth 65536 in
set_option maxHeartbeats 40000000 in
theorem k43 (l : Launch) (Z : State) (a0 : Array Value) (hw : ∀ d ∈ tables_1, d.before a0 Z = true) (n0 : Nat) (a aA aP : Nat) (vs : List Int64) (hv : vs.length ≤ 4) (ga : n0 ≤ a) (gaP : n0 ≤ aP) (ne_a_aA : a ≠ aA) (ne_aA_a : aA ≠ a) (ne_a_aP : a ≠ aP) (ne_aP_a : aP ≠ a) (ne_aA_aP : aA ≠ aP) (ne_aP_aA : aP ≠ aA) (h : Heap) (E : Exa Z h a "com/example/lynceus/lynceus/AtomTable") (F1 : Fld Z h a "com/example/lynceus/lynceus/AtomTable" "atoms" "[J" (.ref aA)) (F2 : Fld Z h a "com/example/lynceus/lynceus/AtomTable" "places" "[I" (.ref aP)) (F3 : Fld Z h a "com/example/lynceus/lynceus/AtomTable" "bests" "[D" (.null)) (A : Ary Z h aA .long (vs.map Value.long)) (P : Ary Z h aP .int (vs.map (fun x => Value.int (ntz64 x)))) :
    Go l Z n0 M_ai ({ frames := 2, cells := 2, slots := 20, locals := 30 } : Room) (fun v h => v = none ∧ Exa Z h a "com/example/lynceus/lynceus/AtomTable" ∧ Fld Z h a "com/example/lynceus/lynceus/AtomTable" "atoms" "[J" (.ref aA) ∧ Ary Z h aA .long (vs.map Value.long) ∧ ∃ aP, Fld Z h a "com/example/lynceus/lynceus/AtomTable" "places" "[I" (.ref aP) ∧ Ary Z h aP .int (vs.map (fun x => Value.int (ntz64 x)))) h 1 4 43 #[.val (.ref a), .val (.ref aA), .val (.int (Int32.ofNat vs.length))] [] := by
  refine g_aload_n 44 dai_43 rfl rfl rfl ?_
  refine g_iconst 45 (1 : Int32) dai_44 rfl rfl ?_
  refine g_aload_n 46 dai_45 rfl rfl rfl ?_
  refine g_alen 47 ((Int32.ofNat vs.length)) dai_46 A (by simp) rfl ?_
  refine g_ishl 48 dai_47 rfl ?_
  rw [own_sh vs.length hv]
  refine g_sz (fun Zs_h => ?_)
  refine g_mkA 50 dai_48 (wd hw 16 rfl) rfl (own_nn (by have := own_p16 vs.length hv; omega)) 16 (own_cap (by have := own_p16 vs.length hv; omega) (own_p16 vs.length hv)) (by decide) (Nat.le_of_ble_eq_true rfl) (Nat.le_of_ble_eq_true rfl) rfl (fun hh1 cA1 gX1 gB1 => ?_)
  have gF2 := F1.ext gX1
  have gF3 := F2.ext gX1
  have gF4 := F3.ext gX1
  have gE5 := E.ext gX1
  have gA6 := A.ext gX1
  have gA7 := P.ext gX1
  have gA1 := Ary.fresh gB1 ((2 ^ vs.length)) (own_ti (by have := own_p16 vs.length hv; omega))
  obtain ⟨aB, g1⟩ : ∃ z, z = h.size := ⟨_, rfl⟩
  rw [← g1] at gA1 ⊢
  have ga_aB : n0 ≤ aB := by have := Zs_h; omega
  have lt_a_aB : @LT.lt Nat _ a aB := Nat.lt_of_lt_of_le E.lt (Nat.le_of_eq g1.symm)
  have ne_a_aB : a ≠ aB := Nat.ne_of_lt lt_a_aB
  have ne_aB_a : aB ≠ a := fun z => ne_a_aB z.symm
  have lt_aA_aB : @LT.lt Nat _ aA aB := Nat.lt_of_lt_of_le A.lt (Nat.le_of_eq g1.symm)
  have ne_aA_aB : aA ≠ aB := Nat.ne_of_lt lt_aA_aB
  have ne_aB_aA : aB ≠ aA := fun z => ne_aA_aB z.symm
  have lt_aP_aB : @LT.lt Nat _ aP aB := Nat.lt_of_lt_of_le P.lt (Nat.le_of_eq g1.symm)
  have ne_aP_aB : aP ≠ aB := Nat.ne_of_lt lt_aP_aB
  have ne_aB_aP : aB ≠ aP := fun z => ne_aP_aB z.symm
  refine g_putF 53 dai_50 (wd hw 17 rfl) gF4 gE5 (Or.inr ⟨(wd hw 18 rfl), rfl, rfl⟩) (wd hw 3 rfl) (ty := (.array .double)) (by decide) rfl rfl ga rfl (fun hh8 gW8 => ?_)
  have gF9 := gF2.other gW8 (Or.inr (slot_ne (Or.inr (wd hw 12 rfl)) (Or.inr (wd hw 18 rfl)) (by decide) (t := (.array .long)) (t' := (.array .double)) (by decide) (by decide)))
  have gF10 := gF3.other gW8 (Or.inr (slot_ne (Or.inr (wd hw 15 rfl)) (Or.inr (wd hw 18 rfl)) (by decide) (t := (.array .int)) (t' := (.array .double)) (by decide) (by decide)))
  have gF11 := gF4.same gW8
  have gE12 := gE5.wr gW8
  have gA13 := gA6.other gW8 ne_aA_a
  have gA14 := gA7.other gW8 ne_aP_a
  have gA15 := gA1.other gW8 ne_aB_a
  refine g_aload_n 54 dai_53 rfl rfl rfl ?_
  refine g_getF 57 dai_54 (wd hw 17 rfl) gF11 rfl ?_
  refine g_ldc2D (w := (13830554455654793216 : UInt64)) 60 dai_57 (wd hw 19 rfl) rfl ?_
  refine g_callS 63 (N := M_fd) [(.ref aB), (.double (13830554455654793216 : UInt64))] [] dai_60 (wd hw 20 rfl) (wd hw 21 rfl) (wd hw 22 rfl) (wd hw 23 rfl) (by decide) (c_fd l Z a0 hw n0 hh8 aB _ (2 ^ vs.length) (by have := own_p16 vs.length hv; omega) _ (by simp) gA15 ga_aB) rfl pd_fd rfl rfl (Nat.le_of_ble_eq_true rfl) (Nat.le_of_ble_eq_true rfl) (Nat.le_of_ble_eq_true rfl) (Nat.le_of_ble_eq_true rfl) rfl ?_
  rintro v hz ⟨rfl, Kz⟩
  show Go _ _ _ _ _ _ _ _ _ 63 #[.val (.ref a), .val (.ref aA), .val (.int (Int32.ofNat vs.length))] []
  have Ez := gE12.keep Kz
  have Fz1 := gF9.keep Kz (by simp [ne_a_aB])
  have Fz2 := gF10.keep Kz (by simp [ne_a_aB])
  have Az := gA13.keep Kz (by simp [ne_aA_aB])
  have Pz := gA14.keep Kz (by simp [ne_aP_aB])
  refine g_retV dai_63 rfl (Nat.le_of_ble_eq_true rfl) (Nat.le_of_ble_eq_true rfl) ?_
  exact ⟨rfl, Ez, Fz1, Az, aP, Fz2, Pz⟩
set_option maxRecDepth 65536 in
set_option maxHeartbeats 40000000 in
theorem loop19 (l : Launch) (Z : State) (a0 : Array Value) (hw : ∀ d ∈ tables_1, d.before a0 Z = true) (n0 : Nat) (a aA aP : Nat) (vs : List Int64) (hv : vs.length ≤ 4) (ga : n0 ≤ a) (gaP : n0 ≤ aP) (ne_a_aA : a ≠ aA) (ne_aA_a : aA ≠ a) (ne_a_aP : a ≠ aP) (ne_aP_a : aP ≠ a) (ne_aA_aP : aA ≠ aP) (ne_aP_aA : aP ≠ aA) : ∀ (ys xs : List Int64) (h : Heap), vs = xs ++ ys → Exa Z h a "com/example/lynceus/lynceus/AtomTable" → Fld Z h a "com/example/lynceus/lynceus/AtomTable" "atoms" "[J" (.ref aA) → Fld Z h a "com/example/lynceus/lynceus/AtomTable" "places" "[I" (.ref aP) → Fld Z h a "com/example/lynceus/lynceus/AtomTable" "bests" "[D" (.null) → Ary Z h aA .long (vs.map Value.long) → Ary Z h aP .int (xs.map (fun x => Value.int (ntz64 x)) ++ List.replicate ys.length (Value.int 0)) →
    Go l Z n0 M_ai ({ frames := 2, cells := 2, slots := 20, locals := 30 } : Room) (fun v h => v = none ∧ Exa Z h a "com/example/lynceus/lynceus/AtomTable" ∧ Fld Z h a "com/example/lynceus/lynceus/AtomTable" "atoms" "[J" (.ref aA) ∧ Ary Z h aA .long (vs.map Value.long) ∧ ∃ aP, Fld Z h a "com/example/lynceus/lynceus/AtomTable" "places" "[I" (.ref aP) ∧ Ary Z h aP .int (vs.map (fun x => Value.int (ntz64 x)))) h 1 4 19 #[.val (.ref a), .val (.ref aA), .val (.int (Int32.ofNat xs.length))] [] := by
  intro ys
  induction ys with
  | nil =>
    intro xs h hs E F1 F2 F3 A P
    have hln : xs.length = vs.length := by rw [hs]; simp
    refine g_iload_n 20 dai_19 rfl rfl ?_
    refine g_aload_n 21 dai_20 rfl rfl rfl ?_
    refine g_alen 22 ((Int32.ofNat vs.length)) dai_21 A (by simp) rfl ?_
    refine g_icmpT 43 dai_22 (fun z => absurd ((own_lt (by omega) (by omega)).mp z) (by omega)) rfl ?_
    have e : xs = vs := by rw [hs]; simp
    rw [e] at P ⊢
    exact k43 l Z a0 hw n0 a aA aP vs hv ga gaP ne_a_aA ne_aA_a ne_a_aP ne_aP_a ne_aA_aP ne_aP_aA h E F1 F2 F3 A (by simpa using P)
  | cons y ys ih =>
    intro xs h hs E F1 F2 F3 A P
    have hln : xs.length + ys.length + 1 = vs.length := by rw [hs]; simp; omega
    refine g_iload_n 20 dai_19 rfl rfl ?_
    refine g_aload_n 21 dai_20 rfl rfl rfl ?_
    refine g_alen 22 ((Int32.ofNat vs.length)) dai_21 A (by simp) rfl ?_
    refine g_icmpF 25 dai_22 (fun z => z ((own_lt (by omega) (by omega)).mpr (by omega))) rfl ?_
    refine g_aload_n 26 dai_25 rfl rfl rfl ?_
    refine g_getF 29 dai_26 (wd hw 14 rfl) F2 rfl ?_
    refine g_iload_n 30 dai_29 rfl rfl ?_
    refine g_aload_n 31 dai_30 rfl rfl rfl ?_
    refine g_iload_n 32 dai_31 rfl rfl ?_
    refine g_aloadJ (v := .long y) 33 xs.length dai_32 A (own_ti (by omega)) (by rw [hs]; simp) rfl ?_
    refine g_callS 36 (N := M_n64) [(.long y)] [(.int (Int32.ofNat xs.length)), (.ref aP)] dai_33 (wd hw 29 rfl) (wd hw 30 rfl) (wd hw 31 rfl) (wd hw 32 rfl) (by decide) (c_n64 l Z a0 hw n0 h y) rfl pd_n64 rfl rfl (Nat.le_of_ble_eq_true rfl) (Nat.le_of_ble_eq_true rfl) (Nat.le_of_ble_eq_true rfl) (Nat.le_of_ble_eq_true rfl) rfl ?_
    rintro v _ ⟨rfl, rfl⟩
    show Go _ _ _ _ _ _ _ _ _ 36 #[.val (.ref a), .val (.ref aA), .val (.int (Int32.ofNat xs.length))] [(.int (ntz64 y)), (.int (Int32.ofNat xs.length)), (.ref aP)]
    refine g_astoreI 37 xs.length dai_36 P (own_ti (by omega)) (by simp) gaP rfl (fun hh1 gW1 => ?_)
    have gF2 := F1.other gW1 (Or.inl ne_a_aP)
    have gF3 := F2.other gW1 (Or.inl ne_a_aP)
    have gF4 := F3.other gW1 (Or.inl ne_a_aP)
    have gE5 := E.wr gW1
    have gA6 := A.other gW1 ne_aA_aP
    have gA7 := P.set gW1
    refine g_iinc 40 #[.val (.ref a), .val (.ref aA), .val (.int (((Int32.ofNat xs.length)) + (1 : Int32)))] dai_37 rfl rfl rfl ?_
    rw [own_one]
    refine g_goto 19 dai_40 rfl ?_
    have en : xs.length + 1 = (xs ++ [y]).length := by simp
    rw [en]
    exact ih (xs ++ [y]) hh1 (by rw [hs]; simp) gE5 gF2 gF3 gF4 gA6 (by have := gA7; simpa [List.replicate_succ] using this)
set_option maxRecDepth 65536 in
set_option maxHeartbeats 40000000 in
theorem c_ai (l : Launch) (Z : State) (a0 : Array Value) (hw : ∀ d ∈ tables_1, d.before a0 Z = true) (n0 : Nat) (h0 : Heap) (a aA : Nat) (vs : List Int64) (hv : vs.length ≤ 4) (ga : n0 ≤ a) (ne_a_aA : a ≠ aA) (ne_aA_a : aA ≠ a) (u1 : Value) (E : Exa Z h0 a "com/example/lynceus/lynceus/AtomTable") (F1 : Fld Z h0 a "com/example/lynceus/lynceus/AtomTable" "atoms" "[J" u1) (F2 : Fld Z h0 a "com/example/lynceus/lynceus/AtomTable" "places" "[I" .null) (F3 : Fld Z h0 a "com/example/lynceus/lynceus/AtomTable" "bests" "[D" .null) (A : Ary Z h0 aA .long (vs.map Value.long)) :
    Con l Z n0 M_ai ({ frames := 2, cells := 2, slots := 20, locals := 30 } : Room) #[(.ref a), (.ref aA)] h0 (fun v h => v = none ∧ Exa Z h a "com/example/lynceus/lynceus/AtomTable" ∧ Fld Z h a "com/example/lynceus/lynceus/AtomTable" "atoms" "[J" (.ref aA) ∧ Ary Z h aA .long (vs.map Value.long) ∧ ∃ aP, Fld Z h a "com/example/lynceus/lynceus/AtomTable" "places" "[I" (.ref aP) ∧ Ary Z h aP .int (vs.map (fun x => Value.int (ntz64 x)))) := by
  refine con_intro pl_ai #[.val (.ref a), .val (.ref aA), .unset] (fun m => by first | rfl | (simp [entryFrame, mkF, argsToLocals, Value.category]; done)) (fun Zs_h0 => ?_)
  refine g_aload_n 1 dai_0 rfl rfl rfl ?_
  refine g_init 4 dai_1 (wd hw 8 rfl) (wd hw 9 rfl) (wd hw 10 rfl) rfl (Nat.le_of_ble_eq_true rfl) (Nat.le_of_ble_eq_true rfl) rfl ?_
  refine g_aload_n 5 dai_4 rfl rfl rfl ?_
  refine g_aload_n 6 dai_5 rfl rfl rfl ?_
  refine g_putF 9 dai_6 (wd hw 11 rfl) F1 E (Or.inr ⟨(wd hw 12 rfl), rfl, rfl⟩) (wd hw 3 rfl) (ty := (.array .long)) (by decide) rfl rfl ga rfl (fun hh1 gW1 => ?_)
  have gF2 := F1.same gW1
  have gF3 := F2.other gW1 (Or.inr (slot_ne (Or.inr (wd hw 15 rfl)) (Or.inr (wd hw 12 rfl)) (by decide) (t := (.array .int)) (t' := (.array .long)) (by decide) (by decide)))
  have gF4 := F3.other gW1 (Or.inr (slot_ne (Or.inr (wd hw 18 rfl)) (Or.inr (wd hw 12 rfl)) (by decide) (t := (.array .double)) (t' := (.array .long)) (by decide) (by decide)))
  have gE5 := E.wr gW1
  have gA6 := A.other gW1 ne_aA_a
  refine g_aload_n 10 dai_9 rfl rfl rfl ?_
  refine g_aload_n 11 dai_10 rfl rfl rfl ?_
  refine g_alen 12 ((Int32.ofNat vs.length)) dai_11 gA6 (by simp) rfl ?_
  refine g_sz (fun Zs_hh1 => ?_)
  refine g_mkA 14 dai_12 (wd hw 13 rfl) rfl (own_nn (by omega)) 4 (own_cap (by omega) hv) (by decide) (Nat.le_of_ble_eq_true rfl) (Nat.le_of_ble_eq_true rfl) rfl (fun hh7 cA7 gX7 gB7 => ?_)
  have gF8 := gF2.ext gX7
  have gF9 := gF3.ext gX7
  have gF10 := gF4.ext gX7
  have gE11 := gE5.ext gX7
  have gA12 := gA6.ext gX7
  have gA7 := Ary.fresh gB7 vs.length (own_ti (by omega))
  obtain ⟨aP, g7⟩ : ∃ z, z = hh1.size := ⟨_, rfl⟩
  rw [← g7] at gA7 ⊢
  have ga_aP : n0 ≤ aP := by have := Zs_hh1; omega
  have lt_a_aP : @LT.lt Nat _ a aP := Nat.lt_of_lt_of_le gE5.lt (Nat.le_of_eq g7.symm)
  have ne_a_aP : a ≠ aP := Nat.ne_of_lt lt_a_aP
  have ne_aP_a : aP ≠ a := fun z => ne_a_aP z.symm
  have lt_aA_aP : @LT.lt Nat _ aA aP := Nat.lt_of_lt_of_le gA6.lt (Nat.le_of_eq g7.symm)
  have ne_aA_aP : aA ≠ aP := Nat.ne_of_lt lt_aA_aP
  have ne_aP_aA : aP ≠ aA := fun z => ne_aA_aP z.symm
  refine g_putF 17 dai_14 (wd hw 14 rfl) gF9 gE11 (Or.inr ⟨(wd hw 15 rfl), rfl, rfl⟩) (wd hw 3 rfl) (ty := (.array .int)) (by decide) rfl rfl ga rfl (fun hh13 gW13 => ?_)
  have gF14 := gF8.other gW13 (Or.inr (slot_ne (Or.inr (wd hw 12 rfl)) (Or.inr (wd hw 15 rfl)) (by decide) (t := (.array .long)) (t' := (.array .int)) (by decide) (by decide)))
  have gF15 := gF9.same gW13
  have gF16 := gF10.other gW13 (Or.inr (slot_ne (Or.inr (wd hw 18 rfl)) (Or.inr (wd hw 15 rfl)) (by decide) (t := (.array .double)) (t' := (.array .int)) (by decide) (by decide)))
  have gE17 := gE11.wr gW13
  have gA18 := gA12.other gW13 ne_aA_a
  have gA19 := gA7.other gW13 ne_aP_a
  refine g_iconst 18 (0 : Int32) dai_17 rfl rfl ?_
  refine g_istore_n 19 #[.val (.ref a), .val (.ref aA), .val (.int (0 : Int32))] dai_18 rfl rfl ?_
  exact loop19 l Z a0 hw n0 a aA aP vs hv ga ga_aP ne_a_aA ne_aA_a ne_a_aP ne_aP_a ne_aA_aP ne_aP_aA vs [] hh13 rfl gE17 gF14 gF15 gF16 gA18 gA19
theorem dst_0 : decode prog_3_method_10_code 0 = .ok (.lconst 0, 1) := by decide +kernel
theorem dst_1 : decode prog_3_method_10_code 1 = .ok (.lstore_n 2, 1) := by decide +kernel
theorem dst_2 : decode prog_3_method_10_code 2 = .ok (.iconst 0, 1) := by decide +kernel
theorem dst_3 : decode prog_3_method_10_code 3 = .ok (.istore 4, 2) := by decide +kernel
theorem dst_5 : decode prog_3_method_10_code 5 = .ok (.iload 4, 2) := by decide +kernel
theorem dst_7 : decode prog_3_method_10_code 7 = .ok (.aload_n 0, 1) := by decide +kernel
theorem dst_8 : decode prog_3_method_10_code 8 = .ok (.getfield 7, 3) := by decide +kernel
theorem dst_11 : decode prog_3_method_10_code 11 = .ok (.arraylength, 1) := by decide +kernel
theorem dst_12 : decode prog_3_method_10_code 12 = .ok (.if_icmp .ge 28, 3) := by decide +kernel
theorem dst_15 : decode prog_3_method_10_code 15 = .ok (.lload_n 2, 1) := by decide +kernel
theorem dst_16 : decode prog_3_method_10_code 16 = .ok (.aload_n 0, 1) := by decide +kernel
theorem dst_17 : decode prog_3_method_10_code 17 = .ok (.getfield 7, 3) := by decide +kernel
theorem dst_20 : decode prog_3_method_10_code 20 = .ok (.iload 4, 2) := by decide +kernel
theorem dst_22 : decode prog_3_method_10_code 22 = .ok (.laload, 1) := by decide +kernel
theorem dst_23 : decode prog_3_method_10_code 23 = .ok (.iload_n 1, 1) := by decide +kernel
theorem dst_24 : decode prog_3_method_10_code 24 = .ok (.iload 4, 2) := by decide +kernel
theorem dst_26 : decode prog_3_method_10_code 26 = .ok (.iushr, 1) := by decide +kernel
theorem dst_27 : decode prog_3_method_10_code 27 = .ok (.iconst 1, 1) := by decide +kernel
theorem dst_28 : decode prog_3_method_10_code 28 = .ok (.iand, 1) := by decide +kernel
theorem dst_29 : decode prog_3_method_10_code 29 = .ok (.ineg, 1) := by decide +kernel
theorem dst_30 : decode prog_3_method_10_code 30 = .ok (.i2l, 1) := by decide +kernel
theorem dst_31 : decode prog_3_method_10_code 31 = .ok (.land, 1) := by decide +kernel
theorem dst_32 : decode prog_3_method_10_code 32 = .ok (.lor, 1) := by decide +kernel
theorem dst_33 : decode prog_3_method_10_code 33 = .ok (.lstore_n 2, 1) := by decide +kernel
theorem dst_34 : decode prog_3_method_10_code 34 = .ok (.iinc 4 1, 3) := by decide +kernel
theorem dst_37 : decode prog_3_method_10_code 37 = .ok (.goto (-32), 3) := by decide +kernel
theorem dst_40 : decode prog_3_method_10_code 40 = .ok (.lload_n 2, 1) := by decide +kernel
theorem dst_41 : decode prog_3_method_10_code 41 = .ok (.lreturn, 1) := by decide +kernel
abbrev M_st : MD := ((⟨"com/example/lynceus/lynceus/AtomTable", "set", "(I)J"⟩ : MethodName), prog_3_method_10_code, 5, (some .long))
theorem pl_st : plainFor M_st.1 = true := plainFor_of_name (by decide +kernel)
theorem pd_st : parseMethodDescriptor "(I)J" = some ⟨[.int], (some .long)⟩ := by decide +kernel
abbrev M_law : MD := (x, code, maxLocals, ret)
theorem pl_law : plainFor M_law.1 = true := plainFor_of_name (by first | (simp [plainName, overriddenIn, x]; done) | decide +kernel)
def msk (ix : Int32) (i : Nat) : Int64 := (-(XT.ushr ix (Int32.ofNat i) &&& 1)).toInt64
def sF (ix : Int32) : Nat → Int64 → List Int64 → Int64
  | _, acc, [] => acc
  | i, acc, y :: ys => sF ix (i + 1) (acc ||| (y &&& msk ix i)) ys
def fB (ix n : Int32) (k : Nat) (acc a : Int64) : Int64 := if Int32.ofNat k < n then acc ||| (a &&& msk ix k) else acc
theorem own_ushr (x : Int32) (k : Nat) (hk : k < 4) : (XT.ushr x (Int32.ofNat k) &&& 1).toBitVec = (x.toBitVec >>> k) &&& 1#32 := by
  have h : ∀ k : Nat, k < 4 → ((Int32.ofNat k &&& 31).toUInt32).toNat % 32 = k := by decide
  unfold XT.ushr
  rw [Int32.toBitVec_and]
  congr 1
  show (x.toUInt32 >>> (Int32.ofNat k &&& 31).toUInt32).toBitVec = _
  rw [UInt32.toBitVec_shiftRight]
  apply BitVec.eq_of_toNat_eq
  have h2 := h k hk
  simp only [BitVec.toNat_ushiftRight, BitVec.ushiftRight_eq', BitVec.toNat_umod, UInt32.toNat_toBitVec] at *
  show x.toBitVec.toNat >>> _ = _
  congr 1
theorem own_and2 (n k : Nat) : n &&& 2 ^ k = (n.testBit k).toNat * 2 ^ k := by
  apply Nat.eq_of_testBit_eq
  intro i
  rw [Nat.testBit_and, Nat.testBit_two_pow]
  cases hb : n.testBit k with
  | true =>
    rw [Bool.toNat_true, Nat.one_mul, Nat.testBit_two_pow]
    by_cases e : k = i
    · subst e; simp [hb]
    · simp [e]
  | false =>
    rw [Bool.toNat_false, Nat.zero_mul, Nat.zero_testBit]
    by_cases e : k = i
    · subst e; simp [hb]
    · simp [e]
theorem own_bit (x : Int32) (k : Nat) (hk : k < 4) : (x &&& Int32.ofNat (2 ^ k) = 0 → XT.ushr x (Int32.ofNat k) &&& 1 = 0) ∧ (¬ x &&& Int32.ofNat (2 ^ k) = 0 → XT.ushr x (Int32.ofNat k) &&& 1 = 1) := by
  have e := own_ushr x k hk
  have e1 : (x &&& Int32.ofNat (2 ^ k)).toBitVec.toNat = (x.toBitVec.toNat.testBit k).toNat * 2 ^ k := by
    rw [Int32.toBitVec_and, BitVec.toNat_and]
    have : ∀ k : Nat, k < 4 → (Int32.ofNat (2 ^ k)).toBitVec.toNat = 2 ^ k := by decide
    rw [this k hk, own_and2]
  have e2 : (XT.ushr x (Int32.ofNat k) &&& 1).toBitVec.toNat = (x.toBitVec.toNat.testBit k).toNat := by
    rw [e, BitVec.toNat_and, BitVec.toNat_ushiftRight]
    show (x.toBitVec.toNat >>> k) &&& 1 = _
    rw [Nat.and_one_is_mod, Nat.testBit, Nat.one_and_eq_mod_two]
    rcases Nat.mod_two_eq_zero_or_one (x.toBitVec.toNat >>> k) with h | h <;> rw [h] <;> rfl
  have p : 0 < 2 ^ k := Nat.two_pow_pos k
  constructor
  · intro h
    rw [h] at e1
    cases hb : x.toBitVec.toNat.testBit k with
    | true =>
      rw [hb] at e1
      have e3 : (0 : Nat) = 1 * 2 ^ k := e1
      omega
    | false =>
      rw [hb] at e2
      exact Int32.toBitVec_inj.mp (BitVec.eq_of_toNat_eq e2)
  · intro h
    cases hb : x.toBitVec.toNat.testBit k with
    | true =>
      rw [hb] at e2
      exact Int32.toBitVec_inj.mp (BitVec.eq_of_toNat_eq e2)
    | false =>
      rw [hb] at e1
      exact absurd (Int32.toBitVec_inj.mp (BitVec.eq_of_toNat_eq (by rw [e1]; simp))) h
theorem fB_a {ix n : Int32} {k : Nat} {acc a : Int64} (h : ¬ Int32.ofNat k < n) : fB ix n k acc a = acc := if_neg h
theorem fB_b {ix n : Int32} {k : Nat} {acc a : Int64} (hk : k < 4) (h : Int32.ofNat k < n) (hb : ix &&& Int32.ofNat (2 ^ k) = 0) : fB ix n k acc a = acc := by
  unfold fB
  rw [if_pos h]
  have e : msk ix k = 0 := by unfold msk; rw [(own_bit ix k hk).1 hb]; decide
  rw [e]; simp
theorem fB_c {ix n : Int32} {k : Nat} {acc a : Int64} (hk : k < 4) (h : Int32.ofNat k < n) (hb : ¬ ix &&& Int32.ofNat (2 ^ k) = 0) : fB ix n k acc a = acc ||| a := by
  unfold fB
  rw [if_pos h]
  have e : msk ix k = -1 := by unfold msk; rw [(own_bit ix k hk).2 hb]; decide
  rw [e]
  simp
set_option maxRecDepth 65536 in
set_option maxHeartbeats 40000000 in
theorem loop5 (l : Launch) (Z : State) (a0 : Array Value) (hw : ∀ d ∈ tables_1, d.before a0 Z = true) (n0 : Nat) (h0 : Heap) (a aA : Nat) (ix : Int32) (vs : List Int64) (hv : vs.length ≤ 4) (res : Int64) (F1 : Fld Z h0 a "com/example/lynceus/lynceus/AtomTable" "atoms" "[J" (.ref aA)) (A : Ary Z h0 aA .long (vs.map Value.long)) : ∀ (ys xs : List Int64) (acc : Int64), vs = xs ++ ys → sF ix xs.length acc ys = res →
    Go l Z n0 M_st ({ frames := 0, cells := 0, slots := 0, locals := 0 } : Room) (fun v _ => v = some (.long res)) h0 0 0 5 #[.val (.ref a), .val (.int ix), .val (.long acc), .second, .val (.int (Int32.ofNat xs.length))] [] := by
  intro ys
  induction ys with
  | nil =>
    intro xs acc hs hq
    have hln : xs.length = vs.length := by rw [hs]; simp
    refine g_iload 7 dst_5 rfl rfl ?_
    refine g_aload_n 8 dst_7 rfl rfl rfl ?_
    refine g_getF 11 dst_8 (wd hw 11 rfl) F1 rfl ?_
    refine g_alen 12 ((Int32.ofNat vs.length)) dst_11 A (by simp) rfl ?_
    refine g_icmpT 40 dst_12 (fun z => absurd ((own_lt (by omega) (by omega)).mp z) (by omega)) rfl ?_
    refine g_lload_n 41 dst_40 rfl rfl ?_
    refine g_retJ dst_41 rfl (Nat.le_of_ble_eq_true rfl) (Nat.le_of_ble_eq_true rfl) ?_
    rw [← hq]; rfl
  | cons y ys ih =>
    intro xs acc hs hq
    have hln : xs.length + ys.length + 1 = vs.length := by rw [hs]; simp; omega
    refine g_iload 7 dst_5 rfl rfl ?_
    refine g_aload_n 8 dst_7 rfl rfl rfl ?_
    refine g_getF 11 dst_8 (wd hw 11 rfl) F1 rfl ?_
    refine g_alen 12 ((Int32.ofNat vs.length)) dst_11 A (by simp) rfl ?_
    refine g_icmpF 15 dst_12 (fun z => z ((own_lt (by omega) (by omega)).mpr (by omega))) rfl ?_
    refine g_lload_n 16 dst_15 rfl rfl ?_
    refine g_aload_n 17 dst_16 rfl rfl rfl ?_
    refine g_getF 20 dst_17 (wd hw 11 rfl) F1 rfl ?_
    refine g_iload 22 dst_20 rfl rfl ?_
    refine g_aloadJ (v := .long y) 23 xs.length dst_22 A (own_ti (by omega)) (by rw [hs]; simp) rfl ?_
    refine g_iload_n 24 dst_23 rfl rfl ?_
    refine g_iload 26 dst_24 rfl rfl ?_
    refine g_iushr 27 dst_26 rfl ?_
    refine g_iconst 28 (1 : Int32) dst_27 rfl rfl ?_
    refine g_iand 29 dst_28 rfl ?_
    refine g_ineg 30 dst_29 rfl ?_
    refine g_i2l 31 dst_30 rfl ?_
    refine g_land 32 dst_31 rfl ?_
    refine g_lor 33 dst_32 rfl ?_
    refine g_lstore_n 34 #[.val (.ref a), .val (.int ix), .val (.long (acc ||| ((y &&& ((((-((((XT.ushr ix ((Int32.ofNat xs.length)))) &&& ((1 : Int32)))))).toInt64)))))), .second, .val (.int (Int32.ofNat xs.length))] dst_33 rfl rfl ?_
    refine g_iinc 37 #[.val (.ref a), .val (.int ix), .val (.long (acc ||| ((y &&& ((((-((((XT.ushr ix ((Int32.ofNat xs.length)))) &&& ((1 : Int32)))))).toInt64)))))), .second, .val (.int (((Int32.ofNat xs.length)) + (1 : Int32)))] dst_34 rfl rfl rfl ?_
    rw [own_one]
    refine g_goto 5 dst_37 rfl ?_
    have en : xs.length + 1 = (xs ++ [y]).length := by simp
    rw [en]
    exact ih (xs ++ [y]) _ (by rw [hs]; simp) (by rw [← en]; exact hq)
set_option maxRecDepth 65536 in
set_option maxHeartbeats 40000000 in
theorem c_st (l : Launch) (Z : State) (a0 : Array Value) (hw : ∀ d ∈ tables_1, d.before a0 Z = true) (n0 : Nat) (h0 : Heap) (a aA : Nat) (ix : Int32) (vs : List Int64) (hv : vs.length ≤ 4) (F1 : Fld Z h0 a "com/example/lynceus/lynceus/AtomTable" "atoms" "[J" (.ref aA)) (A : Ary Z h0 aA .long (vs.map Value.long)) :
    Con l Z n0 M_st ({ frames := 0, cells := 0, slots := 0, locals := 0 } : Room) #[(.ref a), (.int ix)] h0 (fun v _ => v = some (.long (sF ix 0 0 vs))) := by
  refine con_intro pl_st #[.val (.ref a), .val (.int ix), .unset, .unset, .unset] (fun m => by first | rfl | (simp [entryFrame, mkF, argsToLocals, Value.category]; done)) (fun Zs_h0 => ?_)
  refine g_lconst 1 (0 : Int64) dst_0 rfl rfl ?_
  refine g_lstore_n 2 #[.val (.ref a), .val (.int ix), .val (.long (0 : Int64)), .second, .unset] dst_1 rfl rfl ?_
  refine g_iconst 3 (0 : Int32) dst_2 rfl rfl ?_
  refine g_istore 5 #[.val (.ref a), .val (.int ix), .val (.long (0 : Int64)), .second, .val (.int (0 : Int32))] dst_3 rfl rfl ?_
  exact loop5 l Z a0 hw n0 h0 a aA ix vs hv _ F1 A vs [] 0 rfl rfl
set_option maxRecDepth 65536 in
set_option maxHeartbeats 40000000 in
theorem k161 (l : Launch) (Z : State) (a0 : Array Value) (hw : ∀ d ∈ tables_1, d.before a0 Z = true) (n0 : Nat) (h0 : Heap) (kc ks : Nat) (hkc : kc ≤ room_1.cells) (hks : ks ≤ room_1.slots) (b0 b1 b2 b3 : Int64) (ix cn n : Int32) (aA tb : Nat) (got acc : Int64) (h : got = acc) : Go l Z n0 M_law room_1 (fun v _ => v = some (.int 1)) h0 kc ks 161 #[.val (.long b0), .second, .val (.long b1), .second, .val (.long b2), .second, .val (.long b3), .second, .val (.int ix), .val (.int cn), .val (.int n), .val (.ref aA), .val (.ref tb), .val (.long got), .second, .val (.long acc), .second] [] := by
  refine g_lload 163 at_161 rfl rfl ?_
  refine g_lload 165 at_163 rfl rfl ?_
  refine g_lcmpF 169 at_165 at_166 (fun z => z h) rfl ?_
  refine g_iconst 170 (1 : Int32) at_169 rfl rfl ?_
  refine g_goto 174 at_170 rfl ?_
  refine g_retZ at_174 rfl rfl hkc hks ?_
  rfl
set_option maxRecDepth 65536 in
set_option maxHeartbeats 40000000 in
theorem k140 (l : Launch) (Z : State) (a0 : Array Value) (hw : ∀ d ∈ tables_1, d.before a0 Z = true) (n0 : Nat) (h0 : Heap) (kc ks : Nat) (hkc : kc ≤ room_1.cells) (hks : ks ≤ room_1.slots) (b0 b1 b2 b3 : Int64) (ix cn n : Int32) (aA tb : Nat) (got acc : Int64) (h : got = fB ix n 3 acc b3) : Go l Z n0 M_law room_1 (fun v _ => v = some (.int 1)) h0 kc ks 140 #[.val (.long b0), .second, .val (.long b1), .second, .val (.long b2), .second, .val (.long b3), .second, .val (.int ix), .val (.int cn), .val (.int n), .val (.ref aA), .val (.ref tb), .val (.long got), .second, .val (.long acc), .second] [] := by
  refine g_iload 142 at_140 rfl rfl ?_
  refine g_iconst 143 (3 : Int32) at_142 rfl rfl ?_
  refine g_icmp 161 146 at_143 rfl rfl (fun q1 => ?_) (fun q1 => ?_)
  · exact k161 l Z a0 hw n0 h0 kc ks hkc hks b0 b1 b2 b3 ix cn n aA tb got _ (by rw [h, fB_a q1])
  · refine g_iload 148 at_146 rfl rfl ?_
    refine g_bipush 150 (8 : Int32) at_148 rfl rfl ?_
    refine g_iand 151 at_150 rfl ?_
    refine g_ifC 161 154 at_151 rfl rfl (fun q2 => ?_) (fun q2 => ?_)
    · exact k161 l Z a0 hw n0 h0 kc ks hkc hks b0 b1 b2 b3 ix cn n aA tb got _ (by rw [h, fB_b (k := 3) (by decide) (Classical.not_not.mp q1) q2])
    · refine g_lload 156 at_154 rfl rfl ?_
      refine g_lload 158 at_156 rfl rfl ?_
      refine g_lor 159 at_158 rfl ?_
      refine g_lstore 161 #[.val (.long b0), .second, .val (.long b1), .second, .val (.long b2), .second, .val (.long b3), .second, .val (.int ix), .val (.int cn), .val (.int n), .val (.ref aA), .val (.ref tb), .val (.long got), .second, .val (.long (acc ||| b3)), .second] at_159 rfl rfl ?_
      exact k161 l Z a0 hw n0 h0 kc ks hkc hks b0 b1 b2 b3 ix cn n aA tb got _ (by rw [h, fB_c (k := 3) (by decide) (Classical.not_not.mp q1) q2])
set_option maxRecDepth 65536 in
set_option maxHeartbeats 40000000 in
theorem k120 (l : Launch) (Z : State) (a0 : Array Value) (hw : ∀ d ∈ tables_1, d.before a0 Z = true) (n0 : Nat) (h0 : Heap) (kc ks : Nat) (hkc : kc ≤ room_1.cells) (hks : ks ≤ room_1.slots) (b0 b1 b2 b3 : Int64) (ix cn n : Int32) (aA tb : Nat) (got acc : Int64) (h : got = fB ix n 3 (fB ix n 2 acc b2) b3) : Go l Z n0 M_law room_1 (fun v _ => v = some (.int 1)) h0 kc ks 120 #[.val (.long b0), .second, .val (.long b1), .second, .val (.long b2), .second, .val (.long b3), .second, .val (.int ix), .val (.int cn), .val (.int n), .val (.ref aA), .val (.ref tb), .val (.long got), .second, .val (.long acc), .second] [] := by
  refine g_iload 122 at_120 rfl rfl ?_
  refine g_iconst 123 (2 : Int32) at_122 rfl rfl ?_
  refine g_icmp 140 126 at_123 rfl rfl (fun q1 => ?_) (fun q1 => ?_)
  · exact k140 l Z a0 hw n0 h0 kc ks hkc hks b0 b1 b2 b3 ix cn n aA tb got _ (by rw [h, fB_a q1])
  · refine g_iload 128 at_126 rfl rfl ?_
    refine g_iconst 129 (4 : Int32) at_128 rfl rfl ?_
    refine g_iand 130 at_129 rfl ?_
    refine g_ifC 140 133 at_130 rfl rfl (fun q2 => ?_) (fun q2 => ?_)
    · exact k140 l Z a0 hw n0 h0 kc ks hkc hks b0 b1 b2 b3 ix cn n aA tb got _ (by rw [h, fB_b (k := 2) (by decide) (Classical.not_not.mp q1) q2])
    · refine g_lload 135 at_133 rfl rfl ?_
      refine g_lload 137 at_135 rfl rfl ?_
      refine g_lor 138 at_137 rfl ?_
      refine g_lstore 140 #[.val (.long b0), .second, .val (.long b1), .second, .val (.long b2), .second, .val (.long b3), .second, .val (.int ix), .val (.int cn), .val (.int n), .val (.ref aA), .val (.ref tb), .val (.long got), .second, .val (.long (acc ||| b2)), .second] at_138 rfl rfl ?_
      exact k140 l Z a0 hw n0 h0 kc ks hkc hks b0 b1 b2 b3 ix cn n aA tb got _ (by rw [h, fB_c (k := 2) (by decide) (Classical.not_not.mp q1) q2])
set_option maxRecDepth 65536 in
set_option maxHeartbeats 40000000 in
theorem k101 (l : Launch) (Z : State) (a0 : Array Value) (hw : ∀ d ∈ tables_1, d.before a0 Z = true) (n0 : Nat) (h0 : Heap) (kc ks : Nat) (hkc : kc ≤ room_1.cells) (hks : ks ≤ room_1.slots) (b0 b1 b2 b3 : Int64) (ix cn n : Int32) (aA tb : Nat) (got acc : Int64) (h : got = fB ix n 3 (fB ix n 2 (fB ix n 1 acc b1) b2) b3) : Go l Z n0 M_law room_1 (fun v _ => v = some (.int 1)) h0 kc ks 101 #[.val (.long b0), .second, .val (.long b1), .second, .val (.long b2), .second, .val (.long b3), .second, .val (.int ix), .val (.int cn), .val (.int n), .val (.ref aA), .val (.ref tb), .val (.long got), .second, .val (.long acc), .second] [] := by
  refine g_iload 103 at_101 rfl rfl ?_
  refine g_iconst 104 (1 : Int32) at_103 rfl rfl ?_
  refine g_icmp 120 107 at_104 rfl rfl (fun q1 => ?_) (fun q1 => ?_)
  · exact k120 l Z a0 hw n0 h0 kc ks hkc hks b0 b1 b2 b3 ix cn n aA tb got _ (by rw [h, fB_a q1])
  · refine g_iload 109 at_107 rfl rfl ?_
    refine g_iconst 110 (2 : Int32) at_109 rfl rfl ?_
    refine g_iand 111 at_110 rfl ?_
    refine g_ifC 120 114 at_111 rfl rfl (fun q2 => ?_) (fun q2 => ?_)
    · exact k120 l Z a0 hw n0 h0 kc ks hkc hks b0 b1 b2 b3 ix cn n aA tb got _ (by rw [h, fB_b (k := 1) (by decide) (Classical.not_not.mp q1) q2])
    · refine g_lload 116 at_114 rfl rfl ?_
      refine g_lload_n 117 at_116 rfl rfl ?_
      refine g_lor 118 at_117 rfl ?_
      refine g_lstore 120 #[.val (.long b0), .second, .val (.long b1), .second, .val (.long b2), .second, .val (.long b3), .second, .val (.int ix), .val (.int cn), .val (.int n), .val (.ref aA), .val (.ref tb), .val (.long got), .second, .val (.long (acc ||| b1)), .second] at_118 rfl rfl ?_
      exact k120 l Z a0 hw n0 h0 kc ks hkc hks b0 b1 b2 b3 ix cn n aA tb got _ (by rw [h, fB_c (k := 1) (by decide) (Classical.not_not.mp q1) q2])
set_option maxRecDepth 65536 in
set_option maxHeartbeats 40000000 in
theorem k83 (l : Launch) (Z : State) (a0 : Array Value) (hw : ∀ d ∈ tables_1, d.before a0 Z = true) (n0 : Nat) (h0 : Heap) (kc ks : Nat) (hkc : kc ≤ room_1.cells) (hks : ks ≤ room_1.slots) (b0 b1 b2 b3 : Int64) (ix cn n : Int32) (aA tb : Nat) (got acc : Int64) (h : got = fB ix n 3 (fB ix n 2 (fB ix n 1 (fB ix n 0 acc b0) b1) b2) b3) : Go l Z n0 M_law room_1 (fun v _ => v = some (.int 1)) h0 kc ks 83 #[.val (.long b0), .second, .val (.long b1), .second, .val (.long b2), .second, .val (.long b3), .second, .val (.int ix), .val (.int cn), .val (.int n), .val (.ref aA), .val (.ref tb), .val (.long got), .second, .val (.long acc), .second] [] := by
  refine g_iload 85 at_83 rfl rfl ?_
  refine g_ifC 101 88 at_85 rfl rfl (fun q1 => ?_) (fun q1 => ?_)
  · exact k101 l Z a0 hw n0 h0 kc ks hkc hks b0 b1 b2 b3 ix cn n aA tb got _ (by rw [h, fB_a q1])
  · refine g_iload 90 at_88 rfl rfl ?_
    refine g_iconst 91 (1 : Int32) at_90 rfl rfl ?_
    refine g_iand 92 at_91 rfl ?_
    refine g_ifC 101 95 at_92 rfl rfl (fun q2 => ?_) (fun q2 => ?_)
    · exact k101 l Z a0 hw n0 h0 kc ks hkc hks b0 b1 b2 b3 ix cn n aA tb got _ (by rw [h, fB_b (k := 0) (by decide) (Classical.not_not.mp q1) q2])
    · refine g_lload 97 at_95 rfl rfl ?_
      refine g_lload_n 98 at_97 rfl rfl ?_
      refine g_lor 99 at_98 rfl ?_
      refine g_lstore 101 #[.val (.long b0), .second, .val (.long b1), .second, .val (.long b2), .second, .val (.long b3), .second, .val (.int ix), .val (.int cn), .val (.int n), .val (.ref aA), .val (.ref tb), .val (.long got), .second, .val (.long (acc ||| b0)), .second] at_99 rfl rfl ?_
      exact k101 l Z a0 hw n0 h0 kc ks hkc hks b0 b1 b2 b3 ix cn n aA tb got _ (by rw [h, fB_c (k := 0) (by decide) (Classical.not_not.mp q1) q2])
set_option maxRecDepth 65536 in
set_option maxHeartbeats 40000000 in
theorem k9_0 (l : Launch) (Z : State) (a0 : Array Value) (hw : ∀ d ∈ tables_1, d.before a0 Z = true) (n0 : Nat) (h0 : Heap) (b0 b1 b2 b3 : Int64) (ix cn : Int32) : Go l Z n0 M_law room_1 (fun v _ => v = some (.int 1)) h0 0 0 9 #[.val (.long b0), .second, .val (.long b1), .second, .val (.long b2), .second, .val (.long b3), .second, .val (.int ix), .val (.int cn), .val (.int (0 : Int32)), .unset, .unset, .unset, .unset, .unset, .unset] [] := by
  refine g_iload 11 at_9 rfl rfl ?_
  refine g_sz (fun Zs_h0 => ?_)
  refine g_mkA 13 at_11 (wd hw 1 rfl) rfl (by decide) 4 (by decide) (by decide) (Nat.le_of_ble_eq_true rfl) (Nat.le_of_ble_eq_true rfl) rfl (fun hh1 cA1 gX1 gB1 => ?_)
  have gA1 := Ary.fresh gB1 0 rfl
  obtain ⟨aA, g1⟩ : ∃ z, z = h0.size := ⟨_, rfl⟩
  rw [← g1] at gA1 ⊢
  have ga_aA : n0 ≤ aA := by have := Zs_h0; omega
  refine g_astore 15 #[.val (.long b0), .second, .val (.long b1), .second, .val (.long b2), .second, .val (.long b3), .second, .val (.int ix), .val (.int cn), .val (.int (0 : Int32)), .val (.ref aA), .unset, .unset, .unset, .unset, .unset] at_13 rfl rfl rfl ?_
  refine g_iload 17 at_15 rfl rfl ?_
  refine g_ifT 25 at_17 (by show ¬ _; decide) rfl ?_
  refine g_iload 27 at_25 rfl rfl ?_
  refine g_iconst 28 (1 : Int32) at_27 rfl rfl ?_
  refine g_icmpT 36 at_28 (by show ¬ _; decide) rfl ?_
  refine g_iload 38 at_36 rfl rfl ?_
  refine g_iconst 39 (2 : Int32) at_38 rfl rfl ?_
  refine g_icmpT 48 at_39 (by show ¬ _; decide) rfl ?_
  refine g_iload 50 at_48 rfl rfl ?_
  refine g_iconst 51 (3 : Int32) at_50 rfl rfl ?_
  refine g_icmpT 60 at_51 (by show ¬ _; decide) rfl ?_
  refine g_sz (fun Zs_hh1 => ?_)
  refine g_new 63 at_60 (wd hw 2 rfl) (wd hw 3 rfl) (wd hw 4 rfl) (Nat.le_of_ble_eq_true rfl) (Nat.le_of_ble_eq_true rfl) rfl (fun hh2 gX2 gE2 gD2 => ?_)
  have gA3 := gA1.ext gX2
  obtain ⟨tb, g2⟩ : ∃ z, z = hh1.size := ⟨_, rfl⟩
  rw [← g2] at gE2 gD2 ⊢
  have gF4 := gD2 (Or.inr (wd hw 12 rfl)) (ty := (.array .long)) (by decide)
  have gF5 := gD2 (Or.inr (wd hw 15 rfl)) (ty := (.array .int)) (by decide)
  have gF6 := gD2 (Or.inr (wd hw 18 rfl)) (ty := (.array .double)) (by decide)
  have ga_tb : n0 ≤ tb := by have := Zs_hh1; omega
  have lt_aA_tb : @LT.lt Nat _ aA tb := Nat.lt_of_lt_of_le gA1.lt (Nat.le_of_eq g2.symm)
  have ne_aA_tb : aA ≠ tb := Nat.ne_of_lt lt_aA_tb
  have ne_tb_aA : tb ≠ aA := fun z => ne_aA_tb z.symm
  refine g_dup 64 at_63 rfl rfl ?_
  refine g_aload 66 at_64 rfl rfl rfl ?_
  refine g_callN 69 (N := M_ai) [(.ref aA)] [(.ref tb)] at_66 rfl rfl (wd hw 5 rfl) (wd hw 6 rfl) (wd hw 4 rfl) (wd hw 7 rfl) (by decide) (c_ai l Z a0 hw n0 hh2 tb aA [] (by simp) ga_tb ne_tb_aA ne_aA_tb _ gE2 gF4 gF5 gF6 gA3) rfl pd_ai rfl rfl (Nat.le_of_ble_eq_true rfl) (Nat.le_of_ble_eq_true rfl) (Nat.le_of_ble_eq_true rfl) (Nat.le_of_ble_eq_true rfl) rfl ?_
  rintro v hc ⟨rfl, Ec, Fc1, Ac, aP, Fc2, Pc⟩
  show Go _ _ _ _ _ _ _ _ _ 69 #[.val (.long b0), .second, .val (.long b1), .second, .val (.long b2), .second, .val (.long b3), .second, .val (.int ix), .val (.int cn), .val (.int (0 : Int32)), .val (.ref aA), .unset, .unset, .unset, .unset, .unset] [(.ref tb)]
  refine g_astore 71 #[.val (.long b0), .second, .val (.long b1), .second, .val (.long b2), .second, .val (.long b3), .second, .val (.int ix), .val (.int cn), .val (.int (0 : Int32)), .val (.ref aA), .val (.ref tb), .unset, .unset, .unset, .unset] at_69 rfl rfl rfl ?_
  refine g_aload 73 at_71 rfl rfl rfl ?_
  refine g_iload 75 at_73 rfl rfl ?_
  refine g_callV 78 (N := M_st) [(.int ix)] [] at_75 (wd hw 24 rfl) (wd hw 26 rfl) (wd hw 4 rfl) (wd hw 28 rfl) (wd hw 25 rfl) (wd hw 27 rfl) Ec (by decide) (c_st l Z a0 hw n0 hc tb aA ix [] (by simp) Fc1 Ac) rfl pd_st rfl rfl (Nat.le_of_ble_eq_true rfl) (Nat.le_of_ble_eq_true rfl) (Nat.le_of_ble_eq_true rfl) (Nat.le_of_ble_eq_true rfl) rfl ?_
  rintro v hd rfl
  show Go _ _ _ _ _ _ _ _ _ 78 #[.val (.long b0), .second, .val (.long b1), .second, .val (.long b2), .second, .val (.long b3), .second, .val (.int ix), .val (.int cn), .val (.int (0 : Int32)), .val (.ref aA), .val (.ref tb), .unset, .unset, .unset, .unset] [(.long (sF ix 0 0 []))]
  refine g_lstore 80 #[.val (.long b0), .second, .val (.long b1), .second, .val (.long b2), .second, .val (.long b3), .second, .val (.int ix), .val (.int cn), .val (.int (0 : Int32)), .val (.ref aA), .val (.ref tb), .val (.long (sF ix 0 0 [])), .second, .unset, .unset] at_78 rfl rfl ?_
  refine g_lconst 81 (0 : Int64) at_80 rfl rfl ?_
  refine g_lstore 83 #[.val (.long b0), .second, .val (.long b1), .second, .val (.long b2), .second, .val (.long b3), .second, .val (.int ix), .val (.int cn), .val (.int (0 : Int32)), .val (.ref aA), .val (.ref tb), .val (.long (sF ix 0 0 [])), .second, .val (.long (0 : Int64)), .second] at_81 rfl rfl ?_
  exact k83 l Z a0 hw n0 hd _ _ (Nat.le_of_ble_eq_true rfl) (Nat.le_of_ble_eq_true rfl) b0 b1 b2 b3 ix cn (0 : Int32) aA tb _ _ (by simp only [sF, fB]; first | rfl | (rw [if_pos (by decide)]; rfl))
set_option maxRecDepth 65536 in
set_option maxHeartbeats 40000000 in
theorem k9_1 (l : Launch) (Z : State) (a0 : Array Value) (hw : ∀ d ∈ tables_1, d.before a0 Z = true) (n0 : Nat) (h0 : Heap) (b0 b1 b2 b3 : Int64) (ix cn : Int32) : Go l Z n0 M_law room_1 (fun v _ => v = some (.int 1)) h0 0 0 9 #[.val (.long b0), .second, .val (.long b1), .second, .val (.long b2), .second, .val (.long b3), .second, .val (.int ix), .val (.int cn), .val (.int (1 : Int32)), .unset, .unset, .unset, .unset, .unset, .unset] [] := by
  refine g_iload 11 at_9 rfl rfl ?_
  refine g_sz (fun Zs_h0 => ?_)
  refine g_mkA 13 at_11 (wd hw 1 rfl) rfl (by decide) 4 (by decide) (by decide) (Nat.le_of_ble_eq_true rfl) (Nat.le_of_ble_eq_true rfl) rfl (fun hh1 cA1 gX1 gB1 => ?_)
  have gA1 := Ary.fresh gB1 1 rfl
  obtain ⟨aA, g1⟩ : ∃ z, z = h0.size := ⟨_, rfl⟩
  rw [← g1] at gA1 ⊢
  have ga_aA : n0 ≤ aA := by have := Zs_h0; omega
  refine g_astore 15 #[.val (.long b0), .second, .val (.long b1), .second, .val (.long b2), .second, .val (.long b3), .second, .val (.int ix), .val (.int cn), .val (.int (1 : Int32)), .val (.ref aA), .unset, .unset, .unset, .unset, .unset] at_13 rfl rfl rfl ?_
  refine g_iload 17 at_15 rfl rfl ?_
  refine g_ifF 20 at_17 (fun z => z (by decide)) rfl ?_
  refine g_aload 22 at_20 rfl rfl rfl ?_
  refine g_iconst 23 (0 : Int32) at_22 rfl rfl ?_
  refine g_lload_n 24 at_23 rfl rfl ?_
  refine g_astoreJ 25 0 at_24 gA1 rfl (by simp) ga_aA rfl (fun hh2 gW2 => ?_)
  have gA3 := gA1.set gW2
  refine g_iload 27 at_25 rfl rfl ?_
  refine g_iconst 28 (1 : Int32) at_27 rfl rfl ?_
  refine g_icmpT 36 at_28 (by show ¬ _; decide) rfl ?_
  refine g_iload 38 at_36 rfl rfl ?_
  refine g_iconst 39 (2 : Int32) at_38 rfl rfl ?_
  refine g_icmpT 48 at_39 (by show ¬ _; decide) rfl ?_
  refine g_iload 50 at_48 rfl rfl ?_
  refine g_iconst 51 (3 : Int32) at_50 rfl rfl ?_
  refine g_icmpT 60 at_51 (by show ¬ _; decide) rfl ?_
  refine g_sz (fun Zs_hh2 => ?_)
  refine g_new 63 at_60 (wd hw 2 rfl) (wd hw 3 rfl) (wd hw 4 rfl) (Nat.le_of_ble_eq_true rfl) (Nat.le_of_ble_eq_true rfl) rfl (fun hh4 gX4 gE4 gD4 => ?_)
  have gA5 := gA3.ext gX4
  obtain ⟨tb, g4⟩ : ∃ z, z = hh2.size := ⟨_, rfl⟩
  rw [← g4] at gE4 gD4 ⊢
  have gF6 := gD4 (Or.inr (wd hw 12 rfl)) (ty := (.array .long)) (by decide)
  have gF7 := gD4 (Or.inr (wd hw 15 rfl)) (ty := (.array .int)) (by decide)
  have gF8 := gD4 (Or.inr (wd hw 18 rfl)) (ty := (.array .double)) (by decide)
  have ga_tb : n0 ≤ tb := by have := Zs_hh2; omega
  have lt_aA_tb : @LT.lt Nat _ aA tb := Nat.lt_of_lt_of_le gA3.lt (Nat.le_of_eq g4.symm)
  have ne_aA_tb : aA ≠ tb := Nat.ne_of_lt lt_aA_tb
  have ne_tb_aA : tb ≠ aA := fun z => ne_aA_tb z.symm
  refine g_dup 64 at_63 rfl rfl ?_
  refine g_aload 66 at_64 rfl rfl rfl ?_
  refine g_callN 69 (N := M_ai) [(.ref aA)] [(.ref tb)] at_66 rfl rfl (wd hw 5 rfl) (wd hw 6 rfl) (wd hw 4 rfl) (wd hw 7 rfl) (by decide) (c_ai l Z a0 hw n0 hh4 tb aA [b0] (by simp) ga_tb ne_tb_aA ne_aA_tb _ gE4 gF6 gF7 gF8 gA5) rfl pd_ai rfl rfl (Nat.le_of_ble_eq_true rfl) (Nat.le_of_ble_eq_true rfl) (Nat.le_of_ble_eq_true rfl) (Nat.le_of_ble_eq_true rfl) rfl ?_
  rintro v hc ⟨rfl, Ec, Fc1, Ac, aP, Fc2, Pc⟩
  show Go _ _ _ _ _ _ _ _ _ 69 #[.val (.long b0), .second, .val (.long b1), .second, .val (.long b2), .second, .val (.long b3), .second, .val (.int ix), .val (.int cn), .val (.int (1 : Int32)), .val (.ref aA), .unset, .unset, .unset, .unset, .unset] [(.ref tb)]
  refine g_astore 71 #[.val (.long b0), .second, .val (.long b1), .second, .val (.long b2), .second, .val (.long b3), .second, .val (.int ix), .val (.int cn), .val (.int (1 : Int32)), .val (.ref aA), .val (.ref tb), .unset, .unset, .unset, .unset] at_69 rfl rfl rfl ?_
  refine g_aload 73 at_71 rfl rfl rfl ?_
  refine g_iload 75 at_73 rfl rfl ?_
  refine g_callV 78 (N := M_st) [(.int ix)] [] at_75 (wd hw 24 rfl) (wd hw 26 rfl) (wd hw 4 rfl) (wd hw 28 rfl) (wd hw 25 rfl) (wd hw 27 rfl) Ec (by decide) (c_st l Z a0 hw n0 hc tb aA ix [b0] (by simp) Fc1 Ac) rfl pd_st rfl rfl (Nat.le_of_ble_eq_true rfl) (Nat.le_of_ble_eq_true rfl) (Nat.le_of_ble_eq_true rfl) (Nat.le_of_ble_eq_true rfl) rfl ?_
  rintro v hd rfl
  show Go _ _ _ _ _ _ _ _ _ 78 #[.val (.long b0), .second, .val (.long b1), .second, .val (.long b2), .second, .val (.long b3), .second, .val (.int ix), .val (.int cn), .val (.int (1 : Int32)), .val (.ref aA), .val (.ref tb), .unset, .unset, .unset, .unset] [(.long (sF ix 0 0 [b0]))]
  refine g_lstore 80 #[.val (.long b0), .second, .val (.long b1), .second, .val (.long b2), .second, .val (.long b3), .second, .val (.int ix), .val (.int cn), .val (.int (1 : Int32)), .val (.ref aA), .val (.ref tb), .val (.long (sF ix 0 0 [b0])), .second, .unset, .unset] at_78 rfl rfl ?_
  refine g_lconst 81 (0 : Int64) at_80 rfl rfl ?_
  refine g_lstore 83 #[.val (.long b0), .second, .val (.long b1), .second, .val (.long b2), .second, .val (.long b3), .second, .val (.int ix), .val (.int cn), .val (.int (1 : Int32)), .val (.ref aA), .val (.ref tb), .val (.long (sF ix 0 0 [b0])), .second, .val (.long (0 : Int64)), .second] at_81 rfl rfl ?_
  exact k83 l Z a0 hw n0 hd _ _ (Nat.le_of_ble_eq_true rfl) (Nat.le_of_ble_eq_true rfl) b0 b1 b2 b3 ix cn (1 : Int32) aA tb _ _ (by simp only [sF, fB]; first | rfl | (rw [if_pos (by decide)]; rfl))
set_option maxRecDepth 65536 in
set_option maxHeartbeats 40000000 in
theorem k9_2 (l : Launch) (Z : State) (a0 : Array Value) (hw : ∀ d ∈ tables_1, d.before a0 Z = true) (n0 : Nat) (h0 : Heap) (b0 b1 b2 b3 : Int64) (ix cn : Int32) : Go l Z n0 M_law room_1 (fun v _ => v = some (.int 1)) h0 0 0 9 #[.val (.long b0), .second, .val (.long b1), .second, .val (.long b2), .second, .val (.long b3), .second, .val (.int ix), .val (.int cn), .val (.int (2 : Int32)), .unset, .unset, .unset, .unset, .unset, .unset] [] := by
  refine g_iload 11 at_9 rfl rfl ?_
  refine g_sz (fun Zs_h0 => ?_)
  refine g_mkA 13 at_11 (wd hw 1 rfl) rfl (by decide) 4 (by decide) (by decide) (Nat.le_of_ble_eq_true rfl) (Nat.le_of_ble_eq_true rfl) rfl (fun hh1 cA1 gX1 gB1 => ?_)
  have gA1 := Ary.fresh gB1 2 rfl
  obtain ⟨aA, g1⟩ : ∃ z, z = h0.size := ⟨_, rfl⟩
  rw [← g1] at gA1 ⊢
  have ga_aA : n0 ≤ aA := by have := Zs_h0; omega
  refine g_astore 15 #[.val (.long b0), .second, .val (.long b1), .second, .val (.long b2), .second, .val (.long b3), .second, .val (.int ix), .val (.int cn), .val (.int (2 : Int32)), .val (.ref aA), .unset, .unset, .unset, .unset, .unset] at_13 rfl rfl rfl ?_
  refine g_iload 17 at_15 rfl rfl ?_
  refine g_ifF 20 at_17 (fun z => z (by decide)) rfl ?_
  refine g_aload 22 at_20 rfl rfl rfl ?_
  refine g_iconst 23 (0 : Int32) at_22 rfl rfl ?_
  refine g_lload_n 24 at_23 rfl rfl ?_
  refine g_astoreJ 25 0 at_24 gA1 rfl (by simp) ga_aA rfl (fun hh2 gW2 => ?_)
  have gA3 := gA1.set gW2
  refine g_iload 27 at_25 rfl rfl ?_
  refine g_iconst 28 (1 : Int32) at_27 rfl rfl ?_
  refine g_icmpF 31 at_28 (fun z => z (by decide)) rfl ?_
  refine g_aload 33 at_31 rfl rfl rfl ?_
  refine g_iconst 34 (1 : Int32) at_33 rfl rfl ?_
  refine g_lload_n 35 at_34 rfl rfl ?_
  refine g_astoreJ 36 1 at_35 gA3 rfl (by simp) ga_aA rfl (fun hh4 gW4 => ?_)
  have gA5 := gA3.set gW4
  refine g_iload 38 at_36 rfl rfl ?_
  refine g_iconst 39 (2 : Int32) at_38 rfl rfl ?_
  refine g_icmpT 48 at_39 (by show ¬ _; decide) rfl ?_
  refine g_iload 50 at_48 rfl rfl ?_
  refine g_iconst 51 (3 : Int32) at_50 rfl rfl ?_
  refine g_icmpT 60 at_51 (by show ¬ _; decide) rfl ?_
  refine g_sz (fun Zs_hh4 => ?_)
  refine g_new 63 at_60 (wd hw 2 rfl) (wd hw 3 rfl) (wd hw 4 rfl) (Nat.le_of_ble_eq_true rfl) (Nat.le_of_ble_eq_true rfl) rfl (fun hh6 gX6 gE6 gD6 => ?_)
  have gA7 := gA5.ext gX6
  obtain ⟨tb, g6⟩ : ∃ z, z = hh4.size := ⟨_, rfl⟩
  rw [← g6] at gE6 gD6 ⊢
  have gF8 := gD6 (Or.inr (wd hw 12 rfl)) (ty := (.array .long)) (by decide)
  have gF9 := gD6 (Or.inr (wd hw 15 rfl)) (ty := (.array .int)) (by decide)
  have gF10 := gD6 (Or.inr (wd hw 18 rfl)) (ty := (.array .double)) (by decide)
  have ga_tb : n0 ≤ tb := by have := Zs_hh4; omega
  have lt_aA_tb : @LT.lt Nat _ aA tb := Nat.lt_of_lt_of_le gA5.lt (Nat.le_of_eq g6.symm)
  have ne_aA_tb : aA ≠ tb := Nat.ne_of_lt lt_aA_tb
  have ne_tb_aA : tb ≠ aA := fun z => ne_aA_tb z.symm
  refine g_dup 64 at_63 rfl rfl ?_
  refine g_aload 66 at_64 rfl rfl rfl ?_
  refine g_callN 69 (N := M_ai) [(.ref aA)] [(.ref tb)] at_66 rfl rfl (wd hw 5 rfl) (wd hw 6 rfl) (wd hw 4 rfl) (wd hw 7 rfl) (by decide) (c_ai l Z a0 hw n0 hh6 tb aA [b0, b1] (by simp) ga_tb ne_tb_aA ne_aA_tb _ gE6 gF8 gF9 gF10 gA7) rfl pd_ai rfl rfl (Nat.le_of_ble_eq_true rfl) (Nat.le_of_ble_eq_true rfl) (Nat.le_of_ble_eq_true rfl) (Nat.le_of_ble_eq_true rfl) rfl ?_
  rintro v hc ⟨rfl, Ec, Fc1, Ac, aP, Fc2, Pc⟩
  show Go _ _ _ _ _ _ _ _ _ 69 #[.val (.long b0), .second, .val (.long b1), .second, .val (.long b2), .second, .val (.long b3), .second, .val (.int ix), .val (.int cn), .val (.int (2 : Int32)), .val (.ref aA), .unset, .unset, .unset, .unset, .unset] [(.ref tb)]
  refine g_astore 71 #[.val (.long b0), .second, .val (.long b1), .second, .val (.long b2), .second, .val (.long b3), .second, .val (.int ix), .val (.int cn), .val (.int (2 : Int32)), .val (.ref aA), .val (.ref tb), .unset, .unset, .unset, .unset] at_69 rfl rfl rfl ?_
  refine g_aload 73 at_71 rfl rfl rfl ?_
  refine g_iload 75 at_73 rfl rfl ?_
  refine g_callV 78 (N := M_st) [(.int ix)] [] at_75 (wd hw 24 rfl) (wd hw 26 rfl) (wd hw 4 rfl) (wd hw 28 rfl) (wd hw 25 rfl) (wd hw 27 rfl) Ec (by decide) (c_st l Z a0 hw n0 hc tb aA ix [b0, b1] (by simp) Fc1 Ac) rfl pd_st rfl rfl (Nat.le_of_ble_eq_true rfl) (Nat.le_of_ble_eq_true rfl) (Nat.le_of_ble_eq_true rfl) (Nat.le_of_ble_eq_true rfl) rfl ?_
  rintro v hd rfl
  show Go _ _ _ _ _ _ _ _ _ 78 #[.val (.long b0), .second, .val (.long b1), .second, .val (.long b2), .second, .val (.long b3), .second, .val (.int ix), .val (.int cn), .val (.int (2 : Int32)), .val (.ref aA), .val (.ref tb), .unset, .unset, .unset, .unset] [(.long (sF ix 0 0 [b0, b1]))]
  refine g_lstore 80 #[.val (.long b0), .second, .val (.long b1), .second, .val (.long b2), .second, .val (.long b3), .second, .val (.int ix), .val (.int cn), .val (.int (2 : Int32)), .val (.ref aA), .val (.ref tb), .val (.long (sF ix 0 0 [b0, b1])), .second, .unset, .unset] at_78 rfl rfl ?_
  refine g_lconst 81 (0 : Int64) at_80 rfl rfl ?_
  refine g_lstore 83 #[.val (.long b0), .second, .val (.long b1), .second, .val (.long b2), .second, .val (.long b3), .second, .val (.int ix), .val (.int cn), .val (.int (2 : Int32)), .val (.ref aA), .val (.ref tb), .val (.long (sF ix 0 0 [b0, b1])), .second, .val (.long (0 : Int64)), .second] at_81 rfl rfl ?_
  exact k83 l Z a0 hw n0 hd _ _ (Nat.le_of_ble_eq_true rfl) (Nat.le_of_ble_eq_true rfl) b0 b1 b2 b3 ix cn (2 : Int32) aA tb _ _ (by simp only [sF, fB]; first | rfl | (rw [if_pos (by decide)]; rfl))
set_option maxRecDepth 65536 in
set_option maxHeartbeats 40000000 in
theorem k9_3 (l : Launch) (Z : State) (a0 : Array Value) (hw : ∀ d ∈ tables_1, d.before a0 Z = true) (n0 : Nat) (h0 : Heap) (b0 b1 b2 b3 : Int64) (ix cn : Int32) : Go l Z n0 M_law room_1 (fun v _ => v = some (.int 1)) h0 0 0 9 #[.val (.long b0), .second, .val (.long b1), .second, .val (.long b2), .second, .val (.long b3), .second, .val (.int ix), .val (.int cn), .val (.int (3 : Int32)), .unset, .unset, .unset, .unset, .unset, .unset] [] := by
  refine g_iload 11 at_9 rfl rfl ?_
  refine g_sz (fun Zs_h0 => ?_)
  refine g_mkA 13 at_11 (wd hw 1 rfl) rfl (by decide) 4 (by decide) (by decide) (Nat.le_of_ble_eq_true rfl) (Nat.le_of_ble_eq_true rfl) rfl (fun hh1 cA1 gX1 gB1 => ?_)
  have gA1 := Ary.fresh gB1 3 rfl
  obtain ⟨aA, g1⟩ : ∃ z, z = h0.size := ⟨_, rfl⟩
  rw [← g1] at gA1 ⊢
  have ga_aA : n0 ≤ aA := by have := Zs_h0; omega
  refine g_astore 15 #[.val (.long b0), .second, .val (.long b1), .second, .val (.long b2), .second, .val (.long b3), .second, .val (.int ix), .val (.int cn), .val (.int (3 : Int32)), .val (.ref aA), .unset, .unset, .unset, .unset, .unset] at_13 rfl rfl rfl ?_
  refine g_iload 17 at_15 rfl rfl ?_
  refine g_ifF 20 at_17 (fun z => z (by decide)) rfl ?_
  refine g_aload 22 at_20 rfl rfl rfl ?_
  refine g_iconst 23 (0 : Int32) at_22 rfl rfl ?_
  refine g_lload_n 24 at_23 rfl rfl ?_
  refine g_astoreJ 25 0 at_24 gA1 rfl (by simp) ga_aA rfl (fun hh2 gW2 => ?_)
  have gA3 := gA1.set gW2
  refine g_iload 27 at_25 rfl rfl ?_
  refine g_iconst 28 (1 : Int32) at_27 rfl rfl ?_
  refine g_icmpF 31 at_28 (fun z => z (by decide)) rfl ?_
  refine g_aload 33 at_31 rfl rfl rfl ?_
  refine g_iconst 34 (1 : Int32) at_33 rfl rfl ?_
  refine g_lload_n 35 at_34 rfl rfl ?_
  refine g_astoreJ 36 1 at_35 gA3 rfl (by simp) ga_aA rfl (fun hh4 gW4 => ?_)
  have gA5 := gA3.set gW4
  refine g_iload 38 at_36 rfl rfl ?_
  refine g_iconst 39 (2 : Int32) at_38 rfl rfl ?_
  refine g_icmpF 42 at_39 (fun z => z (by decide)) rfl ?_
  refine g_aload 44 at_42 rfl rfl rfl ?_
  refine g_iconst 45 (2 : Int32) at_44 rfl rfl ?_
  refine g_lload 47 at_45 rfl rfl ?_
  refine g_astoreJ 48 2 at_47 gA5 rfl (by simp) ga_aA rfl (fun hh6 gW6 => ?_)
  have gA7 := gA5.set gW6
  refine g_iload 50 at_48 rfl rfl ?_
  refine g_iconst 51 (3 : Int32) at_50 rfl rfl ?_
  refine g_icmpT 60 at_51 (by show ¬ _; decide) rfl ?_
  refine g_sz (fun Zs_hh6 => ?_)
  refine g_new 63 at_60 (wd hw 2 rfl) (wd hw 3 rfl) (wd hw 4 rfl) (Nat.le_of_ble_eq_true rfl) (Nat.le_of_ble_eq_true rfl) rfl (fun hh8 gX8 gE8 gD8 => ?_)
  have gA9 := gA7.ext gX8
  obtain ⟨tb, g8⟩ : ∃ z, z = hh6.size := ⟨_, rfl⟩
  rw [← g8] at gE8 gD8 ⊢
  have gF10 := gD8 (Or.inr (wd hw 12 rfl)) (ty := (.array .long)) (by decide)
  have gF11 := gD8 (Or.inr (wd hw 15 rfl)) (ty := (.array .int)) (by decide)
  have gF12 := gD8 (Or.inr (wd hw 18 rfl)) (ty := (.array .double)) (by decide)
  have ga_tb : n0 ≤ tb := by have := Zs_hh6; omega
  have lt_aA_tb : @LT.lt Nat _ aA tb := Nat.lt_of_lt_of_le gA7.lt (Nat.le_of_eq g8.symm)
  have ne_aA_tb : aA ≠ tb := Nat.ne_of_lt lt_aA_tb
  have ne_tb_aA : tb ≠ aA := fun z => ne_aA_tb z.symm
  refine g_dup 64 at_63 rfl rfl ?_
  refine g_aload 66 at_64 rfl rfl rfl ?_
  refine g_callN 69 (N := M_ai) [(.ref aA)] [(.ref tb)] at_66 rfl rfl (wd hw 5 rfl) (wd hw 6 rfl) (wd hw 4 rfl) (wd hw 7 rfl) (by decide) (c_ai l Z a0 hw n0 hh8 tb aA [b0, b1, b2] (by simp) ga_tb ne_tb_aA ne_aA_tb _ gE8 gF10 gF11 gF12 gA9) rfl pd_ai rfl rfl (Nat.le_of_ble_eq_true rfl) (Nat.le_of_ble_eq_true rfl) (Nat.le_of_ble_eq_true rfl) (Nat.le_of_ble_eq_true rfl) rfl ?_
  rintro v hc ⟨rfl, Ec, Fc1, Ac, aP, Fc2, Pc⟩
  show Go _ _ _ _ _ _ _ _ _ 69 #[.val (.long b0), .second, .val (.long b1), .second, .val (.long b2), .second, .val (.long b3), .second, .val (.int ix), .val (.int cn), .val (.int (3 : Int32)), .val (.ref aA), .unset, .unset, .unset, .unset, .unset] [(.ref tb)]
  refine g_astore 71 #[.val (.long b0), .second, .val (.long b1), .second, .val (.long b2), .second, .val (.long b3), .second, .val (.int ix), .val (.int cn), .val (.int (3 : Int32)), .val (.ref aA), .val (.ref tb), .unset, .unset, .unset, .unset] at_69 rfl rfl rfl ?_
  refine g_aload 73 at_71 rfl rfl rfl ?_
  refine g_iload 75 at_73 rfl rfl ?_
  refine g_callV 78 (N := M_st) [(.int ix)] [] at_75 (wd hw 24 rfl) (wd hw 26 rfl) (wd hw 4 rfl) (wd hw 28 rfl) (wd hw 25 rfl) (wd hw 27 rfl) Ec (by decide) (c_st l Z a0 hw n0 hc tb aA ix [b0, b1, b2] (by simp) Fc1 Ac) rfl pd_st rfl rfl (Nat.le_of_ble_eq_true rfl) (Nat.le_of_ble_eq_true rfl) (Nat.le_of_ble_eq_true rfl) (Nat.le_of_ble_eq_true rfl) rfl ?_
  rintro v hd rfl
  show Go _ _ _ _ _ _ _ _ _ 78 #[.val (.long b0), .second, .val (.long b1), .second, .val (.long b2), .second, .val (.long b3), .second, .val (.int ix), .val (.int cn), .val (.int (3 : Int32)), .val (.ref aA), .val (.ref tb), .unset, .unset, .unset, .unset] [(.long (sF ix 0 0 [b0, b1, b2]))]
  refine g_lstore 80 #[.val (.long b0), .second, .val (.long b1), .second, .val (.long b2), .second, .val (.long b3), .second, .val (.int ix), .val (.int cn), .val (.int (3 : Int32)), .val (.ref aA), .val (.ref tb), .val (.long (sF ix 0 0 [b0, b1, b2])), .second, .unset, .unset] at_78 rfl rfl ?_
  refine g_lconst 81 (0 : Int64) at_80 rfl rfl ?_
  refine g_lstore 83 #[.val (.long b0), .second, .val (.long b1), .second, .val (.long b2), .second, .val (.long b3), .second, .val (.int ix), .val (.int cn), .val (.int (3 : Int32)), .val (.ref aA), .val (.ref tb), .val (.long (sF ix 0 0 [b0, b1, b2])), .second, .val (.long (0 : Int64)), .second] at_81 rfl rfl ?_
  exact k83 l Z a0 hw n0 hd _ _ (Nat.le_of_ble_eq_true rfl) (Nat.le_of_ble_eq_true rfl) b0 b1 b2 b3 ix cn (3 : Int32) aA tb _ _ (by simp only [sF, fB]; first | rfl | (rw [if_pos (by decide)]; rfl))
set_option maxRecDepth 65536 in
set_option maxHeartbeats 40000000 in
theorem k9_4 (l : Launch) (Z : State) (a0 : Array Value) (hw : ∀ d ∈ tables_1, d.before a0 Z = true) (n0 : Nat) (h0 : Heap) (b0 b1 b2 b3 : Int64) (ix cn : Int32) : Go l Z n0 M_law room_1 (fun v _ => v = some (.int 1)) h0 0 0 9 #[.val (.long b0), .second, .val (.long b1), .second, .val (.long b2), .second, .val (.long b3), .second, .val (.int ix), .val (.int cn), .val (.int (4 : Int32)), .unset, .unset, .unset, .unset, .unset, .unset] [] := by
  refine g_iload 11 at_9 rfl rfl ?_
  refine g_sz (fun Zs_h0 => ?_)
  refine g_mkA 13 at_11 (wd hw 1 rfl) rfl (by decide) 4 (by decide) (by decide) (Nat.le_of_ble_eq_true rfl) (Nat.le_of_ble_eq_true rfl) rfl (fun hh1 cA1 gX1 gB1 => ?_)
  have gA1 := Ary.fresh gB1 4 rfl
  obtain ⟨aA, g1⟩ : ∃ z, z = h0.size := ⟨_, rfl⟩
  rw [← g1] at gA1 ⊢
  have ga_aA : n0 ≤ aA := by have := Zs_h0; omega
  refine g_astore 15 #[.val (.long b0), .second, .val (.long b1), .second, .val (.long b2), .second, .val (.long b3), .second, .val (.int ix), .val (.int cn), .val (.int (4 : Int32)), .val (.ref aA), .unset, .unset, .unset, .unset, .unset] at_13 rfl rfl rfl ?_
  refine g_iload 17 at_15 rfl rfl ?_
  refine g_ifF 20 at_17 (fun z => z (by decide)) rfl ?_
  refine g_aload 22 at_20 rfl rfl rfl ?_
  refine g_iconst 23 (0 : Int32) at_22 rfl rfl ?_
  refine g_lload_n 24 at_23 rfl rfl ?_
  refine g_astoreJ 25 0 at_24 gA1 rfl (by simp) ga_aA rfl (fun hh2 gW2 => ?_)
  have gA3 := gA1.set gW2
  refine g_iload 27 at_25 rfl rfl ?_
  refine g_iconst 28 (1 : Int32) at_27 rfl rfl ?_
  refine g_icmpF 31 at_28 (fun z => z (by decide)) rfl ?_
  refine g_aload 33 at_31 rfl rfl rfl ?_
  refine g_iconst 34 (1 : Int32) at_33 rfl rfl ?_
  refine g_lload_n 35 at_34 rfl rfl ?_
  refine g_astoreJ 36 1 at_35 gA3 rfl (by simp) ga_aA rfl (fun hh4 gW4 => ?_)
  have gA5 := gA3.set gW4
  refine g_iload 38 at_36 rfl rfl ?_
  refine g_iconst 39 (2 : Int32) at_38 rfl rfl ?_
  refine g_icmpF 42 at_39 (fun z => z (by decide)) rfl ?_
  refine g_aload 44 at_42 rfl rfl rfl ?_
  refine g_iconst 45 (2 : Int32) at_44 rfl rfl ?_
  refine g_lload 47 at_45 rfl rfl ?_
  refine g_astoreJ 48 2 at_47 gA5 rfl (by simp) ga_aA rfl (fun hh6 gW6 => ?_)
  have gA7 := gA5.set gW6
  refine g_iload 50 at_48 rfl rfl ?_
  refine g_iconst 51 (3 : Int32) at_50 rfl rfl ?_
  refine g_icmpF 54 at_51 (fun z => z (by decide)) rfl ?_
  refine g_aload 56 at_54 rfl rfl rfl ?_
  refine g_iconst 57 (3 : Int32) at_56 rfl rfl ?_
  refine g_lload 59 at_57 rfl rfl ?_
  refine g_astoreJ 60 3 at_59 gA7 rfl (by simp) ga_aA rfl (fun hh8 gW8 => ?_)
  have gA9 := gA7.set gW8
  refine g_sz (fun Zs_hh8 => ?_)
  refine g_new 63 at_60 (wd hw 2 rfl) (wd hw 3 rfl) (wd hw 4 rfl) (Nat.le_of_ble_eq_true rfl) (Nat.le_of_ble_eq_true rfl) rfl (fun hh10 gX10 gE10 gD10 => ?_)
  have gA11 := gA9.ext gX10
  obtain ⟨tb, g10⟩ : ∃ z, z = hh8.size := ⟨_, rfl⟩
  rw [← g10] at gE10 gD10 ⊢
  have gF12 := gD10 (Or.inr (wd hw 12 rfl)) (ty := (.array .long)) (by decide)
  have gF13 := gD10 (Or.inr (wd hw 15 rfl)) (ty := (.array .int)) (by decide)
  have gF14 := gD10 (Or.inr (wd hw 18 rfl)) (ty := (.array .double)) (by decide)
  have ga_tb : n0 ≤ tb := by have := Zs_hh8; omega
  have lt_aA_tb : @LT.lt Nat _ aA tb := Nat.lt_of_lt_of_le gA9.lt (Nat.le_of_eq g10.symm)
  have ne_aA_tb : aA ≠ tb := Nat.ne_of_lt lt_aA_tb
  have ne_tb_aA : tb ≠ aA := fun z => ne_aA_tb z.symm
  refine g_dup 64 at_63 rfl rfl ?_
  refine g_aload 66 at_64 rfl rfl rfl ?_
  refine g_callN 69 (N := M_ai) [(.ref aA)] [(.ref tb)] at_66 rfl rfl (wd hw 5 rfl) (wd hw 6 rfl) (wd hw 4 rfl) (wd hw 7 rfl) (by decide) (c_ai l Z a0 hw n0 hh10 tb aA [b0, b1, b2, b3] (by simp) ga_tb ne_tb_aA ne_aA_tb _ gE10 gF12 gF13 gF14 gA11) rfl pd_ai rfl rfl (Nat.le_of_ble_eq_true rfl) (Nat.le_of_ble_eq_true rfl) (Nat.le_of_ble_eq_true rfl) (Nat.le_of_ble_eq_true rfl) rfl ?_
  rintro v hc ⟨rfl, Ec, Fc1, Ac, aP, Fc2, Pc⟩
  show Go _ _ _ _ _ _ _ _ _ 69 #[.val (.long b0), .second, .val (.long b1), .second, .val (.long b2), .second, .val (.long b3), .second, .val (.int ix), .val (.int cn), .val (.int (4 : Int32)), .val (.ref aA), .unset, .unset, .unset, .unset, .unset] [(.ref tb)]
  refine g_astore 71 #[.val (.long b0), .second, .val (.long b1), .second, .val (.long b2), .second, .val (.long b3), .second, .val (.int ix), .val (.int cn), .val (.int (4 : Int32)), .val (.ref aA), .val (.ref tb), .unset, .unset, .unset, .unset] at_69 rfl rfl rfl ?_
  refine g_aload 73 at_71 rfl rfl rfl ?_
  refine g_iload 75 at_73 rfl rfl ?_
  refine g_callV 78 (N := M_st) [(.int ix)] [] at_75 (wd hw 24 rfl) (wd hw 26 rfl) (wd hw 4 rfl) (wd hw 28 rfl) (wd hw 25 rfl) (wd hw 27 rfl) Ec (by decide) (c_st l Z a0 hw n0 hc tb aA ix [b0, b1, b2, b3] (by simp) Fc1 Ac) rfl pd_st rfl rfl (Nat.le_of_ble_eq_true rfl) (Nat.le_of_ble_eq_true rfl) (Nat.le_of_ble_eq_true rfl) (Nat.le_of_ble_eq_true rfl) rfl ?_
  rintro v hd rfl
  show Go _ _ _ _ _ _ _ _ _ 78 #[.val (.long b0), .second, .val (.long b1), .second, .val (.long b2), .second, .val (.long b3), .second, .val (.int ix), .val (.int cn), .val (.int (4 : Int32)), .val (.ref aA), .val (.ref tb), .unset, .unset, .unset, .unset] [(.long (sF ix 0 0 [b0, b1, b2, b3]))]
  refine g_lstore 80 #[.val (.long b0), .second, .val (.long b1), .second, .val (.long b2), .second, .val (.long b3), .second, .val (.int ix), .val (.int cn), .val (.int (4 : Int32)), .val (.ref aA), .val (.ref tb), .val (.long (sF ix 0 0 [b0, b1, b2, b3])), .second, .unset, .unset] at_78 rfl rfl ?_
  refine g_lconst 81 (0 : Int64) at_80 rfl rfl ?_
  refine g_lstore 83 #[.val (.long b0), .second, .val (.long b1), .second, .val (.long b2), .second, .val (.long b3), .second, .val (.int ix), .val (.int cn), .val (.int (4 : Int32)), .val (.ref aA), .val (.ref tb), .val (.long (sF ix 0 0 [b0, b1, b2, b3])), .second, .val (.long (0 : Int64)), .second] at_81 rfl rfl ?_
  exact k83 l Z a0 hw n0 hd _ _ (Nat.le_of_ble_eq_true rfl) (Nat.le_of_ble_eq_true rfl) b0 b1 b2 b3 ix cn (4 : Int32) aA tb _ _ (by simp only [sF, fB]; first | rfl | (rw [if_pos (by decide)]; rfl))
set_option maxRecDepth 65536 in
set_option maxHeartbeats 40000000 in
theorem c_law (l : Launch) (Z : State) (a0 : Array Value) (hw : ∀ d ∈ tables_1, d.before a0 Z = true) (n0 : Nat) (h0 : Heap) (b0 b1 b2 b3 : Int64) (ix cn : Int32) :
    Con l Z n0 M_law room_1 #[(.long b0), (.long b1), (.long b2), (.long b3), (.int ix), (.int cn)] h0 (fun v _ => v = some (.int 1)) := by
  refine con_intro pl_law #[.val (.long b0), .second, .val (.long b1), .second, .val (.long b2), .second, .val (.long b3), .second, .val (.int ix), .val (.int cn), .unset, .unset, .unset, .unset, .unset, .unset, .unset] (fun m => by first | rfl | (simp [entryFrame, mkF, argsToLocals, Value.category]; done)) (fun Zs_h0 => ?_)
  refine g_iload 2 at_0 rfl rfl ?_
  refine g_ldcI (w := 2147483647) 4 at_2 (wd hw 0 rfl) rfl ?_
  refine g_iand 5 at_4 rfl ?_
  refine g_iconst 6 (5 : Int32) at_5 rfl rfl ?_
  refine g_irem 7 at_6 (by decide) rfl ?_
  obtain ⟨k, hk, ek⟩ := own_rem cn 5 (by decide) (by decide)
  have ek2 : (cn &&& 2147483647) % (5 : Int32) = Int32.ofNat k := ek
  rw [ek2]
  refine g_istore 9 #[.val (.long b0), .second, .val (.long b1), .second, .val (.long b2), .second, .val (.long b3), .second, .val (.int ix), .val (.int cn), .val (.int (Int32.ofNat k)), .unset, .unset, .unset, .unset, .unset, .unset] at_7 rfl rfl ?_
  match k, hk with
  | 0, _ => exact k9_0 l Z a0 hw n0 h0 b0 b1 b2 b3 ix cn
  | 1, _ => exact k9_1 l Z a0 hw n0 h0 b0 b1 b2 b3 ix cn
  | 2, _ => exact k9_2 l Z a0 hw n0 h0 b0 b1 b2 b3 ix cn
  | 3, _ => exact k9_3 l Z a0 hw n0 h0 b0 b1 b2 b3 ix cn
  | 4, _ => exact k9_4 l Z a0 hw n0 h0 b0 b1 b2 b3 ix cn
set_option maxRecDepth 65536 in
set_option maxHeartbeats 40000000 in
theorem comes_1 {Post : Tables → Env → Array Value → State → Outcome → State → Prop} (hpost : ∀ tb e args s v u, (limb_1_1.after args s (.returned v) u = true ∧ limb_1_2.after args s (.returned v) u = true ∧ True) → FrameEnd s (.returned v) u (Jvm.fieldLocs frame_1_writes args s ++ Jvm.arrayLocs frame_1_arrays args s ++ Jvm.staticLocs frame_1_statics s) 16 128 → Post tb e args s (.returned v) u) :
    ArmFor flags0 classFile x code maxLocals ret World_1 tables_1 room_1 Calls_1 rest_1 Pre_1 Post := by
  intro l hfl _ _ p e ha hc hk s m args below hf hA hF happ hP
  obtain ⟨hcalls, hrest, hpre⟩ := hP
  obtain ⟨-, -, -, hnamed, -, -, -, hat⟩ := (Spec.applies_iff hf).mp happ
  obtain ⟨hg, hn⟩ := and_e (Cond.before_iff.mp (show (Jvm.Cond.and given_1 narrow_1).before args s = true from hpre))
  obtain ⟨h1, k0⟩ := and_e hg
  obtain ⟨j0, k1⟩ := and_e k0
  obtain ⟨j1, k2⟩ := and_e k1
  obtain ⟨j2, k3⟩ := and_e k2
  obtain ⟨j3, k4⟩ := and_e k3
  obtain ⟨j4, k5⟩ := and_e k4
  obtain ⟨w0, w1, w2, w3, w4, w5, rfl⟩ : ∃ w0 w1 w2 w3 w4 w5 : Value, args = #[w0, w1, w2, w3, w4, w5] := by
    have hs : args.size = 6 := by simpa [Cond.value, given_1] using h1
    obtain ⟨L⟩ := args
    match L, hs with
    | [w0, w1, w2, w3, w4, w5], _ => exact ⟨w0, w1, w2, w3, w4, w5, rfl⟩
  have hw := fun d (hd : d ∈ tables_1) => atoms_spec (ws := Jvm.Cond.code x code maxLocals ret :: tables_1) hat d (List.mem_cons_of_mem _ hd)
  obtain ⟨i0, e0⟩ := isL_v j0
  obtain rfl : w0 = (.long i0) := Option.some.inj e0
  obtain ⟨i1, e1⟩ := isL_v j1
  obtain rfl : w1 = (.long i1) := Option.some.inj e1
  obtain ⟨i2, e2⟩ := isL_v j2
  obtain rfl : w2 = (.long i2) := Option.some.inj e2
  obtain ⟨i3, e3⟩ := isL_v j3
  obtain rfl : w3 = (.long i3) := Option.some.inj e3
  obtain ⟨i4, e4⟩ := is_v j4
  obtain rfl : w4 = (.int i4) := Option.some.inj e4
  obtain ⟨i5, e5⟩ := is_v k5
  obtain rfl : w5 = (.int i5) := Option.some.inj e5
  obtain ⟨n, o, h1, h2, h3, _, L, rfl, ⟨rfl, N⟩, hq⟩ := c_law l s _ hw s.heap.size s.heap i0 i1 i2 i3 i4 i5 (Nat.le_refl _) tables_1 p e ha hc hk s m _ below hf ((Spec.applies_iff_loose hf).mp happ).1 ⟨rfl, State.Warmed39.refl s, rfl⟩ trivial
  refine ⟨n, _, h1, h2, h3, hpost _ _ _ _ _ _ ⟨Cond.after_iff.mpr rfl, Cond.after_iff.mpr (eq_i res_at (Term.int_eval (1)) rfl), trivial⟩ ⟨hq.1, hq.2.1, (hq.2.2.sift fun y hy => Or.inr (N y hy)).mono (by decide) (by decide)⟩⟩
theorem main_1_1 : Claimed_1_1 := comes_1 fun _ _ _ _ _ _ h hF => ⟨h.1, hF⟩
theorem main_1_2 : Claimed_1_2 := comes_1 fun _ _ _ _ _ _ h hF => ⟨h.2.1, hF⟩
end Jvm.Pilot.@@N@@
namespace Jvm.Pilot.@@N@@
open Jvm Jvm.ClassFile Sem Op Lib Jvm.Free Jvm.Stand Jvm.Pilot.@@N@@.Jvm.D
/-! MADE BY PROGRAM (witnessworld.py) out of the Statement's table words and the real class files: 20 classes; the members and pool entries that the words name. The judged class is class 1, her method 1. -/
namespace start1
open Jvm.ClassFile
def u (s : String) : CpInfo := .utf8 (stringToUtf16 s)
/-- a pool by its gaps: so many unusable entries, then the entry; so many at the end -/
def gap : Nat → List CpInfo → List CpInfo
  | 0, r => r
  | n + 1, r => .unusable :: gap n r
def poolList (es : List (Nat × CpInfo)) (last : Nat) : List CpInfo := es.foldr (fun e r => gap e.1 (e.2 :: r)) (gap last [])
def pool (es : List (Nat × CpInfo)) (last : Nat) : Array CpInfo := ⟨poolList es last⟩
def fileOf (pool : Array CpInfo) (this : Nat) (attrs : Array Attribute := #[]) (ms : Array MethodInfo := #[]) (fl : Nat := 33) (sup : Nat := 0) (ifs : Array Nat := #[]) (fds : Array FieldInfo := #[]) : ClassFile where
  minorVersion := 0
  majorVersion := 65
  constantPool := pool
  accessFlags := fl
  thisClass := this
  superClass := sup
  interfaces := ifs
  fields := fds
  methods := ms
  attributes := attrs
def plain (name : String) (sup : Option ClassId) : Class where
  name := name
  kind := .ordinary
  loader := none
  accessFlags := 33
  super := sup
  interfaces := #[]
  cf := none
  fields := #[]
  methods := #[]
  instanceTypes := #[]
  staticTypes := #[]
  resolved := #[]
  callSites := []
  init := .initialized
  statics := none
  mirror := none

def pool0 : Array CpInfo := pool [(5, u "<init>"), (0, u "()V"), (1, .class_ 10), (1, u "java/lang/Object")] 113

def k0c0 : Code := { maxStack := 0, maxLocals := 1, code := object_method_1_code, exceptionTable := #[], attributes := #[] }
def k0m0 : Method := { name := "<init>", desc := "()V", sig := { parameters := [], returnType := none }, accessFlags := 1, code := some k0c0 }
/-- java/lang/Object -/
def k0 : Class := { plain "java/lang/Object" none with
  accessFlags := 33
  interfaces := #[]
  cf := some (fileOf pool0 8 #[] #[{ accessFlags := 1, nameIndex := 5, descriptorIndex := 6, attributes := #[] }] 33 0 #[] #[])
  fields := #[]
  methods := #[k0m0]
  instanceTypes := #[]
  staticTypes := #[]
  resolved := Array.replicate 124 none
  statics := none }

def pool1 : Array CpInfo := pool [(2, .class_ 4), (1, u "java/lang/Object"), (0, u "<init>"), (0, u "()V"), (0, .integer 2147483647), (0, .class_ 9), (0, u "com/example/lynceus/lynceus/AtomTable"), (0, .methodref 8 11), (0, .nameAndType 5 12), (0, u "([J)V"), (0, .methodref 8 14), (0, .nameAndType 15 16), (0, u "set"), (0, u "(I)J"), (0, .class_ 18), (0, u "com/example/lynceus/lynceus/AtomTableSetPinLaw"), (2, u "law"), (0, u "(JJJJII)Z")] 5

def k1m0 : Method := { name := "<init>", desc := "()V", sig := { parameters := [], returnType := none }, accessFlags := 1, code := none }
def k1c1 : Code := { maxStack := 4, maxLocals := 17, code := code, exceptionTable := #[], attributes := #[] }
def k1m1 : Method := { name := "law", desc := "(JJJJII)Z", sig := { parameters := [.long, .long, .long, .long, .int, .int], returnType := some .boolean }, accessFlags := 9, code := some k1c1 }
/-- com/example/lynceus/lynceus/AtomTableSetPinLaw -/
def k1 : Class := { plain "com/example/lynceus/lynceus/AtomTableSetPinLaw" (some 0) with
  accessFlags := 49
  interfaces := #[]
  cf := some (fileOf pool1 17 #[] #[{ accessFlags := 1, nameIndex := 5, descriptorIndex := 6, attributes := #[] }, { accessFlags := 9, nameIndex := 21, descriptorIndex := 22, attributes := #[] }] 49 2 #[] #[])
  fields := #[]
  methods := #[k1m0, k1m1]
  instanceTypes := #[]
  staticTypes := #[]
  resolved := Array.replicate 28 none
  statics := none }

def pool2 : Array CpInfo := pool [(1, .methodref 2 3), (0, .class_ 4), (0, .nameAndType 5 6), (0, u "java/lang/Object"), (0, u "<init>"), (0, u "()V"), (0, .fieldref 8 9), (0, .class_ 10), (0, .nameAndType 11 12), (0, u "com/example/lynceus/lynceus/AtomTable"), (0, u "atoms"), (0, u "[J"), (0, .fieldref 8 14), (0, .nameAndType 15 16), (0, u "places"), (0, u "[I"), (0, .methodref 18 19), (0, .class_ 20), (0, .nameAndType 21 22), (0, u "java/lang/Long"), (0, u "numberOfTrailingZeros"), (0, u "(J)I"), (0, .fieldref 8 24), (0, .nameAndType 25 26), (0, u "bests"), (0, u "[D"), (0, .double 13830554455654793216), (1, .methodref 30 31), (0, .class_ 32), (0, .nameAndType 33 34), (0, u "java/util/Arrays"), (0, u "fill"), (0, u "([DD)V"), (15, u "MOST_ATOMS"), (0, u "I"), (2, u "FEW_STEPS"), (0, u "J"), (0, u "([J)V"), (17, u "set"), (0, u "(I)J")] 2

def k2c0 : Code := { maxStack := 4, maxLocals := 3, code := prog_3_method_1_code, exceptionTable := #[], attributes := #[] }
def k2m0 : Method := { name := "<init>", desc := "([J)V", sig := { parameters := [(.array .long)], returnType := none }, accessFlags := 0, code := some k2c0 }
def k2c1 : Code := { maxStack := 6, maxLocals := 5, code := prog_3_method_10_code, exceptionTable := #[], attributes := #[] }
def k2m1 : Method := { name := "set", desc := "(I)J", sig := { parameters := [.int], returnType := some .long }, accessFlags := 0, code := some k2c1 }
/-- com/example/lynceus/lynceus/AtomTable -/
def k2 : Class := { plain "com/example/lynceus/lynceus/AtomTable" (some 0) with
  accessFlags := 32
  interfaces := #[]
  cf := some (fileOf pool2 8 #[] #[{ accessFlags := 0, nameIndex := 5, descriptorIndex := 56, attributes := #[] }, { accessFlags := 0, nameIndex := 74, descriptorIndex := 75, attributes := #[] }] 32 2 #[] #[{ accessFlags := 24, nameIndex := 50, descriptorIndex := 51, attributes := #[] }, { accessFlags := 26, nameIndex := 54, descriptorIndex := 55, attributes := #[] }, { accessFlags := 18, nameIndex := 11, descriptorIndex := 12, attributes := #[] }, { accessFlags := 18, nameIndex := 15, descriptorIndex := 16, attributes := #[] }, { accessFlags := 18, nameIndex := 25, descriptorIndex := 26, attributes := #[] }])
  fields := #[{ name := "MOST_ATOMS", type := .int, accessFlags := 24, slot := 0, constantValue := 0 }, { name := "FEW_STEPS", type := .long, accessFlags := 26, slot := 1, constantValue := 0 }, { name := "atoms", type := (.array .long), accessFlags := 18, slot := 0, constantValue := 0 }, { name := "places", type := (.array .int), accessFlags := 18, slot := 1, constantValue := 0 }, { name := "bests", type := (.array .double), accessFlags := 18, slot := 2, constantValue := 0 }]
  methods := #[k2m0, k2m1]
  instanceTypes := #[(.array .long), (.array .int), (.array .double)]
  staticTypes := #[.int, .long]
  resolved := Array.replicate 78 none
  statics := none }

def pool3 : Array CpInfo := pool [(2, .class_ 4), (1, u "java/lang/Object"), (0, u "<init>"), (0, u "()V"), (7, .class_ 16), (1, u "java/util/Arrays"), (57, .class_ 76), (1, u "java/util/Arrays$NaturalOrder"), (36, .class_ 115), (1, u "java/util/Arrays$LegacyMergeSort"), (1, u "Z"), (257, .class_ 376), (0, u "java/util/Arrays$ArrayList"), (68, u "$assertionsDisabled"), (269, u "MIN_ARRAY_SORT_GRAN"), (0, u "I"), (2, u "INSERTIONSORT_THRESHOLD"), (120, u "fill"), (13, u "([DD)V"), (120, .class_ 976), (0, u "java/util/Arrays$ArrayItr")] 52

def k3m0 : Method := { name := "<init>", desc := "()V", sig := { parameters := [], returnType := none }, accessFlags := 2, code := none }
def k3c1 : Code := { maxStack := 4, maxLocals := 5, code := jdk_65_method_113_code, exceptionTable := #[], attributes := #[] }
def k3m1 : Method := { name := "fill", desc := "([DD)V", sig := { parameters := [(.array .double), .double], returnType := none }, accessFlags := 9, code := some k3c1 }
/-- java/util/Arrays -/
def k3 : Class := { plain "java/util/Arrays" (some 0) with
  accessFlags := 49
  interfaces := #[]
  cf := some (fileOf pool3 14 #[.nestMembers #[975, 375, 113, 74]] #[{ accessFlags := 2, nameIndex := 5, descriptorIndex := 6, attributes := #[] }, { accessFlags := 9, nameIndex := 840, descriptorIndex := 854, attributes := #[] }] 49 2 #[] #[{ accessFlags := 26, nameIndex := 715, descriptorIndex := 716, attributes := #[] }, { accessFlags := 26, nameIndex := 719, descriptorIndex := 716, attributes := #[] }, { accessFlags := 4120, nameIndex := 445, descriptorIndex := 117, attributes := #[] }])
  fields := #[{ name := "MIN_ARRAY_SORT_GRAN", type := .int, accessFlags := 26, slot := 0, constantValue := 0 }, { name := "INSERTIONSORT_THRESHOLD", type := .int, accessFlags := 26, slot := 1, constantValue := 0 }, { name := "$assertionsDisabled", type := .boolean, accessFlags := 4120, slot := 2, constantValue := 0 }]
  methods := #[k3m0, k3m1]
  instanceTypes := #[]
  staticTypes := #[.int, .int, .boolean]
  resolved := Array.replicate 1029 none
  statics := none }

def pool4 : Array CpInfo := pool [(1, .class_ 2), (0, u "java/io/Serializable"), (0, .class_ 4), (0, u "java/lang/Object")] 2

/-- java/io/Serializable -/
def k4 : Class := { plain "java/io/Serializable" (some 0) with
  accessFlags := 1537
  interfaces := #[]
  cf := some (fileOf pool4 1 #[] #[] 1537 3 #[] #[])
  fields := #[]
  methods := #[]
  instanceTypes := #[]
  staticTypes := #[]
  resolved := Array.replicate 7 none
  statics := none }

def pool5 : Array CpInfo := pool [(2, .class_ 4), (1, u "java/lang/Object"), (0, u "<init>"), (0, u "()V"), (1, .class_ 10), (1, u "java/lang/Number"), (2, .class_ 14), (0, u "java/io/Serializable"), (0, u "serialVersionUID"), (0, u "J")] 20

def k5m0 : Method := { name := "<init>", desc := "()V", sig := { parameters := [], returnType := none }, accessFlags := 1, code := none }
/-- java/lang/Number -/
def k5 : Class := { plain "java/lang/Number" (some 0) with
  accessFlags := 1057
  interfaces := #[4]
  cf := some (fileOf pool5 8 #[] #[{ accessFlags := 1, nameIndex := 5, descriptorIndex := 6, attributes := #[] }] 1057 2 #[13] #[{ accessFlags := 26, nameIndex := 15, descriptorIndex := 16, attributes := #[] }])
  fields := #[{ name := "serialVersionUID", type := .long, accessFlags := 26, slot := 0, constantValue := 0 }]
  methods := #[k5m0]
  instanceTypes := #[]
  staticTypes := #[.long]
  resolved := Array.replicate 37 none
  statics := none }

def pool6 : Array CpInfo := pool [(1, .class_ 2), (0, u "java/lang/Comparable"), (0, .class_ 4), (0, u "java/lang/Object")] 7

/-- java/lang/Comparable -/
def k6 : Class := { plain "java/lang/Comparable" (some 0) with
  accessFlags := 1537
  interfaces := #[]
  cf := some (fileOf pool6 1 #[] #[] 1537 3 #[] #[])
  fields := #[]
  methods := #[]
  instanceTypes := #[]
  staticTypes := #[]
  resolved := Array.replicate 12 none
  statics := none }

def pool7 : Array CpInfo := pool [(1, .class_ 2), (0, u "java/lang/constant/Constable"), (0, .class_ 4), (0, u "java/lang/Object")] 6

/-- java/lang/constant/Constable -/
def k7 : Class := { plain "java/lang/constant/Constable" (some 0) with
  accessFlags := 1537
  interfaces := #[]
  cf := some (fileOf pool7 1 #[] #[] 1537 3 #[] #[])
  fields := #[]
  methods := #[]
  instanceTypes := #[]
  staticTypes := #[]
  resolved := Array.replicate 11 none
  statics := none }

def pool8 : Array CpInfo := pool [(1, .class_ 2), (0, u "java/lang/constant/ConstantDesc"), (0, .class_ 4), (0, u "java/lang/Object")] 32

/-- java/lang/constant/ConstantDesc -/
def k8 : Class := { plain "java/lang/constant/ConstantDesc" (some 0) with
  accessFlags := 1537
  interfaces := #[]
  cf := some (fileOf pool8 1 #[] #[] 1537 3 #[] #[])
  fields := #[]
  methods := #[]
  instanceTypes := #[]
  staticTypes := #[]
  resolved := Array.replicate 37 none
  statics := none }

def pool9 : Array CpInfo := pool [(1, .class_ 2), (0, u "java/lang/Long"), (15, .class_ 20), (1, u "java/lang/Integer"), (80, u "(J)I"), (133, .class_ 237), (1, u "java/lang/Long$LongCache"), (33, .class_ 272), (0, u "java/lang/Number"), (2, u "value"), (0, u "J"), (33, u "(I)I"), (0, .methodref 18 312), (0, .nameAndType 313 310), (0, u "numberOfTrailingZeros"), (47, u "TYPE"), (0, u "Ljava/lang/Class;"), (0, .class_ 364), (0, u "java/lang/Comparable"), (0, .class_ 366), (0, u "java/lang/constant/Constable"), (0, .class_ 368), (0, u "java/lang/constant/ConstantDesc"), (0, u "MIN_VALUE"), (1, u "MAX_VALUE"), (4, u "SIZE"), (0, u "I"), (1, u "BYTES"), (1, u "serialVersionUID")] 142

def k9c0 : Code := { maxStack := 4, maxLocals := 3, code := jdk_35_method_49_code, exceptionTable := #[], attributes := #[] }
def k9m0 : Method := { name := "numberOfTrailingZeros", desc := "(J)I", sig := { parameters := [.long], returnType := some .int }, accessFlags := 9, code := some k9c0 }
/-- java/lang/Long -/
def k9 : Class := { plain "java/lang/Long" (some 5) with
  accessFlags := 49
  interfaces := #[6, 7, 8]
  cf := some (fileOf pool9 1 #[.nestMembers #[235]] #[{ accessFlags := 9, nameIndex := 313, descriptorIndex := 101, attributes := #[] }] 49 271 #[363, 365, 367] #[{ accessFlags := 25, nameIndex := 369, descriptorIndex := 276, attributes := #[] }, { accessFlags := 25, nameIndex := 371, descriptorIndex := 276, attributes := #[] }, { accessFlags := 25, nameIndex := 361, descriptorIndex := 362, attributes := #[] }, { accessFlags := 18, nameIndex := 275, descriptorIndex := 276, attributes := #[] }, { accessFlags := 25, nameIndex := 376, descriptorIndex := 377, attributes := #[] }, { accessFlags := 25, nameIndex := 379, descriptorIndex := 377, attributes := #[] }, { accessFlags := 26, nameIndex := 381, descriptorIndex := 276, attributes := #[] }])
  fields := #[{ name := "MIN_VALUE", type := .long, accessFlags := 25, slot := 0, constantValue := 0 }, { name := "MAX_VALUE", type := .long, accessFlags := 25, slot := 1, constantValue := 0 }, { name := "TYPE", type := (.object "java/lang/Class"), accessFlags := 25, slot := 2, constantValue := 0 }, { name := "value", type := .long, accessFlags := 18, slot := 0, constantValue := 0 }, { name := "SIZE", type := .int, accessFlags := 25, slot := 3, constantValue := 0 }, { name := "BYTES", type := .int, accessFlags := 25, slot := 4, constantValue := 0 }, { name := "serialVersionUID", type := .long, accessFlags := 26, slot := 5, constantValue := 0 }]
  methods := #[k9m0]
  instanceTypes := #[.long]
  staticTypes := #[.long, .long, (.object "java/lang/Class"), .int, .int, .long]
  resolved := Array.replicate 524 none
  statics := none }

def pool10 : Array CpInfo := pool [(1, .class_ 2), (0, u "java/lang/Integer"), (16, u "digits"), (0, u "[C"), (33, u "(I)I"), (30, u "DigitOnes"), (0, u "[B"), (2, u "DigitTens"), (99, .class_ 190), (0, u "java/lang/Integer$IntegerCache"), (3, u "I"), (8, .class_ 204), (0, u "java/lang/Number"), (2, u "value"), (56, .integer 65536), (37, u "TYPE"), (0, u "Ljava/lang/Class;"), (0, .class_ 305), (0, u "java/lang/Comparable"), (0, .class_ 307), (0, u "java/lang/constant/Constable"), (0, .class_ 309), (0, u "java/lang/constant/ConstantDesc"), (0, u "MIN_VALUE"), (1, u "MAX_VALUE"), (3, u "SIZE"), (1, u "BYTES"), (1, u "serialVersionUID"), (0, u "J"), (84, u "numberOfTrailingZeros")] 46

def k10c0 : Code := { maxStack := 3, maxLocals := 2, code := jdk_33_method_48_code, exceptionTable := #[], attributes := #[] }
def k10m0 : Method := { name := "numberOfTrailingZeros", desc := "(I)I", sig := { parameters := [.int], returnType := some .int }, accessFlags := 9, code := some k10c0 }
/-- java/lang/Integer -/
def k10 : Class := { plain "java/lang/Integer" (some 5) with
  accessFlags := 49
  interfaces := #[6, 7, 8]
  cf := some (fileOf pool10 1 #[.nestMembers #[189]] #[{ accessFlags := 9, nameIndex := 406, descriptorIndex := 54, attributes := #[] }] 49 203 #[304, 306, 308] #[{ accessFlags := 25, nameIndex := 310, descriptorIndex := 194, attributes := #[] }, { accessFlags := 25, nameIndex := 312, descriptorIndex := 194, attributes := #[] }, { accessFlags := 25, nameIndex := 302, descriptorIndex := 303, attributes := #[] }, { accessFlags := 24, nameIndex := 19, descriptorIndex := 20, attributes := #[] }, { accessFlags := 24, nameIndex := 89, descriptorIndex := 86, attributes := #[] }, { accessFlags := 24, nameIndex := 85, descriptorIndex := 86, attributes := #[] }, { accessFlags := 18, nameIndex := 207, descriptorIndex := 194, attributes := #[] }, { accessFlags := 25, nameIndex := 316, descriptorIndex := 194, attributes := #[] }, { accessFlags := 25, nameIndex := 318, descriptorIndex := 194, attributes := #[] }, { accessFlags := 26, nameIndex := 320, descriptorIndex := 321, attributes := #[] }])
  fields := #[{ name := "MIN_VALUE", type := .int, accessFlags := 25, slot := 0, constantValue := 0 }, { name := "MAX_VALUE", type := .int, accessFlags := 25, slot := 1, constantValue := 0 }, { name := "TYPE", type := (.object "java/lang/Class"), accessFlags := 25, slot := 2, constantValue := 0 }, { name := "digits", type := (.array .char), accessFlags := 24, slot := 3, constantValue := 0 }, { name := "DigitTens", type := (.array .byte), accessFlags := 24, slot := 4, constantValue := 0 }, { name := "DigitOnes", type := (.array .byte), accessFlags := 24, slot := 5, constantValue := 0 }, { name := "value", type := .int, accessFlags := 18, slot := 0, constantValue := 0 }, { name := "SIZE", type := .int, accessFlags := 25, slot := 6, constantValue := 0 }, { name := "BYTES", type := .int, accessFlags := 25, slot := 7, constantValue := 0 }, { name := "serialVersionUID", type := .long, accessFlags := 26, slot := 8, constantValue := 0 }]
  methods := #[k10m0]
  instanceTypes := #[.int]
  staticTypes := #[.int, .int, (.object "java/lang/Class"), (.array .char), (.array .byte), (.array .byte), .int, .int, .long]
  resolved := Array.replicate 453 none
  statics := none }

def pool11 : Array CpInfo := pool [(1, u "java/lang/Cloneable"), (0, .class_ 1), (0, u "java/lang/Object"), (0, .class_ 3)] 3

/-- java/lang/Cloneable -/
def k11 : Class := { plain "java/lang/Cloneable" (some 0) with
  accessFlags := 1537
  interfaces := #[]
  cf := some (fileOf pool11 2 #[] #[] 1537 4 #[] #[])
  fields := #[]
  methods := #[]
  instanceTypes := #[]
  staticTypes := #[]
  resolved := Array.replicate 8 none
  statics := none }

/-- the primitive byte -/
def k12 : Class := { plain "byte" none with kind := .primitive 'B', accessFlags := 0x411 }
/-- [B -/
def k13 : Class := { plain "[B" (some 0) with kind := .array 12 .byte, interfaces := #[11, 4], accessFlags := 1041 }

/-- the primitive double -/
def k14 : Class := { plain "double" none with kind := .primitive 'D', accessFlags := 0x411 }
/-- [D -/
def k15 : Class := { plain "[D" (some 0) with kind := .array 14 .double, interfaces := #[11, 4], accessFlags := 1041 }

/-- the primitive int -/
def k16 : Class := { plain "int" none with kind := .primitive 'I', accessFlags := 0x411 }
/-- [I -/
def k17 : Class := { plain "[I" (some 0) with kind := .array 16 .int, interfaces := #[11, 4], accessFlags := 1041 }

/-- the primitive long -/
def k18 : Class := { plain "long" none with kind := .primitive 'J', accessFlags := 0x411 }
/-- [J -/
def k19 : Class := { plain "[J" (some 0) with kind := .array 18 .long, interfaces := #[11, 4], accessFlags := 1041 }

def heap : Heap := #[]
def classes : Array Class := #[k0, k1, k2, k3, k4, k5, k6, k7, k8, k9, k10, k11, k12, k13, k14, k15, k16, k17, k18, k19]
def interned : List (Array UInt16 × Addr) := []
def slotsUsed : Nat := 0
def theMethod : MethodId := ⟨1, 1⟩
def args0 : Array Value := #[.long 3, .long 4, .long 8, .long 16, .int 5, .int 3]
def aboutOver (below : List Frame) : State where
  vm := { classes := classes, interned := interned.toArray }
  heap := heap
  slotsUsed := slotsUsed
  threads := #[{ frames := .invoking theMethod args0 :: below }]
def below0 : List Frame := [.native { method := ⟨0, 0⟩, args := #[] }]
def about1 : State := aboutOver below0
def p0 : Program := .bare "" "" ""
def e0 : Env := launch0.env 0 0 0
theorem w_frames : about1.frames = Frame.invoking theMethod args0 :: below0 := rfl
set_option maxRecDepth 65536 in
theorem w_args : argsFit about1.vm theMethod args0 = true := by decide +kernel
set_option maxRecDepth 65536 in
theorem w_heap : heapFits about1 = true := by decide +kernel
set_option maxRecDepth 65536 in
theorem w_runnable : about1.curStatus? = some .runnable := by decide +kernel
set_option maxRecDepth 65536 in
theorem w_alone : about1.alone = true := by decide +kernel
set_option maxRecDepth 65536 in
theorem w_named : about1.methodNamed? x = some theMethod := by decide +kernel
set_option maxRecDepth 65536 in
theorem w_hears : about1.hears theMethod below0 = true := by decide +kernel
set_option maxRecDepth 65536 in
theorem w_ripe : about1.ripe theMethod args0 below0 = true := by decide +kernel
theorem w_running : about1.status = .running := rfl
set_option maxRecDepth 65536 in
theorem w_room : about1.hasRoom e0.platform room_1 = true :=
  launch0.hasRoom_least _ room_1 (by decide +kernel) (by decide +kernel) (by decide +kernel) (by decide +kernel) (by decide +kernel) (by decide +kernel)
theorem allAtoms_all (ts : List Jvm.Cond) (a : Array Jvm.Value) (st : Jvm.State) : (allAtoms ts).before a st = ts.all (fun c => c.before a st) := by
  induction ts with
  | nil => rfl
  | cons c t ih =>
    show (Jvm.Cond.and c (allAtoms t)).before a st = _
    rw [Jvm.Cond.before_and, ih, List.all_cons]
def words1 : List Jvm.Cond := Jvm.Cond.code x code maxLocals ret :: tables_1
/-- a 'code' word, met by the world's own term for the bytes: nothing is compared byte by byte -/
theorem code_word {y : MethodName} {bytes : ByteArray} {mx : Nat} {rt : Option FieldType} {a : Array Value} {s : State} {m : MethodId} {meth : Method} {c : Code} (h1 : s.methodNamed? y = some m) (h2 : s.vm.method? m = some meth) (h3 : meth.code = some c) (h4 : c.code = bytes)
    (h5 : (c.maxLocals == mx && c.exceptionTable.isEmpty && decide (c.maxStack ≤ mostOperands) && decide (meth.sig.returnType = rt) && !meth.locks && decide (parseMethodDescriptor y.desc = some meth.sig)) = true) : (Jvm.Cond.code y bytes mx rt).before a s = true := by
  simp only [Bool.and_eq_true, beq_iff_eq, Bool.not_eq_true', decide_eq_true_eq] at h5
  obtain ⟨⟨⟨⟨⟨g1, g2⟩, g3⟩, g4⟩, g5⟩, g6⟩ := h5
  simp [Cond.before, Cond.holds, Cond.value, h1, h2, h3, h4, g1, g2, g3, g4, g5, g6]
def isCode : Jvm.Cond → Bool
  | .code _ _ _ _ => true
  | _ => false
theorem all_split {L : List Jvm.Cond} {P : Jvm.Cond → Bool} (h1 : L.all (fun c => isCode c || P c) = true) (h2 : ∀ c ∈ L.filter isCode, P c = true) : L.all P = true := by
  refine List.all_eq_true.mpr fun c hc => ?_
  have h := List.all_eq_true.mp h1 c hc
  rcases Bool.eq_false_or_eq_true (isCode c) with hi | hi
  · exact h2 c (List.mem_filter.mpr ⟨hc, hi⟩)
  · simpa [hi] using h
set_option maxRecDepth 65536 in
theorem w_c0 : (Jvm.Cond.code x code maxLocals ret).before args0 about1 = true := code_word (m := ⟨1, 1⟩) (meth := k1m1) (c := k1c1) (by decide +kernel) rfl rfl rfl (by decide +kernel)
set_option maxRecDepth 65536 in
theorem w_c1 : (Jvm.Cond.code ({ cls := "com/example/lynceus/lynceus/AtomTable", name := "<init>", desc := "([J)V" } : Jvm.MethodName) prog_3_method_1_code (3 : Nat) (Option.none : Option Jvm.ClassFile.FieldType)).before args0 about1 = true := code_word (m := ⟨2, 0⟩) (meth := k2m0) (c := k2c0) (by decide +kernel) rfl rfl rfl (by decide +kernel)
set_option maxRecDepth 65536 in
theorem w_c2 : (Jvm.Cond.code ({ cls := "java/lang/Object", name := "<init>", desc := "()V" } : Jvm.MethodName) object_method_1_code (1 : Nat) (Option.none : Option Jvm.ClassFile.FieldType)).before args0 about1 = true := code_word (m := ⟨0, 0⟩) (meth := k0m0) (c := k0c0) (by decide +kernel) rfl rfl rfl (by decide +kernel)
set_option maxRecDepth 65536 in
theorem w_c3 : (Jvm.Cond.code ({ cls := "java/util/Arrays", name := "fill", desc := "([DD)V" } : Jvm.MethodName) jdk_65_method_113_code (5 : Nat) (Option.none : Option Jvm.ClassFile.FieldType)).before args0 about1 = true := code_word (m := ⟨3, 1⟩) (meth := k3m1) (c := k3c1) (by decide +kernel) rfl rfl rfl (by decide +kernel)
set_option maxRecDepth 65536 in
theorem w_c4 : (Jvm.Cond.code ({ cls := "com/example/lynceus/lynceus/AtomTable", name := "set", desc := "(I)J" } : Jvm.MethodName) prog_3_method_10_code (5 : Nat) (Option.some Jvm.ClassFile.FieldType.long)).before args0 about1 = true := code_word (m := ⟨2, 1⟩) (meth := k2m1) (c := k2c1) (by decide +kernel) rfl rfl rfl (by decide +kernel)
set_option maxRecDepth 65536 in
theorem w_c5 : (Jvm.Cond.code ({ cls := "java/lang/Long", name := "numberOfTrailingZeros", desc := "(J)I" } : Jvm.MethodName) jdk_35_method_49_code (3 : Nat) (Option.some Jvm.ClassFile.FieldType.int)).before args0 about1 = true := code_word (m := ⟨9, 0⟩) (meth := k9m0) (c := k9c0) (by decide +kernel) rfl rfl rfl (by decide +kernel)
set_option maxRecDepth 65536 in
theorem w_c6 : (Jvm.Cond.code ({ cls := "java/lang/Integer", name := "numberOfTrailingZeros", desc := "(I)I" } : Jvm.MethodName) jdk_33_method_48_code (2 : Nat) (Option.some Jvm.ClassFile.FieldType.int)).before args0 about1 = true := code_word (m := ⟨10, 0⟩) (meth := k10m0) (c := k10c0) (by decide +kernel) rfl rfl rfl (by decide +kernel)
def codes1 : List Jvm.Cond := [Jvm.Cond.code x code maxLocals ret, Jvm.Cond.code ({ cls := "com/example/lynceus/lynceus/AtomTable", name := "<init>", desc := "([J)V" } : Jvm.MethodName) prog_3_method_1_code (3 : Nat) (Option.none : Option Jvm.ClassFile.FieldType), Jvm.Cond.code ({ cls := "java/lang/Object", name := "<init>", desc := "()V" } : Jvm.MethodName) object_method_1_code (1 : Nat) (Option.none : Option Jvm.ClassFile.FieldType), Jvm.Cond.code ({ cls := "java/util/Arrays", name := "fill", desc := "([DD)V" } : Jvm.MethodName) jdk_65_method_113_code (5 : Nat) (Option.none : Option Jvm.ClassFile.FieldType), Jvm.Cond.code ({ cls := "com/example/lynceus/lynceus/AtomTable", name := "set", desc := "(I)J" } : Jvm.MethodName) prog_3_method_10_code (5 : Nat) (Option.some Jvm.ClassFile.FieldType.long), Jvm.Cond.code ({ cls := "java/lang/Long", name := "numberOfTrailingZeros", desc := "(J)I" } : Jvm.MethodName) jdk_35_method_49_code (3 : Nat) (Option.some Jvm.ClassFile.FieldType.int), Jvm.Cond.code ({ cls := "java/lang/Integer", name := "numberOfTrailingZeros", desc := "(I)I" } : Jvm.MethodName) jdk_33_method_48_code (2 : Nat) (Option.some Jvm.ClassFile.FieldType.int)]
set_option maxRecDepth 65536 in
theorem codes_eq : words1.filter isCode = codes1 := rfl
theorem w_codes : ∀ c ∈ words1.filter isCode, c.before args0 about1 = true := by
  rw [codes_eq]
  intro c hc
  simp only [codes1, List.mem_cons, List.not_mem_nil, or_false] at hc
  rcases hc with rfl | rfl | rfl | rfl | rfl | rfl | rfl
  · exact w_c0
  · exact w_c1
  · exact w_c2
  · exact w_c3
  · exact w_c4
  · exact w_c5
  · exact w_c6
set_option maxRecDepth 65536 in
theorem w_t1 : (words1.take 24).all (fun c => isCode c || c.before args0 about1) = true := by decide +kernel
set_option maxRecDepth 65536 in
theorem w_t2 : (words1.drop 24).all (fun c => isCode c || c.before args0 about1) = true := by decide +kernel
theorem w_tables : (allAtoms (Jvm.Cond.code x code maxLocals ret :: tables_1)).before args0 about1 = true := by
  rw [allAtoms_all]
  show words1.all (fun c => c.before args0 about1) = true
  refine all_split ?_ w_codes
  rw [← List.take_append_drop 24 words1, List.all_append, w_t1, w_t2]
  rfl
set_option maxRecDepth 65536 in
theorem w_case : (Jvm.Cond.and given_1 narrow_1).before args0 about1 = true := by decide +kernel
theorem w_applies : (headSpec (Jvm.Cond.code x code maxLocals ret :: tables_1) room_1).applies x e0.platform about1 = true :=
  (Spec.applies_iff w_frames).mpr ⟨w_running, w_runnable, w_alone, w_named, w_hears, w_ripe, w_room, w_tables⟩
theorem atStart : AtStart classFile x code maxLocals ret World_1 tables_1 room_1 Calls_1 rest_1 Pre_1 launch0 p0 e0 about1 theMethod args0 below0 :=
  ⟨lists_1, trivial, launch0.admits_env _ _ _, launch0.least_env, fairChoices_fair.cas, fairChoices_fair.clock, w_frames, w_args, w_heap, w_applies, trivial, trivial, w_case⟩
end start1
theorem witness_1 : WitnessClaimed_1 := ⟨start1.p0, start1.e0, start1.about1, start1.theMethod, start1.args0, start1.below0, start1.atStart⟩
end Jvm.Pilot.@@N@@
