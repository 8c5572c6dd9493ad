import JvmDerived
import JvmDerived.Pilot.@@N@@Statement
import JvmDerived.Pilot.@@N@@Code
set_option linter.unusedVariables false
set_option linter.unusedSimpArgs false
@@BLOCK:NumsL.lean.txt@@
namespace Jvm.OwnK
open Sem ClassFile Op Lib Jvm.Stand Jvm.Free Jvm.LawKit Jvm.RoadKit Bundle
/-- from the frame f at T the run ends, and P holds of its end -/
def Go (tb : Tables) (e : Env) (below : List Frame) (P : Outcome → State → Prop) (T : State) (f : JFrame) : Prop :=
  ∃ s₂ o, Steps tb e below (T.setTop f) s₂ ∧ s₂.status = .running ∧ Ended s₂ below o ∧ P o s₂
abbrev PQ (s : State) (Q : Option Value → Heap → List Loc → Prop) (C N : Nat) : Outcome → State → Prop := fun o U' => ∃ v L, o = .returned v ∧ Q v U'.heap L ∧ FrameEnd s o U' L C N
theorem Go.st {tb : Tables} {e : Env} {below : List Frame} {P : Outcome → State → Prop} {T T' : State} {f f' : JFrame} (h : ∀ t, Steps tb e below (T'.setTop f') t → Steps tb e below (T.setTop f) t) (k : Go tb e below P T' f') : Go tb e below P T f := by
  obtain ⟨s₂, o, h1, h2⟩ := k; exact ⟨s₂, o, h _ h1, h2⟩
theorem Go.st1 {tb : Tables} {e : Env} {below : List Frame} {P : Outcome → State → Prop} {T T' : State} {f f' : JFrame} (h : Steps tb e below (T.setTop f) (T'.setTop f')) (k : Go tb e below P T' f') : Go tb e below P T f :=
  Go.st (fun t q => h.trans q) k
theorem tI {x : Int32} {n : Int} (h : x.toInt = n) : x = Int32.ofInt n := by subst h; simp
section Steps
variable {p : Program} {l : Launch} {e : Env} {R : Room} {s : State} {m : MethodId} {args : Array Value} {below : List Frame} {meth : Method} {c : Code} {T : State} {locs : List Loc} {cells slots : Nat} {P : Outcome → State → Prop} {pc pc' : Nat} {Ls : Array Slot} {S : List Value} {Z : State} {a0 : Array Value} {h : Heap}
theorem iload (X : Stand p l e R s m args below meth c T locs cells slots) (hx : p.tables.exec = Jvm.exec) {j : Nat} {v : Int32} (hd : decode c.code pc = .ok (.iload j, 2)) (hp : pc' = pc + 2) (hl : Ls[j]? = some (.val (.int v)))
    (k : Go p.tables e below P T (mkF m pc' Ls (.int v :: S))) : Go p.tables e below P T (mkF m pc Ls (S)) := by
  subst hp; exact Go.st (fun t q => XS.iload X.here hx rfl hd  hl q) k
theorem iloadN (X : Stand p l e R s m args below meth c T locs cells slots) (hx : p.tables.exec = Jvm.exec) {j : Fin 4} {v : Int32} (hd : decode c.code pc = .ok (.iload_n j, 1)) (hp : pc' = pc + 1) (hl : Ls[j.val]? = some (.val (.int v)))
    (k : Go p.tables e below P T (mkF m pc' Ls (.int v :: S))) : Go p.tables e below P T (mkF m pc Ls (S)) := by
  subst hp; exact Go.st (fun t q => XS.iloadN X.here hx rfl hd  hl q) k
theorem aload (X : Stand p l e R s m args below meth c T locs cells slots) (hx : p.tables.exec = Jvm.exec) {j : Nat} {v : Value} (hd : decode c.code pc = .ok (.aload j, 2)) (hp : pc' = pc + 2) (hl : Ls[j]? = some (.val v)) (hv : v.isRef = true)
    (k : Go p.tables e below P T (mkF m pc' Ls (v :: S))) : Go p.tables e below P T (mkF m pc Ls (S)) := by
  subst hp; exact Go.st (fun t q => XS.aload X.here hx rfl hd  hl hv q) k
theorem aloadN (X : Stand p l e R s m args below meth c T locs cells slots) (hx : p.tables.exec = Jvm.exec) {j : Fin 4} {v : Value} (hd : decode c.code pc = .ok (.aload_n j, 1)) (hp : pc' = pc + 1) (hl : Ls[j.val]? = some (.val v)) (hv : v.isRef = true)
    (k : Go p.tables e below P T (mkF m pc' Ls (v :: S))) : Go p.tables e below P T (mkF m pc Ls (S)) := by
  subst hp; exact Go.st (fun t q => XS.aloadN X.here hx rfl hd  hl hv q) k
theorem istore (X : Stand p l e R s m args below meth c T locs cells slots) (hx : p.tables.exec = Jvm.exec) {j : Nat} {v : Int32} {Ls' : Array Slot} (hd : decode c.code pc = .ok (.istore j, 2)) (hp : pc' = pc + 2) (hl : storeLocals Ls j (.int v) = some Ls')
    (k : Go p.tables e below P T (mkF m pc' Ls' (S))) : Go p.tables e below P T (mkF m pc Ls (.int v :: S)) := by
  subst hp; exact Go.st (fun t q => XS.istore X.here hx rfl hd rfl hl q) k
theorem istoreN (X : Stand p l e R s m args below meth c T locs cells slots) (hx : p.tables.exec = Jvm.exec) {j : Fin 4} {v : Int32} {Ls' : Array Slot} (hd : decode c.code pc = .ok (.istore_n j, 1)) (hp : pc' = pc + 1) (hl : storeLocals Ls j.val (.int v) = some Ls')
    (k : Go p.tables e below P T (mkF m pc' Ls' (S))) : Go p.tables e below P T (mkF m pc Ls (.int v :: S)) := by
  subst hp; exact Go.st (fun t q => XS.istoreN X.here hx rfl hd rfl hl q) k
theorem astore (X : Stand p l e R s m args below meth c T locs cells slots) (hx : p.tables.exec = Jvm.exec) {j : Nat} {v : Value} {Ls' : Array Slot} (hd : decode c.code pc = .ok (.astore j, 2)) (hp : pc' = pc + 2) (hv : v.isRef = true) (hl : storeLocals Ls j v = some Ls')
    (k : Go p.tables e below P T (mkF m pc' Ls' (S))) : Go p.tables e below P T (mkF m pc Ls (v :: S)) := by
  subst hp; exact Go.st (fun t q => XS.astore X.here hx rfl hd rfl hv hl q) k
theorem astoreN (X : Stand p l e R s m args below meth c T locs cells slots) (hx : p.tables.exec = Jvm.exec) {j : Fin 4} {v : Value} {Ls' : Array Slot} (hd : decode c.code pc = .ok (.astore_n j, 1)) (hp : pc' = pc + 1) (hv : v.isRef = true) (hl : storeLocals Ls j.val v = some Ls')
    (k : Go p.tables e below P T (mkF m pc' Ls' (S))) : Go p.tables e below P T (mkF m pc Ls (v :: S)) := by
  subst hp; exact Go.st (fun t q => XS.astoreN X.here hx rfl hd rfl hv hl q) k
theorem iconst (X : Stand p l e R s m args below meth c T locs cells slots) (hx : p.tables.exec = Jvm.exec) {i : Int} {v : Int32} (hd : decode c.code pc = .ok (.iconst i, 1)) (hp : pc' = pc + 1) (hv : Int32.ofInt i = v)
    (k : Go p.tables e below P T (mkF m pc' Ls (.int v :: S))) : Go p.tables e below P T (mkF m pc Ls (S)) := by
  subst hp hv; exact Go.st (fun t q => XS.iconst X.here hx rfl hd q) k
theorem iand (X : Stand p l e R s m args below meth c T locs cells slots) (hx : p.tables.exec = Jvm.exec) {x y : Int32} (hd : decode c.code pc = .ok (.iand, 1)) (hp : pc' = pc + 1)
    (k : Go p.tables e below P T (mkF m pc' Ls (.int (x &&& y) :: S))) : Go p.tables e below P T (mkF m pc Ls (.int y :: .int x :: S)) := by
  subst hp; exact Go.st (fun t q => XS.iand X.here hx rfl hd rfl  q) k
theorem irem (X : Stand p l e R s m args below meth c T locs cells slots) (hx : p.tables.exec = Jvm.exec) {x y : Int32} (hd : decode c.code pc = .ok (.irem, 1)) (hp : pc' = pc + 1) (hy : y ≠ 0)
    (k : Go p.tables e below P T (mkF m pc' Ls (.int (x % y) :: S))) : Go p.tables e below P T (mkF m pc Ls (.int y :: .int x :: S)) := by
  subst hp; exact Go.st (fun t q => iremM X hx rfl hd rfl hy q) k
theorem goto_ (X : Stand p l e R s m args below meth c T locs cells slots) (hx : p.tables.exec = Jvm.exec) {o : Int} (hd : decode c.code pc = .ok (.goto o, 3)) (ho : 0 ≤ (pc : Int) + o) (hp : ((pc : Int) + o).toNat = pc')
    (k : Go p.tables e below P T (mkF m pc' Ls (S))) : Go p.tables e below P T (mkF m pc Ls (S)) :=
  Go.st (fun t q => XS.goto X.here hx rfl rfl hd ho hp q) k
theorem h_lt (x y : Int32) : if_icmp.holds .lt x y = decide (x.toInt < y.toInt) := by simp [if_icmp.holds, Int32.lt_iff_toInt_lt]
theorem h_ne (x y : Int32) : if_icmp.holds .ne x y = decide (¬ x.toInt = y.toInt) := by rw [Bool.eq_iff_iff]; simp [if_icmp.holds, Int32.toInt_inj]
theorem z_any (cd : ClassFile.Cond) (x : Int32) : ifCond.holds cd x = if_icmp.holds cd x 0 := by cases cd <;> simp [ifCond.holds, if_icmp.holds]
theorem z0 : (0 : Int32).toInt = 0 := by decide
theorem icmp_lt (X : Stand p l e R s m args below meth c T locs cells slots) (hx : p.tables.exec = Jvm.exec) {o : Int} {x y : Int32} {pcT : Nat} (hd : decode c.code pc = .ok (.if_icmp .lt o, 3)) (ho : 0 ≤ (pc : Int) + o) (hT : ((pc : Int) + o).toNat = pcT) (hp : pc' = pc + 3)
    (kt : x.toInt < y.toInt → Go p.tables e below P T (mkF m pcT Ls (S))) (kf : y.toInt ≤ x.toInt → Go p.tables e below P T (mkF m pc' Ls (S))) : Go p.tables e below P T (mkF m pc Ls (.int y :: .int x :: S)) := by
  subst hp
  by_cases q : x.toInt < y.toInt
  · exact Go.st (fun t r => XS.icmpYes X.here hx rfl rfl hd rfl (by rw [h_lt]; exact decide_eq_true q) ho hT r) (kt q)
  · exact Go.st (fun t r => XS.icmpNo X.here hx rfl hd rfl (by rw [h_lt]; exact decide_eq_false q) r) (kf (by omega))
theorem icmp_ne (X : Stand p l e R s m args below meth c T locs cells slots) (hx : p.tables.exec = Jvm.exec) {o : Int} {x y : Int32} {pcT : Nat} (hd : decode c.code pc = .ok (.if_icmp .ne o, 3)) (ho : 0 ≤ (pc : Int) + o) (hT : ((pc : Int) + o).toNat = pcT) (hp : pc' = pc + 3)
    (kt : ¬ x.toInt = y.toInt → Go p.tables e below P T (mkF m pcT Ls (S))) (kf : x.toInt = y.toInt → Go p.tables e below P T (mkF m pc' Ls (S))) : Go p.tables e below P T (mkF m pc Ls (.int y :: .int x :: S)) := by
  subst hp
  by_cases q : ¬ x.toInt = y.toInt
  · exact Go.st (fun t r => XS.icmpYes X.here hx rfl rfl hd rfl (by rw [h_ne]; exact decide_eq_true q) ho hT r) (kt q)
  · exact Go.st (fun t r => XS.icmpNo X.here hx rfl hd rfl (by rw [h_ne]; exact decide_eq_false q) r) (kf (by omega))
theorem if_ne (X : Stand p l e R s m args below meth c T locs cells slots) (hx : p.tables.exec = Jvm.exec) {o : Int} {x : Int32} {pcT : Nat} (hd : decode c.code pc = .ok (.ifCond .ne o, 3)) (ho : 0 ≤ (pc : Int) + o) (hT : ((pc : Int) + o).toNat = pcT) (hp : pc' = pc + 3)
    (kt : ¬ x.toInt = 0 → Go p.tables e below P T (mkF m pcT Ls (S))) (kf : x.toInt = 0 → Go p.tables e below P T (mkF m pc' Ls (S))) : Go p.tables e below P T (mkF m pc Ls (.int x :: S)) := by
  subst hp
  by_cases q : ¬ x.toInt = 0
  · exact Go.st (fun t r => XS.ifYes X.here hx rfl rfl hd rfl (by rw [z_any, h_ne, z0]; exact decide_eq_true q) ho hT r) (kt q)
  · exact Go.st (fun t r => XS.ifNo X.here hx rfl hd rfl (by rw [z_any, h_ne, z0]; exact decide_eq_false q) r) (kf (by omega))
theorem acmp_eq (X : Stand p l e R s m args below meth c T locs cells slots) (hx : p.tables.exec = Jvm.exec) {o : Int} {x y : Value} {pcT : Nat} (hd : decode c.code pc = .ok (.if_acmp .eq o, 3)) (h1 : x.isRef = true) (h2 : y.isRef = true) (ho : 0 ≤ (pc : Int) + o) (hT : ((pc : Int) + o).toNat = pcT) (hp : pc' = pc + 3)
    (kt : x = y → Go p.tables e below P T (mkF m pcT Ls (S))) (kf : ¬ x = y → Go p.tables e below P T (mkF m pc' Ls (S))) : Go p.tables e below P T (mkF m pc Ls (y :: x :: S)) := by
  subst hp
  by_cases q : x = y
  · exact Go.st (fun t r => XT.acmpYes X.here hx rfl rfl hd rfl h1 h2 (XT.aa_eq_t q) ho hT r) (kt q)
  · exact Go.st (fun t r => XT.acmpNo X.here hx rfl hd rfl h1 h2 (XT.aa_eq_f q) r) (kf q)
theorem acmp_ne (X : Stand p l e R s m args below meth c T locs cells slots) (hx : p.tables.exec = Jvm.exec) {o : Int} {x y : Value} {pcT : Nat} (hd : decode c.code pc = .ok (.if_acmp .ne o, 3)) (h1 : x.isRef = true) (h2 : y.isRef = true) (ho : 0 ≤ (pc : Int) + o) (hT : ((pc : Int) + o).toNat = pcT) (hp : pc' = pc + 3)
    (kt : ¬ x = y → Go p.tables e below P T (mkF m pcT Ls (S))) (kf : x = y → Go p.tables e below P T (mkF m pc' Ls (S))) : Go p.tables e below P T (mkF m pc Ls (y :: x :: S)) := by
  subst hp
  by_cases q : ¬ x = y
  · exact Go.st (fun t r => XT.acmpYes X.here hx rfl rfl hd rfl h1 h2 (XT.aa_ne_t q) ho hT r) (kt q)
  · exact Go.st (fun t r => XT.acmpNo X.here hx rfl hd rfl h1 h2 (XT.aa_ne_f (Classical.not_not.mp q)) r) (kf (Classical.not_not.mp q))
theorem ldcI (X : Stand p l e R s m args below meth c T locs cells slots) (hx : p.tables.exec = Jvm.exec) (hZ : Z.Warmed39 s.vm) {own : String} (hown : s.vm.findClass own = some m.cls) {i : Nat} {v : Int32} (w : (Cond.constant own i v).before a0 Z = true) (hd : decode c.code pc = .ok (.ldc i, 2)) (hp : pc' = pc + 2)
    (k : Go p.tables e below P T (mkF m pc' Ls (.int v :: S))) : Go p.tables e below P T (mkF m pc Ls (S)) := by
  subst hp; exact Go.st (X.ldcInt hx hown (mv hZ w) (g := mkF m pc Ls S) rfl hd) k
theorem getS_ (X : Stand p l e R s m args below meth c T locs cells slots) (hx : p.tables.exec = Jvm.exec) (hZ : Z.Warmed39 s.vm) {own : String} (hown : s.vm.findClass own = some m.cls) {R0 O n d host : String} {i : Nat} (w : (Cond.fieldLink own i R0 n d).before a0 Z = true ∨ (Cond.fieldLinkNest own i R0 n d host).before a0 Z = true) (via : Via Z R0 O n d) (eT : T.heap = h) {v : Value} (F : Sta Z h O n d v) (hd : decode c.code pc = .ok (.getstatic i, 3)) (hp : pc' = pc + 3)
    (k : ∀ T', Stand p l e R s m args below meth c T' locs cells slots → T'.heap = h → Go p.tables e below P T' (mkF m pc' Ls (v :: S))) : Go p.tables e below P T (mkF m pc Ls (S)) := by
  subst hp
  obtain ⟨T', X', e', st⟩ := getS2 X hx hZ hown w via eT F (g := mkF m pc Ls S) rfl hd
  exact Go.st st (k T' X' e')
theorem callS_ (X : Stand p l e R s m args below meth c T locs cells slots) (hx : p.tables.exec = Jvm.exec) (hZ : Z.Warmed39 s.vm) {own : String} (hown : s.vm.findClass own = some m.cls) {y : MethodName} {i : Nat} {bytes : ByteArray} {maxL : Nat} {ret : Option FieldType} {rm : Room} {Q : Option Value → Heap → List Loc → Prop} {argsL S0 : List Value} (w1 : (Cond.methodLink own i y).before a0 Z = true) (w2 : (Cond.static y).before a0 Z = true) (w3 : (Cond.initialized y.cls).before a0 Z = true) (w4 : (Cond.code y bytes maxL ret).before a0 Z = true) (hy : y.cls ≠ "java/lang/invoke/MethodHandle" ∧ y.cls ≠ "java/lang/invoke/VarHandle") (hM : MetFree l y (head1 [Cond.code y bytes maxL ret] rm) (fun ar U => ar = argsL.toArray ∧ Z.Warmed39 U.vm ∧ U.heap = h) (fun _ _ _ _ _ => True) (fun _ U o U' => ∃ v L, o = .returned v ∧ Q v U'.heap L ∧ FrameEnd U o U' L rm.cells rm.slots)) (hf : rm.frames + 1 ≤ R.frames) {W : Nat} (hl : W + (maxL + 11) + rm.locals ≤ R.locals) (eT : T.heap = h) (hsize : Ls.size = c.maxLocals) {ps : List FieldType} {rt : Option FieldType} (hdesc : parseMethodDescriptor y.desc = some ⟨ps, rt⟩) (hlen : argsL.length = ps.length) (hS : S0 = argsL.reverse ++ S) (hW : (S.map fun v => v.category).sum ≤ W) (hd : decode c.code pc = .ok (.invokestatic i, 3)) (hp : pc' = pc + 3) (hc : cells + rm.cells ≤ R.cells) (hs : slots + rm.slots ≤ R.slots)
    (k : ∀ T' v L, Stand p l e R s m args below meth c T' (locs ++ L) (cells + rm.cells) (slots + rm.slots) → Q v T'.heap L → Go p.tables e below P T' (mkF m pc' Ls (v.toList ++ S))) : Go p.tables e below P T (mkF m pc Ls (S0)) := by
  subst hp hS
  obtain ⟨v, vm₁, ⟨T', L', k', n'⟩, -, X', ⟨L, hQ, l', y', z'⟩, st⟩ := Jvm.LawKit.callS X hx hown (mvT hZ w1) (mvT hZ w2) (mvT hZ w3) (mvT hZ w4) hy (backOf (W := W) hM hZ w4 w3 hf hl) (g := mkF m pc Ls (argsL.reverse ++ S)) rfl hsize (argsL := argsL) (rest := S) (lenOf hdesc hlen) rfl (by show 2 * 0 + _ ≤ _; simpa using hW) hd (fun _ _ => ⟨rfl, eT, hc, hs⟩)
  dsimp only [Pt.U, Pt.locs, Pt.cells, Pt.slots] at X' l' y' z' st hQ
  subst l' y' z'
  exact Go.st st (k T' v L X' hQ)
theorem callV_ (X : Stand p l e R s m args below meth c T locs cells slots) (hx : p.tables.exec = Jvm.exec) (hZ : Z.Warmed39 s.vm) {own : String} (hown : s.vm.findClass own = some m.cls) {C : String} {y z : MethodName} {i : Nat} {a : Addr} {bytes : ByteArray} {maxL : Nat} {ret : Option FieldType} {rm : Room} {Q : Option Value → Heap → List Loc → Prop} {argsL S0 : List Value} (w1 : (Cond.methodLink own i y).before a0 Z = true) (w2 : (Cond.declares y).before a0 Z = true) (nf : NotFace s y) (w3 : (Cond.selects C y z).before a0 Z = true) (w4 : (Cond.instanceMethod z).before a0 Z = true) (w5 : (Cond.code z bytes maxL ret).before a0 Z = true) (w6 : (Cond.initialized z.cls).before a0 Z = true) (hy : y.cls ≠ "java/lang/invoke/MethodHandle" ∧ y.cls ≠ "java/lang/invoke/VarHandle") (E : Exa Z h a C) (hM : MetFree l z (head1 [Cond.code z bytes maxL ret] rm) (fun ar U => ar = (.ref a :: argsL).toArray ∧ Z.Warmed39 U.vm ∧ U.heap = h) (fun _ _ _ _ _ => True) (fun _ U o U' => ∃ v L, o = .returned v ∧ Q v U'.heap L ∧ FrameEnd U o U' L rm.cells rm.slots)) (hf : rm.frames + 1 ≤ R.frames) {W : Nat} (hl : W + (maxL + 11) + rm.locals ≤ R.locals) (eT : T.heap = h) (hsize : Ls.size = c.maxLocals) {ps : List FieldType} {rt : Option FieldType} (hdesc : parseMethodDescriptor y.desc = some ⟨ps, rt⟩) (hlen : argsL.length = ps.length) (hS : S0 = argsL.reverse ++ .ref a :: S) (hW : (S.map fun v => v.category).sum ≤ W) (hd : decode c.code pc = .ok (.invokevirtual i, 3)) (hp : pc' = pc + 3) (hc : cells + rm.cells ≤ R.cells) (hs : slots + rm.slots ≤ R.slots)
    (k : ∀ T' v L, Stand p l e R s m args below meth c T' (locs ++ L) (cells + rm.cells) (slots + rm.slots) → Q v T'.heap L → Go p.tables e below P T' (mkF m pc' Ls (v.toList ++ S))) : Go p.tables e below P T (mkF m pc Ls (S0)) := by
  subst hp hS
  obtain ⟨cq, kq, qa, qb, qc⟩ := isOf hZ eT E
  obtain ⟨v, vm₁, ⟨T', L', k', n'⟩, -, X', ⟨L, hQ, l', y', z'⟩, st⟩ := X.virtualBack hx hown (mvT hZ w1) (mvT hZ w2) nf (mvT hZ w3) (mvT hZ w4) hy (backOf (W := W) hM hZ w5 w6 hf hl) qa qc (g := mkF m pc Ls (argsL.reverse ++ .ref a :: S)) rfl hsize (Steps.refl _) (argsL := argsL) (rest := S) (lenOf hdesc hlen) rfl (by show 2 * 0 + _ ≤ _; simpa using hW) hd (fun _ _ => ⟨rfl, eT, hc, hs⟩)
  dsimp only [Pt.U, Pt.locs, Pt.cells, Pt.slots] at X' l' y' z' st hQ
  subst l' y' z'
  exact Go.st1 st (k T' v L X' hQ)
theorem met {y : MethodName} {bytes : ByteArray} {maxL : Nat} {ret : Option FieldType} {rm : Room} {as' : Array Value} {Q : Option Value → Heap → List Loc → Prop} {ws : List Jvm.Cond} {C N : Nat} (hpl : plainFor y = true) (ef : ∀ m, entryFrame m as' maxL = mkF m 0 Ls [])
    (body : ∀ (p : Program) (e : Env) (s : State) (m : MethodId) (below : List Frame) (meth : Method) (c : Code) (T : State), Stand p l e rm s m as' below meth c T [] 0 0 → p.tables.exec = Jvm.exec → Z.Warmed39 s.vm → c.code = bytes → c.maxLocals = maxL → s.vm.findClass y.cls = some m.cls → meth.name = y.name → meth.sig.returnType = ret → meth.locks = false → T.heap = h →
      Go p.tables e below (PQ s Q C N) T (mkF m 0 Ls [])) :
    MetFree l y (head1 (Cond.code y bytes maxL ret :: ws) rm) (fun a U => a = as' ∧ Z.Warmed39 U.vm ∧ U.heap = h) (fun _ _ _ _ _ => True) (fun _ U o U' => ∃ v L, o = .returned v ∧ Q v U'.heap L ∧ FrameEnd U o U' L C N) := by
  refine MetFree.of_bodySF hpl hisR ?_
  intro p e s m args below meth c s₁ Bd hml0 hP hK
  obtain ⟨rfl, hZ, hh⟩ := hP
  have e0 : s₁.heap = h := by rw [← hh, Bd.state]; rfl
  obtain ⟨s₂, o, h1, h2⟩ := body p e s m below meth c s₁ (Stand.of_body Bd) Bd.exec hZ Bd.bytes hml0 (findClass_of_methodNamed Bd.named) (name_of_methodNamed Bd.named Bd.method).1 Bd.returns Bd.notSynchronized e0
  exact ⟨s₂, o, castTop (ef m) h1, h2⟩
theorem ret_ (X : Stand p l e R s m args below meth c T locs cells slots) (hx : p.tables.exec = Jvm.exec) {Q : Option Value → Heap → List Loc → Prop} {C N : Nat} {w : Value} {t : FieldType} {i : Instr} (hret : meth.sig.returnType = some t) (hlk : meth.locks = false) (hn : narrow t w = w)
    (hi : (i = .ireturn ∧ (t = .int ∨ t = .boolean ∨ t = .byte ∨ t = .char ∨ t = .short) ∧ ∃ z, w = .int z) ∨ (i = .lreturn ∧ t = .long ∧ ∃ z, w = .long z) ∨ (i = .dreturn ∧ t = .double ∧ ∃ z, w = .double z) ∨ (i = .freturn ∧ t = .float ∧ ∃ z, w = .float z) ∨ (i = .areturn ∧ t.isReference = true ∧ w.isRef = true))
    (hd : decode c.code pc = .ok (i, 1)) (hC : cells ≤ C) (hN : slots ≤ N) (q : Q (some w) T.heap locs) : Go p.tables e below (PQ s Q C N) T (mkF m pc Ls (w :: S)) := by
  obtain ⟨fs, hr, hrun, hended, hW, hsame⟩ := X.leave (v := some w) (fun h => by rw [hret] at h; cases h) hlk
  exact ⟨_, _, retOut X hx hret hn hi hd hr, hrun, hended, _, _, rfl, q, ⟨_, rfl⟩, hW, hsame.mono hC hN⟩
theorem retI_ (X : Stand p l e R s m args below meth c T locs cells slots) (hx : p.tables.exec = Jvm.exec) {Q : Option Value → Heap → List Loc → Prop} {C N : Nat} {z : Int32} (hret : meth.sig.returnType = some .int) (hlk : meth.locks = false) (hd : decode c.code pc = .ok (.ireturn, 1)) (hC : cells ≤ C) (hN : slots ≤ N) (q : Q (some (.int z)) T.heap locs) : Go p.tables e below (PQ s Q C N) T (mkF m pc Ls (.int z :: S)) :=
  ret_ X hx hret hlk rfl (Or.inl ⟨rfl, Or.inl rfl, z, rfl⟩) hd hC hN q
theorem retA_ (X : Stand p l e R s m args below meth c T locs cells slots) (hx : p.tables.exec = Jvm.exec) {Q : Option Value → Heap → List Loc → Prop} {C N : Nat} {w : Value} {t : FieldType} (hret : meth.sig.returnType = some t) (ht : t.isReference = true) (hw : w.isRef = true) (hlk : meth.locks = false) (hd : decode c.code pc = .ok (.areturn, 1)) (hC : cells ≤ C) (hN : slots ≤ N) (q : Q (some w) T.heap locs) : Go p.tables e below (PQ s Q C N) T (mkF m pc Ls (w :: S)) :=
  ret_ X hx hret hlk (by cases t <;> first | (cases ht; done) | rfl) (Or.inr (Or.inr (Or.inr (Or.inr ⟨rfl, ht, hw⟩)))) hd hC hN q
theorem retN_ (X : Stand p l e R s m args below meth c T locs cells slots) (hx : p.tables.exec = Jvm.exec) {Q : Option Value → Heap → List Loc → Prop} {C N : Nat} {z : Int32} {t : FieldType} (hret : meth.sig.returnType = some t) (ht : t = .boolean ∨ t = .byte ∨ t = .char ∨ t = .short) (hlk : meth.locks = false) (hd : decode c.code pc = .ok (.ireturn, 1)) (hC : cells ≤ C) (hN : slots ≤ N) (q : Q (some (.int (nar t z))) T.heap locs) : Go p.tables e below (PQ s Q C N) T (mkF m pc Ls (.int z :: S)) := by
  obtain ⟨fs, hr, hrun, hended, hW, hsame⟩ := X.leave (v := some (.int (nar t z))) (fun h => by rw [hret] at h; cases h) hlk
  exact ⟨_, _, retN X hx hret ht hd hr, hrun, hended, _, _, rfl, q, ⟨_, rfl⟩, hW, hsame.mono hC hN⟩
end Steps
end Jvm.OwnK
namespace Jvm.Pilot.@@N@@
open Jvm Jvm.ClassFile Sem Op Lib Jvm.Free Jvm.Stand Jvm.LawKit Jvm.RoadKit Bundle Jvm.Pilot.@@N@@.Jvm.D
theorem own_ef_1 (p1 : Int32)  (m : MethodId) : entryFrame m #[(.int p1)] 2 = mkF m 0 #[.val (.int p1), .unset] [] := by first | (simp [entryFrame, mkF, argsToLocals, Value.category]; done) | rfl
theorem own_d1_0 : decode method_2_code 0 = .ok (.iload_n 0, 1) := by decide +kernel
theorem own_d1_1 : decode method_2_code 1 = .ok (.ldc 7, 2) := by decide +kernel
theorem own_d1_3 : decode method_2_code 3 = .ok (.iand, 1) := by decide +kernel
theorem own_d1_4 : decode method_2_code 4 = .ok (.iconst 3, 1) := by decide +kernel
theorem own_d1_5 : decode method_2_code 5 = .ok (.irem, 1) := by decide +kernel
theorem own_d1_6 : decode method_2_code 6 = .ok (.istore_n 1, 1) := by decide +kernel
theorem own_d1_7 : decode method_2_code 7 = .ok (.iload_n 1, 1) := by decide +kernel
theorem own_d1_8 : decode method_2_code 8 = .ok (.ifCond .ne 7, 3) := by decide +kernel
theorem own_d1_15 : decode method_2_code 15 = .ok (.iload_n 1, 1) := by decide +kernel
theorem own_d1_16 : decode method_2_code 16 = .ok (.iconst 1, 1) := by decide +kernel
theorem own_d1_17 : decode method_2_code 17 = .ok (.if_icmp .ne 7, 3) := by decide +kernel
theorem own_d1_24 : decode method_2_code 24 = .ok (.getstatic 17, 3) := by decide +kernel
theorem own_d1_27 : decode method_2_code 27 = .ok (.areturn, 1) := by decide +kernel
theorem own_d1_20 : decode method_2_code 20 = .ok (.getstatic 14, 3) := by decide +kernel
theorem own_d1_23 : decode method_2_code 23 = .ok (.areturn, 1) := by decide +kernel
theorem own_d1_11 : decode method_2_code 11 = .ok (.getstatic 8, 3) := by decide +kernel
theorem own_d1_14 : decode method_2_code 14 = .ok (.areturn, 1) := by decide +kernel
theorem own_pl_1 : plainFor (⟨"com/example/ferryway/ferryway/tool/TruthOrPinLaw", "pick", "(I)Lcom/example/ferryway/ferryway/tool/CCondition$Truth;"⟩ : MethodName) = true := plainFor_of_name (by first | (simp [plainName, overriddenIn]; done) | decide +kernel)
theorem own_ef_3 (p1 : Addr)  (m : MethodId) : entryFrame m #[(.ref p1)] 1 = mkF m 0 #[.val (.ref p1)] [] := by first | (simp [entryFrame, mkF, argsToLocals, Value.category]; done) | rfl
theorem own_d3_0 : decode method_3_code 0 = .ok (.aload_n 0, 1) := by decide +kernel
theorem own_d3_1 : decode method_3_code 1 = .ok (.getstatic 8, 3) := by decide +kernel
theorem own_d3_4 : decode method_3_code 4 = .ok (.if_acmp .ne 5, 3) := by decide +kernel
theorem own_d3_9 : decode method_3_code 9 = .ok (.aload_n 0, 1) := by decide +kernel
theorem own_d3_10 : decode method_3_code 10 = .ok (.getstatic 17, 3) := by decide +kernel
theorem own_d3_13 : decode method_3_code 13 = .ok (.if_acmp .ne 5, 3) := by decide +kernel
theorem own_d3_18 : decode method_3_code 18 = .ok (.aload_n 0, 1) := by decide +kernel
theorem own_d3_19 : decode method_3_code 19 = .ok (.getstatic 14, 3) := by decide +kernel
theorem own_d3_22 : decode method_3_code 22 = .ok (.if_acmp .ne 5, 3) := by decide +kernel
theorem own_d3_27 : decode method_3_code 27 = .ok (.iconst (-1), 1) := by decide +kernel
theorem own_d3_28 : decode method_3_code 28 = .ok (.ireturn, 1) := by decide +kernel
theorem own_d3_25 : decode method_3_code 25 = .ok (.iconst 2, 1) := by decide +kernel
theorem own_d3_26 : decode method_3_code 26 = .ok (.ireturn, 1) := by decide +kernel
theorem own_d3_16 : decode method_3_code 16 = .ok (.iconst 1, 1) := by decide +kernel
theorem own_d3_17 : decode method_3_code 17 = .ok (.ireturn, 1) := by decide +kernel
theorem own_d3_7 : decode method_3_code 7 = .ok (.iconst 0, 1) := by decide +kernel
theorem own_d3_8 : decode method_3_code 8 = .ok (.ireturn, 1) := by decide +kernel
theorem own_pl_3 : plainFor (⟨"com/example/ferryway/ferryway/tool/TruthOrPinLaw", "rank", "(Lcom/example/ferryway/ferryway/tool/CCondition$Truth;)I"⟩ : MethodName) = true := plainFor_of_name (by first | (simp [plainName, overriddenIn]; done) | decide +kernel)
theorem own_ef_4 (p1 : Int32) (p2 : Int32)  (m : MethodId) : entryFrame m #[(.int p1), (.int p2)] 2 = mkF m 0 #[.val (.int p1), .val (.int p2)] [] := by first | (simp [entryFrame, mkF, argsToLocals, Value.category]; done) | rfl
theorem own_d4_0 : decode jdk_29_method_65_code 0 = .ok (.iload_n 0, 1) := by decide +kernel
theorem own_d4_1 : decode jdk_29_method_65_code 1 = .ok (.iload_n 1, 1) := by decide +kernel
theorem own_d4_2 : decode jdk_29_method_65_code 2 = .ok (.if_icmp .lt 7, 3) := by decide +kernel
theorem own_d4_9 : decode jdk_29_method_65_code 9 = .ok (.iload_n 1, 1) := by decide +kernel
theorem own_d4_10 : decode jdk_29_method_65_code 10 = .ok (.ireturn, 1) := by decide +kernel
theorem own_d4_5 : decode jdk_29_method_65_code 5 = .ok (.iload_n 0, 1) := by decide +kernel
theorem own_d4_6 : decode jdk_29_method_65_code 6 = .ok (.goto 4, 3) := by decide +kernel
theorem own_pl_4 : plainFor (⟨"java/lang/Math", "max", "(II)I"⟩ : MethodName) = true := Jvm.Free.JP.mathPlain rfl (by decide +kernel)
theorem own_ef_2 (p1 : Addr) (p2 : Addr)  (m : MethodId) : entryFrame m #[(.ref p1), (.ref p2)] 2 = mkF m 0 #[.val (.ref p1), .val (.ref p2)] [] := by first | (simp [entryFrame, mkF, argsToLocals, Value.category]; done) | rfl
theorem own_d2_0 : decode prog_32_method_6_code 0 = .ok (.aload_n 0, 1) := by decide +kernel
theorem own_d2_1 : decode prog_32_method_6_code 1 = .ok (.getstatic 7, 3) := by decide +kernel
theorem own_d2_4 : decode prog_32_method_6_code 4 = .ok (.if_acmp .eq 10, 3) := by decide +kernel
theorem own_d2_14 : decode prog_32_method_6_code 14 = .ok (.getstatic 7, 3) := by decide +kernel
theorem own_d2_17 : decode prog_32_method_6_code 17 = .ok (.areturn, 1) := by decide +kernel
theorem own_d2_7 : decode prog_32_method_6_code 7 = .ok (.aload_n 1, 1) := by decide +kernel
theorem own_d2_8 : decode prog_32_method_6_code 8 = .ok (.getstatic 7, 3) := by decide +kernel
theorem own_d2_11 : decode prog_32_method_6_code 11 = .ok (.if_acmp .ne 7, 3) := by decide +kernel
theorem own_d2_18 : decode prog_32_method_6_code 18 = .ok (.aload_n 0, 1) := by decide +kernel
theorem own_d2_19 : decode prog_32_method_6_code 19 = .ok (.getstatic 3, 3) := by decide +kernel
theorem own_d2_22 : decode prog_32_method_6_code 22 = .ok (.if_acmp .ne 16, 3) := by decide +kernel
theorem own_d2_38 : decode prog_32_method_6_code 38 = .ok (.getstatic 10, 3) := by decide +kernel
theorem own_d2_41 : decode prog_32_method_6_code 41 = .ok (.areturn, 1) := by decide +kernel
theorem own_d2_25 : decode prog_32_method_6_code 25 = .ok (.aload_n 1, 1) := by decide +kernel
theorem own_d2_26 : decode prog_32_method_6_code 26 = .ok (.getstatic 3, 3) := by decide +kernel
theorem own_d2_29 : decode prog_32_method_6_code 29 = .ok (.if_acmp .ne 9, 3) := by decide +kernel
theorem own_d2_32 : decode prog_32_method_6_code 32 = .ok (.getstatic 3, 3) := by decide +kernel
theorem own_d2_35 : decode prog_32_method_6_code 35 = .ok (.goto 6, 3) := by decide +kernel
theorem own_pl_2 : plainFor (⟨"com/example/ferryway/ferryway/tool/CCondition$Truth", "or", "(Lcom/example/ferryway/ferryway/tool/CCondition$Truth;)Lcom/example/ferryway/ferryway/tool/CCondition$Truth;"⟩ : MethodName) = true := plainFor_of_name (by first | (simp [plainName, overriddenIn]; done) | decide +kernel)
theorem own_ef_0 (p0 : Int32) (p1 : Int32)  (m : MethodId) : entryFrame m #[(.int p0), (.int p1)] maxLocals = mkF m 0 #[.val (.int p0), .val (.int p1), .unset, .unset, .unset, .unset] [] := by first | (simp [entryFrame, mkF, argsToLocals, Value.category, maxLocals]; done) | rfl
theorem own_pd_0 : parseMethodDescriptor "(I)Lcom/example/ferryway/ferryway/tool/CCondition$Truth;" = some ⟨[.int], some (.object "com/example/ferryway/ferryway/tool/CCondition$Truth")⟩ := by decide +kernel
theorem own_pd_3 : parseMethodDescriptor "(Lcom/example/ferryway/ferryway/tool/CCondition$Truth;)Lcom/example/ferryway/ferryway/tool/CCondition$Truth;" = some ⟨[(.object "com/example/ferryway/ferryway/tool/CCondition$Truth")], some (.object "com/example/ferryway/ferryway/tool/CCondition$Truth")⟩ := by decide +kernel
theorem own_pd_2 : parseMethodDescriptor "(Lcom/example/ferryway/ferryway/tool/CCondition$Truth;)I" = some ⟨[(.object "com/example/ferryway/ferryway/tool/CCondition$Truth")], some .int⟩ := by decide +kernel
theorem own_pd_1 : parseMethodDescriptor "(II)I" = some ⟨[.int, .int], some .int⟩ := by decide +kernel
theorem own_pl_0 : plainFor x = true := plainFor_of_name (by first | (simp [plainName, overriddenIn]; done) | decide +kernel)
theorem own_mod3 (x : Int32) : (x &&& (2147483647 : Int32)) % (3 : Int32) = 0 ∨ (x &&& (2147483647 : Int32)) % (3 : Int32) = 1 ∨ (x &&& (2147483647 : Int32)) % (3 : Int32) = 2 := by
  have h := Jvm.Kit.i32_mask x 2147483647 (k := 31) (by decide) (by decide)
  have h3 : (3 : Int32).toInt = 3 := by decide
  have e := Jvm.Kit.i32_rem_nonneg (x := x &&& 2147483647) (y := 3) (by omega)
  rw [h3] at e
  have q : (x &&& 2147483647).toInt % 3 = 0 ∨ (x &&& 2147483647).toInt % 3 = 1 ∨ (x &&& 2147483647).toInt % 3 = 2 := by omega
  rcases q with q | q | q
  · exact Or.inl (Int32.toInt_inj.mp (by rw [e, q]; decide))
  · exact Or.inr (Or.inl (Int32.toInt_inj.mp (by rw [e, q]; decide)))
  · exact Or.inr (Or.inr (Int32.toInt_inj.mp (by rw [e, q]; decide)))
def own_pk (aF aT aU : Addr) (one i : Int) : Addr := if i = 0 then aF else if i = one then aT else aU
def own_rk (aF aT aU a : Addr) : Int32 := if a = aF then 0 else if a = aU then 1 else if a = aT then 2 else -1
def own_cj (u v o a b : Addr) : Addr := if a = u ∨ b = u then u else if a = v ∧ b = v then v else o
theorem own_eqv {s : State} {args : Array Value} {a b : Term} {x : Value} {n : Int32} (h : (Jvm.Cond.eq a b).value args s none s [] = some true) (ex : a.eval args s none [] s = some x) (ey : b.eval args s none [] s = some (.int n)) : x = .int n := by
  cases x <;> simp [Cond.value, ex, ey] at h ⊢
  exact h
theorem own_ord {s : State} {args : Array Value} {t : Term} {a : Addr} {n : Int32} (ev : t.eval args s none [] s = some (.ref a)) (h : (Jvm.Cond.eq (.field t "java/lang/Enum" "ordinal" "I") (.int n)).value args s none s [] = some true) : Fld s s.heap a "java/lang/Enum" "ordinal" "I" (.int n) := by
  obtain ⟨x, y, ex, ey, -⟩ := cmp_v (Or.inl h)
  have ey' : y = .int n := (Option.some.inj ((Term.int_eval n).symm.trans ey)).symm
  subst ey'
  have q : x = .int n := own_eqv h ex ey
  subst q
  exact Fld.start (by rw [← fld_at ev]; exact ex)

def own_Qmet1 (h0 : Heap) (p1 : Int32) (aF aT aU : Addr) (v : Option Value) (h : Heap) (L : List Loc) : Prop := v = some (.ref (own_pk aF aT aU 1 ((p1 &&& (2147483647 : Int32)) % (3 : Int32)).toInt)) ∧ h = h0 ∧ L = []
set_option maxRecDepth 65536 in
set_option maxHeartbeats 40000000 in
theorem own_met1 (l : Launch) (Z : State) (a0 : Array Value) (hw : ∀ d ∈ tables_1, d.before a0 Z = true) (h0 : Heap) (p1 : Int32) (aF aT aU : Addr) (S_aF : Sta Z h0 "com/example/ferryway/ferryway/tool/CCondition$Truth" "FALSE" "Lcom/example/ferryway/ferryway/tool/CCondition$Truth;" (.ref aF)) (S_aT : Sta Z h0 "com/example/ferryway/ferryway/tool/CCondition$Truth" "TRUE" "Lcom/example/ferryway/ferryway/tool/CCondition$Truth;" (.ref aT)) (S_aU : Sta Z h0 "com/example/ferryway/ferryway/tool/CCondition$Truth" "UNKNOWN" "Lcom/example/ferryway/ferryway/tool/CCondition$Truth;" (.ref aU)) :
    MetFree l (⟨"com/example/ferryway/ferryway/tool/TruthOrPinLaw", "pick", "(I)Lcom/example/ferryway/ferryway/tool/CCondition$Truth;"⟩ : MethodName) (head1 [Jvm.Cond.code (⟨"com/example/ferryway/ferryway/tool/TruthOrPinLaw", "pick", "(I)Lcom/example/ferryway/ferryway/tool/CCondition$Truth;"⟩ : MethodName) method_2_code 2 (some (.object "com/example/ferryway/ferryway/tool/CCondition$Truth"))] ({ frames := 0, cells := 0, slots := 0, locals := 0 } : Room)) (fun a U => a = #[(.int p1)] ∧ Z.Warmed39 U.vm ∧ U.heap = h0) (fun _ _ _ _ _ => True) (fun _ U o U' => ∃ v L, o = .returned v ∧ (own_Qmet1 h0 p1 aF aT aU) v U'.heap L ∧ FrameEnd U o U' L ({ frames := 0, cells := 0, slots := 0, locals := 0 } : Room).cells ({ frames := 0, cells := 0, slots := 0, locals := 0 } : Room).slots) := by
  refine OwnK.met (Q := (own_Qmet1 h0 p1 aF aT aU)) (C := ({ frames := 0, cells := 0, slots := 0, locals := 0 } : Room).cells) (N := ({ frames := 0, cells := 0, slots := 0, locals := 0 } : Room).slots) own_pl_1 (own_ef_1 p1) ?_
  intro p e s m below meth c T0 X0 hx hZ hby hml hown hnm hret hlk e0
  refine OwnK.iloadN X0 hx (hb hby own_d1_0) (pc' := 1) rfl (v := p1) rfl ?_
  refine OwnK.ldcI X0 hx hZ hown (hw _ (List.mem_of_getElem? (i := 4) rfl)) (hb hby own_d1_1) (pc' := 3) rfl ?_
  refine OwnK.iand X0 hx (hb hby own_d1_3) (pc' := 4) rfl ?_
  refine OwnK.iconst X0 hx (hb hby own_d1_4) (pc' := 5) rfl (v := (3 : Int32)) (by decide) ?_
  refine OwnK.irem X0 hx (hb hby own_d1_5) (pc' := 6) rfl (by decide) ?_
  refine OwnK.istoreN X0 hx (hb hby own_d1_6) (pc' := 7) rfl (Ls' := #[.val (.int p1), .val (.int ((p1 &&& (2147483647 : Int32)) % (3 : Int32)))]) rfl ?_
  refine OwnK.iloadN X0 hx (hb hby own_d1_7) (pc' := 8) rfl (v := ((p1 &&& (2147483647 : Int32)) % (3 : Int32))) rfl ?_
  refine OwnK.if_ne X0 hx (hb hby own_d1_8) (by decide) (pcT := 15) (by decide) (pc' := 11) rfl (fun (hc1 : ¬ ((p1 &&& (2147483647 : Int32)) % (3 : Int32)).toInt = 0) => ?_) (fun (hc1 : ((p1 &&& (2147483647 : Int32)) % (3 : Int32)).toInt = 0) => ?_)
  · refine OwnK.iloadN X0 hx (hb hby own_d1_15) (pc' := 16) rfl (v := ((p1 &&& (2147483647 : Int32)) % (3 : Int32))) rfl ?_
    refine OwnK.iconst X0 hx (hb hby own_d1_16) (pc' := 17) rfl (v := (1 : Int32)) (by decide) ?_
    refine OwnK.icmp_ne X0 hx (hb hby own_d1_17) (by decide) (pcT := 24) (by decide) (pc' := 20) rfl (fun (hc2 : ¬ ((p1 &&& (2147483647 : Int32)) % (3 : Int32)).toInt = 1) => ?_) (fun (hc2 : ((p1 &&& (2147483647 : Int32)) % (3 : Int32)).toInt = 1) => ?_)
    · refine OwnK.getS_ X0 hx hZ hown (host := "") (Or.inl (hw _ (List.mem_of_getElem? (i := 23) rfl))) Via.refl e0 S_aU (hb hby own_d1_24) (pc' := 27) rfl (fun T3 X3 e3 => ?_)
      refine OwnK.retA_ X3 hx hret rfl rfl hlk (hb hby own_d1_27) (by decide) (by decide) ?_
      exact ⟨by congr 2; simp_all [own_pk, own_rk, own_cj], e3, rfl⟩
    · refine OwnK.getS_ X0 hx hZ hown (host := "") (Or.inl (hw _ (List.mem_of_getElem? (i := 25) rfl))) Via.refl e0 S_aT (hb hby own_d1_20) (pc' := 23) rfl (fun T4 X4 e4 => ?_)
      refine OwnK.retA_ X4 hx hret rfl rfl hlk (hb hby own_d1_23) (by decide) (by decide) ?_
      exact ⟨by congr 2; simp_all [own_pk, own_rk, own_cj], e4, rfl⟩
  · refine OwnK.getS_ X0 hx hZ hown (host := "") (Or.inl (hw _ (List.mem_of_getElem? (i := 5) rfl))) Via.refl e0 S_aF (hb hby own_d1_11) (pc' := 14) rfl (fun T5 X5 e5 => ?_)
    refine OwnK.retA_ X5 hx hret rfl rfl hlk (hb hby own_d1_14) (by decide) (by decide) ?_
    exact ⟨by congr 2; simp_all [own_pk, own_rk, own_cj], e5, rfl⟩
def own_Qmet3 (h0 : Heap) (p1 : Addr) (aF aT aU : Addr) (v : Option Value) (h : Heap) (L : List Loc) : Prop := v = some (.int (own_rk aF aT aU p1)) ∧ h = h0 ∧ L = []
set_option maxRecDepth 65536 in
set_option maxHeartbeats 40000000 in
theorem own_met3 (l : Launch) (Z : State) (a0 : Array Value) (hw : ∀ d ∈ tables_1, d.before a0 Z = true) (h0 : Heap) (p1 : Addr) (aF aT aU : Addr) (S_aF : Sta Z h0 "com/example/ferryway/ferryway/tool/CCondition$Truth" "FALSE" "Lcom/example/ferryway/ferryway/tool/CCondition$Truth;" (.ref aF)) (S_aT : Sta Z h0 "com/example/ferryway/ferryway/tool/CCondition$Truth" "TRUE" "Lcom/example/ferryway/ferryway/tool/CCondition$Truth;" (.ref aT)) (S_aU : Sta Z h0 "com/example/ferryway/ferryway/tool/CCondition$Truth" "UNKNOWN" "Lcom/example/ferryway/ferryway/tool/CCondition$Truth;" (.ref aU)) :
    MetFree l (⟨"com/example/ferryway/ferryway/tool/TruthOrPinLaw", "rank", "(Lcom/example/ferryway/ferryway/tool/CCondition$Truth;)I"⟩ : MethodName) (head1 [Jvm.Cond.code (⟨"com/example/ferryway/ferryway/tool/TruthOrPinLaw", "rank", "(Lcom/example/ferryway/ferryway/tool/CCondition$Truth;)I"⟩ : MethodName) method_3_code 1 (some .int)] ({ frames := 0, cells := 0, slots := 0, locals := 0 } : Room)) (fun a U => a = #[(.ref p1)] ∧ Z.Warmed39 U.vm ∧ U.heap = h0) (fun _ _ _ _ _ => True) (fun _ U o U' => ∃ v L, o = .returned v ∧ (own_Qmet3 h0 p1 aF aT aU) v U'.heap L ∧ FrameEnd U o U' L ({ frames := 0, cells := 0, slots := 0, locals := 0 } : Room).cells ({ frames := 0, cells := 0, slots := 0, locals := 0 } : Room).slots) := by
  refine OwnK.met (Q := (own_Qmet3 h0 p1 aF aT aU)) (C := ({ frames := 0, cells := 0, slots := 0, locals := 0 } : Room).cells) (N := ({ frames := 0, cells := 0, slots := 0, locals := 0 } : Room).slots) own_pl_3 (own_ef_3 p1) ?_
  intro p e s m below meth c T0 X0 hx hZ hby hml hown hnm hret hlk e0
  refine OwnK.aloadN X0 hx (hb hby own_d3_0) (pc' := 1) rfl (v := (.ref p1)) rfl rfl ?_
  refine OwnK.getS_ X0 hx hZ hown (host := "") (Or.inl (hw _ (List.mem_of_getElem? (i := 5) rfl))) Via.refl e0 S_aF (hb hby own_d3_1) (pc' := 4) rfl (fun T1 X1 e1 => ?_)
  refine OwnK.acmp_ne X1 hx (hb hby own_d3_4) rfl rfl (by decide) (pcT := 9) (by decide) (pc' := 7) rfl (fun (hc2 : ¬ ((.ref p1) : Value) = (.ref aF)) => ?_) (fun (hc2 : ((.ref p1) : Value) = (.ref aF)) => ?_)
  · refine OwnK.aloadN X1 hx (hb hby own_d3_9) (pc' := 10) rfl (v := (.ref p1)) rfl rfl ?_
    refine OwnK.getS_ X1 hx hZ hown (host := "") (Or.inl (hw _ (List.mem_of_getElem? (i := 23) rfl))) Via.refl e1 S_aU (hb hby own_d3_10) (pc' := 13) rfl (fun T3 X3 e3 => ?_)
    refine OwnK.acmp_ne X3 hx (hb hby own_d3_13) rfl rfl (by decide) (pcT := 18) (by decide) (pc' := 16) rfl (fun (hc4 : ¬ ((.ref p1) : Value) = (.ref aU)) => ?_) (fun (hc4 : ((.ref p1) : Value) = (.ref aU)) => ?_)
    · refine OwnK.aloadN X3 hx (hb hby own_d3_18) (pc' := 19) rfl (v := (.ref p1)) rfl rfl ?_
      refine OwnK.getS_ X3 hx hZ hown (host := "") (Or.inl (hw _ (List.mem_of_getElem? (i := 25) rfl))) Via.refl e3 S_aT (hb hby own_d3_19) (pc' := 22) rfl (fun T5 X5 e5 => ?_)
      refine OwnK.acmp_ne X5 hx (hb hby own_d3_22) rfl rfl (by decide) (pcT := 27) (by decide) (pc' := 25) rfl (fun (hc6 : ¬ ((.ref p1) : Value) = (.ref aT)) => ?_) (fun (hc6 : ((.ref p1) : Value) = (.ref aT)) => ?_)
      · refine OwnK.iconst X5 hx (hb hby own_d3_27) (pc' := 28) rfl (v := (-1 : Int32)) (by decide) ?_
        refine OwnK.retI_ X5 hx hret hlk (hb hby own_d3_28) (by decide) (by decide) ?_
        exact ⟨by congr 2; simp_all [own_pk, own_rk, own_cj], e5, rfl⟩
      · refine OwnK.iconst X5 hx (hb hby own_d3_25) (pc' := 26) rfl (v := (2 : Int32)) (by decide) ?_
        refine OwnK.retI_ X5 hx hret hlk (hb hby own_d3_26) (by decide) (by decide) ?_
        exact ⟨by congr 2; simp_all [own_pk, own_rk, own_cj], e5, rfl⟩
    · refine OwnK.iconst X3 hx (hb hby own_d3_16) (pc' := 17) rfl (v := (1 : Int32)) (by decide) ?_
      refine OwnK.retI_ X3 hx hret hlk (hb hby own_d3_17) (by decide) (by decide) ?_
      exact ⟨by congr 2; simp_all [own_pk, own_rk, own_cj], e3, rfl⟩
  · refine OwnK.iconst X1 hx (hb hby own_d3_7) (pc' := 8) rfl (v := (0 : Int32)) (by decide) ?_
    refine OwnK.retI_ X1 hx hret hlk (hb hby own_d3_8) (by decide) (by decide) ?_
    exact ⟨by congr 2; simp_all [own_pk, own_rk, own_cj], e1, rfl⟩
def own_Qmet4 (h0 : Heap) (p1 : Int32) (p2 : Int32) (v : Option Value) (h : Heap) (L : List Loc) : Prop := v = some (.int (if p1.toInt < p2.toInt then p2 else p1)) ∧ h = h0 ∧ L = []
set_option maxRecDepth 65536 in
set_option maxHeartbeats 40000000 in
theorem own_met4 (l : Launch) (Z : State) (a0 : Array Value) (hw : ∀ d ∈ tables_1, d.before a0 Z = true) (h0 : Heap) (p1 : Int32) (p2 : Int32)  :
    MetFree l (⟨"java/lang/Math", "max", "(II)I"⟩ : MethodName) (head1 [Jvm.Cond.code (⟨"java/lang/Math", "max", "(II)I"⟩ : MethodName) jdk_29_method_65_code 2 (some .int)] ({ frames := 0, cells := 0, slots := 0, locals := 0 } : Room)) (fun a U => a = #[(.int p1), (.int p2)] ∧ Z.Warmed39 U.vm ∧ U.heap = h0) (fun _ _ _ _ _ => True) (fun _ U o U' => ∃ v L, o = .returned v ∧ (own_Qmet4 h0 p1 p2 ) v U'.heap L ∧ FrameEnd U o U' L ({ frames := 0, cells := 0, slots := 0, locals := 0 } : Room).cells ({ frames := 0, cells := 0, slots := 0, locals := 0 } : Room).slots) := by
  refine OwnK.met (Q := (own_Qmet4 h0 p1 p2 )) (C := ({ frames := 0, cells := 0, slots := 0, locals := 0 } : Room).cells) (N := ({ frames := 0, cells := 0, slots := 0, locals := 0 } : Room).slots) own_pl_4 (own_ef_4 p1 p2) ?_
  intro p e s m below meth c T0 X0 hx hZ hby hml hown hnm hret hlk e0
  refine OwnK.iloadN X0 hx (hb hby own_d4_0) (pc' := 1) rfl (v := p1) rfl ?_
  refine OwnK.iloadN X0 hx (hb hby own_d4_1) (pc' := 2) rfl (v := p2) rfl ?_
  refine OwnK.icmp_lt X0 hx (hb hby own_d4_2) (by decide) (pcT := 9) (by decide) (pc' := 5) rfl (fun (hc1 : p1.toInt < p2.toInt) => ?_) (fun (hc1 : p2.toInt ≤ p1.toInt) => ?_)
  · refine OwnK.iloadN X0 hx (hb hby own_d4_9) (pc' := 10) rfl (v := p2) rfl ?_
    refine OwnK.retI_ X0 hx hret hlk (hb hby own_d4_10) (by decide) (by decide) ?_
    exact ⟨by first | rw [if_pos (by assumption)] | rw [if_neg (by omega)], e0, rfl⟩
  · refine OwnK.iloadN X0 hx (hb hby own_d4_5) (pc' := 6) rfl (v := p1) rfl ?_
    refine OwnK.goto_ X0 hx (hb hby own_d4_6) (by decide) (pc' := 10) (by decide) ?_
    refine OwnK.retI_ X0 hx hret hlk (hb hby own_d4_10) (by decide) (by decide) ?_
    exact ⟨by first | rw [if_pos (by assumption)] | rw [if_neg (by omega)], e0, rfl⟩
def own_Qmet2 (h0 : Heap) (p1 : Addr) (p2 : Addr) (aF aT aU : Addr) (v : Option Value) (h : Heap) (L : List Loc) : Prop := v = some (.ref (own_cj aT aF aU p1 p2)) ∧ h = h0 ∧ L = []
set_option maxRecDepth 65536 in
set_option maxHeartbeats 40000000 in
theorem own_met2 (l : Launch) (Z : State) (a0 : Array Value) (hw : ∀ d ∈ tables_1, d.before a0 Z = true) (h0 : Heap) (p1 : Addr) (p2 : Addr) (aF aT aU : Addr) (S_aF : Sta Z h0 "com/example/ferryway/ferryway/tool/CCondition$Truth" "FALSE" "Lcom/example/ferryway/ferryway/tool/CCondition$Truth;" (.ref aF)) (S_aT : Sta Z h0 "com/example/ferryway/ferryway/tool/CCondition$Truth" "TRUE" "Lcom/example/ferryway/ferryway/tool/CCondition$Truth;" (.ref aT)) (S_aU : Sta Z h0 "com/example/ferryway/ferryway/tool/CCondition$Truth" "UNKNOWN" "Lcom/example/ferryway/ferryway/tool/CCondition$Truth;" (.ref aU)) :
    MetFree l (⟨"com/example/ferryway/ferryway/tool/CCondition$Truth", "or", "(Lcom/example/ferryway/ferryway/tool/CCondition$Truth;)Lcom/example/ferryway/ferryway/tool/CCondition$Truth;"⟩ : MethodName) (head1 [Jvm.Cond.code (⟨"com/example/ferryway/ferryway/tool/CCondition$Truth", "or", "(Lcom/example/ferryway/ferryway/tool/CCondition$Truth;)Lcom/example/ferryway/ferryway/tool/CCondition$Truth;"⟩ : MethodName) prog_32_method_6_code 2 (some (.object "com/example/ferryway/ferryway/tool/CCondition$Truth"))] ({ frames := 0, cells := 0, slots := 0, locals := 0 } : Room)) (fun a U => a = #[(.ref p1), (.ref p2)] ∧ Z.Warmed39 U.vm ∧ U.heap = h0) (fun _ _ _ _ _ => True) (fun _ U o U' => ∃ v L, o = .returned v ∧ (own_Qmet2 h0 p1 p2 aF aT aU) v U'.heap L ∧ FrameEnd U o U' L ({ frames := 0, cells := 0, slots := 0, locals := 0 } : Room).cells ({ frames := 0, cells := 0, slots := 0, locals := 0 } : Room).slots) := by
  refine OwnK.met (Q := (own_Qmet2 h0 p1 p2 aF aT aU)) (C := ({ frames := 0, cells := 0, slots := 0, locals := 0 } : Room).cells) (N := ({ frames := 0, cells := 0, slots := 0, locals := 0 } : Room).slots) own_pl_2 (own_ef_2 p1 p2) ?_
  intro p e s m below meth c T0 X0 hx hZ hby hml hown hnm hret hlk e0
  refine OwnK.aloadN X0 hx (hb hby own_d2_0) (pc' := 1) rfl (v := (.ref p1)) rfl rfl ?_
  refine OwnK.getS_ X0 hx hZ hown (host := "") (Or.inl (hw _ (List.mem_of_getElem? (i := 13) rfl))) Via.refl e0 S_aT (hb hby own_d2_1) (pc' := 4) rfl (fun T1 X1 e1 => ?_)
  refine OwnK.acmp_eq X1 hx (hb hby own_d2_4) rfl rfl (by decide) (pcT := 14) (by decide) (pc' := 7) rfl (fun (hc2 : ((.ref p1) : Value) = (.ref aT)) => ?_) (fun (hc2 : ¬ ((.ref p1) : Value) = (.ref aT)) => ?_)
  · refine OwnK.getS_ X1 hx hZ hown (host := "") (Or.inl (hw _ (List.mem_of_getElem? (i := 13) rfl))) Via.refl e1 S_aT (hb hby own_d2_14) (pc' := 17) rfl (fun T3 X3 e3 => ?_)
    refine OwnK.retA_ X3 hx hret rfl rfl hlk (hb hby own_d2_17) (by decide) (by decide) ?_
    exact ⟨by congr 2; simp_all [own_pk, own_rk, own_cj], e3, rfl⟩
  · refine OwnK.aloadN X1 hx (hb hby own_d2_7) (pc' := 8) rfl (v := (.ref p2)) rfl rfl ?_
    refine OwnK.getS_ X1 hx hZ hown (host := "") (Or.inl (hw _ (List.mem_of_getElem? (i := 13) rfl))) Via.refl e1 S_aT (hb hby own_d2_8) (pc' := 11) rfl (fun T4 X4 e4 => ?_)
    refine OwnK.acmp_ne X4 hx (hb hby own_d2_11) rfl rfl (by decide) (pcT := 18) (by decide) (pc' := 14) rfl (fun (hc5 : ¬ ((.ref p2) : Value) = (.ref aT)) => ?_) (fun (hc5 : ((.ref p2) : Value) = (.ref aT)) => ?_)
    · refine OwnK.aloadN X4 hx (hb hby own_d2_18) (pc' := 19) rfl (v := (.ref p1)) rfl rfl ?_
      refine OwnK.getS_ X4 hx hZ hown (host := "") (Or.inl (hw _ (List.mem_of_getElem? (i := 15) rfl))) Via.refl e4 S_aF (hb hby own_d2_19) (pc' := 22) rfl (fun T6 X6 e6 => ?_)
      refine OwnK.acmp_ne X6 hx (hb hby own_d2_22) rfl rfl (by decide) (pcT := 38) (by decide) (pc' := 25) rfl (fun (hc7 : ¬ ((.ref p1) : Value) = (.ref aF)) => ?_) (fun (hc7 : ((.ref p1) : Value) = (.ref aF)) => ?_)
      · refine OwnK.getS_ X6 hx hZ hown (host := "") (Or.inl (hw _ (List.mem_of_getElem? (i := 26) rfl))) Via.refl e6 S_aU (hb hby own_d2_38) (pc' := 41) rfl (fun T8 X8 e8 => ?_)
        refine OwnK.retA_ X8 hx hret rfl rfl hlk (hb hby own_d2_41) (by decide) (by decide) ?_
        exact ⟨by congr 2; simp_all [own_pk, own_rk, own_cj], e8, rfl⟩
      · refine OwnK.aloadN X6 hx (hb hby own_d2_25) (pc' := 26) rfl (v := (.ref p2)) rfl rfl ?_
        refine OwnK.getS_ X6 hx hZ hown (host := "") (Or.inl (hw _ (List.mem_of_getElem? (i := 15) rfl))) Via.refl e6 S_aF (hb hby own_d2_26) (pc' := 29) rfl (fun T9 X9 e9 => ?_)
        refine OwnK.acmp_ne X9 hx (hb hby own_d2_29) rfl rfl (by decide) (pcT := 38) (by decide) (pc' := 32) rfl (fun (hc10 : ¬ ((.ref p2) : Value) = (.ref aF)) => ?_) (fun (hc10 : ((.ref p2) : Value) = (.ref aF)) => ?_)
        · refine OwnK.getS_ X9 hx hZ hown (host := "") (Or.inl (hw _ (List.mem_of_getElem? (i := 26) rfl))) Via.refl e9 S_aU (hb hby own_d2_38) (pc' := 41) rfl (fun T11 X11 e11 => ?_)
          refine OwnK.retA_ X11 hx hret rfl rfl hlk (hb hby own_d2_41) (by decide) (by decide) ?_
          exact ⟨by congr 2; simp_all [own_pk, own_rk, own_cj], e11, rfl⟩
        · refine OwnK.getS_ X9 hx hZ hown (host := "") (Or.inl (hw _ (List.mem_of_getElem? (i := 15) rfl))) Via.refl e9 S_aF (hb hby own_d2_32) (pc' := 35) rfl (fun T12 X12 e12 => ?_)
          refine OwnK.goto_ X12 hx (hb hby own_d2_35) (by decide) (pc' := 41) (by decide) ?_
          refine OwnK.retA_ X12 hx hret rfl rfl hlk (hb hby own_d2_41) (by decide) (by decide) ?_
          exact ⟨by congr 2; simp_all [own_pk, own_rk, own_cj], e12, rfl⟩
    · refine OwnK.getS_ X4 hx hZ hown (host := "") (Or.inl (hw _ (List.mem_of_getElem? (i := 13) rfl))) Via.refl e4 S_aT (hb hby own_d2_14) (pc' := 17) rfl (fun T13 X13 e13 => ?_)
      refine OwnK.retA_ X13 hx hret rfl rfl hlk (hb hby own_d2_17) (by decide) (by decide) ?_
      exact ⟨by congr 2; simp_all [own_pk, own_rk, own_cj], e13, rfl⟩
set_option maxRecDepth 65536 in
set_option maxHeartbeats 40000000 in
theorem own_law (l : Launch) (Z : State) (a0 : Array Value) (hw : ∀ d ∈ tables_1, d.before a0 Z = true) (ws : List Jvm.Cond) (h0 : Heap) (n0 : Nat) (Z0 : n0 ≤ h0.size) (p0 : Int32) (p1 : Int32) (aF aT aU : Addr) (S_aF : Sta Z h0 "com/example/ferryway/ferryway/tool/CCondition$Truth" "FALSE" "Lcom/example/ferryway/ferryway/tool/CCondition$Truth;" (.ref aF)) (S_aT : Sta Z h0 "com/example/ferryway/ferryway/tool/CCondition$Truth" "TRUE" "Lcom/example/ferryway/ferryway/tool/CCondition$Truth;" (.ref aT)) (S_aU : Sta Z h0 "com/example/ferryway/ferryway/tool/CCondition$Truth" "UNKNOWN" "Lcom/example/ferryway/ferryway/tool/CCondition$Truth;" (.ref aU)) (nFT : aF ≠ aT) (nFU : aF ≠ aU) (nTU : aT ≠ aU) (E_aF : Exa Z h0 aF "com/example/ferryway/ferryway/tool/CCondition$Truth") (E_aT : Exa Z h0 aT "com/example/ferryway/ferryway/tool/CCondition$Truth") (E_aU : Exa Z h0 aU "com/example/ferryway/ferryway/tool/CCondition$Truth") :
    MetFree l x (head1 (Jvm.Cond.code x code maxLocals ret :: ws) room_1) (fun a U => a = #[(.int p0), (.int p1)] ∧ Z.Warmed39 U.vm ∧ U.heap = h0) (fun _ _ _ _ _ => True) (fun _ U o U' => ∃ v L, o = .returned v ∧ (fun (v : Option Value) (_ : Heap) (L : List Loc) => v = some (.int (1 : Int32)) ∧ Fr n0 L) v U'.heap L ∧ FrameEnd U o U' L 0 0) := by
  refine OwnK.met (Q := (fun (v : Option Value) (_ : Heap) (L : List Loc) => v = some (.int (1 : Int32)) ∧ Fr n0 L)) (C := 0) (N := 0) own_pl_0 (own_ef_0 p0 p1) ?_
  intro p e s m below meth c T0 X0 hx hZ hby hml hown hnm hret hlk e0
  have N0 := Fr.nil n0
  refine OwnK.iloadN X0 hx (hb hby at_0) (pc' := 1) rfl (v := p0) rfl ?_
  refine OwnK.callS_ X0 hx hZ hown (y := (⟨"com/example/ferryway/ferryway/tool/TruthOrPinLaw", "pick", "(I)Lcom/example/ferryway/ferryway/tool/CCondition$Truth;"⟩ : MethodName)) (hw _ (List.mem_of_getElem? (i := 0) rfl)) (hw _ (List.mem_of_getElem? (i := 1) rfl)) (hw _ (List.mem_of_getElem? (i := 2) rfl)) (hw _ (List.mem_of_getElem? (i := 3) rfl)) (by decide) (own_met1 l Z a0 hw h0 p0 aF aT aU S_aF S_aT S_aU ) (by decide) (W := 0) (by decide) e0 (by rw [hml]; rfl) own_pd_0 (argsL := [(.int p0)]) rfl (S := []) rfl (Nat.le_of_eq rfl) (hb hby at_1) (pc' := 4) rfl (by decide) (by decide) (fun T1 v1 L1 X1 hQ1 => ?_)
  obtain ⟨hv1, e1, rfl⟩ := hQ1
  have N2 := Fr.app N0 (Fr.nil n0)
  rcases own_mod3 p0 with m3 | m3 | m3
  · obtain rfl : v1 = some (.ref aF) := hv1.trans (by rw [m3]; simp [own_pk])
    refine OwnK.astoreN X1 hx (hb hby at_4) (pc' := 5) rfl rfl (Ls' := #[.val (.int p0), .val (.int p1), .val (.ref aF), .unset, .unset, .unset]) rfl ?_
    refine OwnK.iloadN X1 hx (hb hby at_5) (pc' := 6) rfl (v := p1) rfl ?_
    refine OwnK.callS_ X1 hx hZ hown (y := (⟨"com/example/ferryway/ferryway/tool/TruthOrPinLaw", "pick", "(I)Lcom/example/ferryway/ferryway/tool/CCondition$Truth;"⟩ : MethodName)) (hw _ (List.mem_of_getElem? (i := 0) rfl)) (hw _ (List.mem_of_getElem? (i := 1) rfl)) (hw _ (List.mem_of_getElem? (i := 2) rfl)) (hw _ (List.mem_of_getElem? (i := 3) rfl)) (by decide) (own_met1 l Z a0 hw h0 p1 aF aT aU S_aF S_aT S_aU ) (by decide) (W := 0) (by decide) e1 (by rw [hml]; rfl) own_pd_0 (argsL := [(.int p1)]) rfl (S := []) rfl (Nat.le_of_eq rfl) (hb hby at_6) (pc' := 9) rfl (by decide) (by decide) (fun T3 v3 L3 X3 hQ3 => ?_)
    obtain ⟨hv3, e3, rfl⟩ := hQ3
    have N4 := Fr.app N2 (Fr.nil n0)
    rcases own_mod3 p1 with m3 | m3 | m3
    · obtain rfl : v3 = some (.ref aF) := hv3.trans (by rw [m3]; simp [own_pk])
      refine OwnK.astoreN X3 hx (hb hby at_9) (pc' := 10) rfl rfl (Ls' := #[.val (.int p0), .val (.int p1), .val (.ref aF), .val (.ref aF), .unset, .unset]) rfl ?_
      refine OwnK.aloadN X3 hx (hb hby at_10) (pc' := 11) rfl (v := (.ref aF)) rfl rfl ?_
      refine OwnK.aloadN X3 hx (hb hby at_11) (pc' := 12) rfl (v := (.ref aF)) rfl rfl ?_
      refine OwnK.callV_ X3 hx hZ hown (y := (⟨"com/example/ferryway/ferryway/tool/CCondition$Truth", "or", "(Lcom/example/ferryway/ferryway/tool/CCondition$Truth;)Lcom/example/ferryway/ferryway/tool/CCondition$Truth;"⟩ : MethodName)) (z := (⟨"com/example/ferryway/ferryway/tool/CCondition$Truth", "or", "(Lcom/example/ferryway/ferryway/tool/CCondition$Truth;)Lcom/example/ferryway/ferryway/tool/CCondition$Truth;"⟩ : MethodName)) (a := aF) (hw _ (List.mem_of_getElem? (i := 8) rfl)) (hw _ (List.mem_of_getElem? (i := 9) rfl)) (notFace_of_selects (args := #[]) (mvT hZ (hw _ (List.mem_of_getElem? (i := 11) rfl)))) (hw _ (List.mem_of_getElem? (i := 11) rfl)) (hw _ (List.mem_of_getElem? (i := 10) rfl)) (hw _ (List.mem_of_getElem? (i := 12) rfl)) (hw _ (List.mem_of_getElem? (i := 6) rfl)) (by decide) E_aF (own_met2 l Z a0 hw h0 aF aF aF aT aU S_aF S_aT S_aU ) (by decide) (W := 0) (by decide) e3 (by rw [hml]; rfl) own_pd_3 (argsL := [(.ref aF)]) rfl (S := []) rfl (Nat.le_of_eq rfl) (hb hby at_12) (pc' := 15) rfl (by decide) (by decide) (fun T5 v5 L5 X5 hQ5 => ?_)
      obtain ⟨hv5, e5, rfl⟩ := hQ5
      obtain rfl : v5 = some (.ref aF) := hv5.trans (congrArg some (congrArg Value.ref (by simp [own_cj, nFT, nFU, nTU, Ne.symm nFT, Ne.symm nFU, Ne.symm nTU] : own_cj aT aF aU aF aF = aF)))
      have N6 := Fr.app N4 (Fr.nil n0)
      refine OwnK.astore X5 hx (hb hby at_15) (pc' := 17) rfl rfl (Ls' := #[.val (.int p0), .val (.int p1), .val (.ref aF), .val (.ref aF), .val (.ref aF), .unset]) rfl ?_
      refine OwnK.aloadN X5 hx (hb hby at_17) (pc' := 18) rfl (v := (.ref aF)) rfl rfl ?_
      refine OwnK.callS_ X5 hx hZ hown (y := (⟨"com/example/ferryway/ferryway/tool/TruthOrPinLaw", "rank", "(Lcom/example/ferryway/ferryway/tool/CCondition$Truth;)I"⟩ : MethodName)) (hw _ (List.mem_of_getElem? (i := 16) rfl)) (hw _ (List.mem_of_getElem? (i := 17) rfl)) (hw _ (List.mem_of_getElem? (i := 2) rfl)) (hw _ (List.mem_of_getElem? (i := 18) rfl)) (by decide) (own_met3 l Z a0 hw h0 aF aF aT aU S_aF S_aT S_aU ) (by decide) (W := 0) (by decide) e5 (by rw [hml]; rfl) own_pd_2 (argsL := [(.ref aF)]) rfl (S := []) rfl (Nat.le_of_eq rfl) (hb hby at_18) (pc' := 21) rfl (by decide) (by decide) (fun T7 v7 L7 X7 hQ7 => ?_)
      obtain ⟨hv7, e7, rfl⟩ := hQ7
      obtain rfl : v7 = some (.int (0 : Int32)) := hv7.trans (congrArg some (congrArg Value.int (by simp [own_pk, own_rk, own_cj, nFT, nFU, nTU, Ne.symm nFT, Ne.symm nFU, Ne.symm nTU])))
      have N8 := Fr.app N6 (Fr.nil n0)
      refine OwnK.aloadN X7 hx (hb hby at_21) (pc' := 22) rfl (v := (.ref aF)) rfl rfl ?_
      refine OwnK.callS_ X7 hx hZ hown (y := (⟨"com/example/ferryway/ferryway/tool/TruthOrPinLaw", "rank", "(Lcom/example/ferryway/ferryway/tool/CCondition$Truth;)I"⟩ : MethodName)) (hw _ (List.mem_of_getElem? (i := 16) rfl)) (hw _ (List.mem_of_getElem? (i := 17) rfl)) (hw _ (List.mem_of_getElem? (i := 2) rfl)) (hw _ (List.mem_of_getElem? (i := 18) rfl)) (by decide) (own_met3 l Z a0 hw h0 aF aF aT aU S_aF S_aT S_aU ) (by decide) (W := 1) (by decide) e7 (by rw [hml]; rfl) own_pd_2 (argsL := [(.ref aF)]) rfl (S := [(.int (0 : Int32))]) rfl (Nat.le_of_eq rfl) (hb hby at_22) (pc' := 25) rfl (by decide) (by decide) (fun T9 v9 L9 X9 hQ9 => ?_)
      obtain ⟨hv9, e9, rfl⟩ := hQ9
      obtain rfl : v9 = some (.int (0 : Int32)) := hv9.trans (congrArg some (congrArg Value.int (by simp [own_pk, own_rk, own_cj, nFT, nFU, nTU, Ne.symm nFT, Ne.symm nFU, Ne.symm nTU])))
      have N10 := Fr.app N8 (Fr.nil n0)
      refine OwnK.callS_ X9 hx hZ hown (y := (⟨"java/lang/Math", "max", "(II)I"⟩ : MethodName)) (hw _ (List.mem_of_getElem? (i := 19) rfl)) (hw _ (List.mem_of_getElem? (i := 20) rfl)) (hw _ (List.mem_of_getElem? (i := 21) rfl)) (hw _ (List.mem_of_getElem? (i := 22) rfl)) (by decide) (own_met4 l Z a0 hw h0 (0 : Int32) (0 : Int32)  ) (by decide) (W := 0) (by decide) e9 (by rw [hml]; rfl) own_pd_1 (argsL := [(.int (0 : Int32)), (.int (0 : Int32))]) rfl (S := []) rfl (Nat.le_of_eq rfl) (hb hby at_25) (pc' := 28) rfl (by decide) (by decide) (fun T11 v11 L11 X11 hQ11 => ?_)
      obtain ⟨hv11, e11, rfl⟩ := hQ11
      obtain rfl : v11 = some (.int (0 : Int32)) := hv11.trans (congrArg some (congrArg Value.int (by decide)))
      have N12 := Fr.app N10 (Fr.nil n0)
      refine OwnK.istore X11 hx (hb hby at_28) (pc' := 30) rfl (Ls' := #[.val (.int p0), .val (.int p1), .val (.ref aF), .val (.ref aF), .val (.ref aF), .val (.int (0 : Int32))]) rfl ?_
      refine OwnK.aload X11 hx (hb hby at_30) (pc' := 32) rfl (v := (.ref aF)) rfl rfl ?_
      refine OwnK.callS_ X11 hx hZ hown (y := (⟨"com/example/ferryway/ferryway/tool/TruthOrPinLaw", "rank", "(Lcom/example/ferryway/ferryway/tool/CCondition$Truth;)I"⟩ : MethodName)) (hw _ (List.mem_of_getElem? (i := 16) rfl)) (hw _ (List.mem_of_getElem? (i := 17) rfl)) (hw _ (List.mem_of_getElem? (i := 2) rfl)) (hw _ (List.mem_of_getElem? (i := 18) rfl)) (by decide) (own_met3 l Z a0 hw h0 aF aF aT aU S_aF S_aT S_aU ) (by decide) (W := 0) (by decide) e11 (by rw [hml]; rfl) own_pd_2 (argsL := [(.ref aF)]) rfl (S := []) rfl (Nat.le_of_eq rfl) (hb hby at_32) (pc' := 35) rfl (by decide) (by decide) (fun T13 v13 L13 X13 hQ13 => ?_)
      obtain ⟨hv13, e13, rfl⟩ := hQ13
      obtain rfl : v13 = some (.int (0 : Int32)) := hv13.trans (congrArg some (congrArg Value.int (by simp [own_pk, own_rk, own_cj, nFT, nFU, nTU, Ne.symm nFT, Ne.symm nFU, Ne.symm nTU])))
      have N14 := Fr.app N12 (Fr.nil n0)
      refine OwnK.iload X13 hx (hb hby at_35) (pc' := 37) rfl (v := (0 : Int32)) rfl ?_
      refine OwnK.icmp_ne X13 hx (hb hby at_37) (by decide) (pcT := 44) (by decide) (pc' := 40) rfl (fun (hc37 : ¬ 0 = 0) => absurd hc37 (by decide)) (fun hc37 => ?_)
      refine OwnK.iconst X13 hx (hb hby at_40) (pc' := 41) rfl (v := (1 : Int32)) (by decide) ?_
      refine OwnK.goto_ X13 hx (hb hby at_41) (by decide) (pc' := 45) (by decide) ?_
      refine OwnK.retN_ X13 hx hret (by simp) hlk (hb hby at_45) (by decide) (by decide) ?_
      exact ⟨rfl, N14⟩
    · obtain rfl : v3 = some (.ref aT) := hv3.trans (by rw [m3]; simp [own_pk])
      refine OwnK.astoreN X3 hx (hb hby at_9) (pc' := 10) rfl rfl (Ls' := #[.val (.int p0), .val (.int p1), .val (.ref aF), .val (.ref aT), .unset, .unset]) rfl ?_
      refine OwnK.aloadN X3 hx (hb hby at_10) (pc' := 11) rfl (v := (.ref aF)) rfl rfl ?_
      refine OwnK.aloadN X3 hx (hb hby at_11) (pc' := 12) rfl (v := (.ref aT)) rfl rfl ?_
      refine OwnK.callV_ X3 hx hZ hown (y := (⟨"com/example/ferryway/ferryway/tool/CCondition$Truth", "or", "(Lcom/example/ferryway/ferryway/tool/CCondition$Truth;)Lcom/example/ferryway/ferryway/tool/CCondition$Truth;"⟩ : MethodName)) (z := (⟨"com/example/ferryway/ferryway/tool/CCondition$Truth", "or", "(Lcom/example/ferryway/ferryway/tool/CCondition$Truth;)Lcom/example/ferryway/ferryway/tool/CCondition$Truth;"⟩ : MethodName)) (a := aF) (hw _ (List.mem_of_getElem? (i := 8) rfl)) (hw _ (List.mem_of_getElem? (i := 9) rfl)) (notFace_of_selects (args := #[]) (mvT hZ (hw _ (List.mem_of_getElem? (i := 11) rfl)))) (hw _ (List.mem_of_getElem? (i := 11) rfl)) (hw _ (List.mem_of_getElem? (i := 10) rfl)) (hw _ (List.mem_of_getElem? (i := 12) rfl)) (hw _ (List.mem_of_getElem? (i := 6) rfl)) (by decide) E_aF (own_met2 l Z a0 hw h0 aF aT aF aT aU S_aF S_aT S_aU ) (by decide) (W := 0) (by decide) e3 (by rw [hml]; rfl) own_pd_3 (argsL := [(.ref aT)]) rfl (S := []) rfl (Nat.le_of_eq rfl) (hb hby at_12) (pc' := 15) rfl (by decide) (by decide) (fun T15 v15 L15 X15 hQ15 => ?_)
      obtain ⟨hv15, e15, rfl⟩ := hQ15
      obtain rfl : v15 = some (.ref aT) := hv15.trans (congrArg some (congrArg Value.ref (by simp [own_cj, nFT, nFU, nTU, Ne.symm nFT, Ne.symm nFU, Ne.symm nTU] : own_cj aT aF aU aF aT = aT)))
      have N16 := Fr.app N4 (Fr.nil n0)
      refine OwnK.astore X15 hx (hb hby at_15) (pc' := 17) rfl rfl (Ls' := #[.val (.int p0), .val (.int p1), .val (.ref aF), .val (.ref aT), .val (.ref aT), .unset]) rfl ?_
      refine OwnK.aloadN X15 hx (hb hby at_17) (pc' := 18) rfl (v := (.ref aF)) rfl rfl ?_
      refine OwnK.callS_ X15 hx hZ hown (y := (⟨"com/example/ferryway/ferryway/tool/TruthOrPinLaw", "rank", "(Lcom/example/ferryway/ferryway/tool/CCondition$Truth;)I"⟩ : MethodName)) (hw _ (List.mem_of_getElem? (i := 16) rfl)) (hw _ (List.mem_of_getElem? (i := 17) rfl)) (hw _ (List.mem_of_getElem? (i := 2) rfl)) (hw _ (List.mem_of_getElem? (i := 18) rfl)) (by decide) (own_met3 l Z a0 hw h0 aF aF aT aU S_aF S_aT S_aU ) (by decide) (W := 0) (by decide) e15 (by rw [hml]; rfl) own_pd_2 (argsL := [(.ref aF)]) rfl (S := []) rfl (Nat.le_of_eq rfl) (hb hby at_18) (pc' := 21) rfl (by decide) (by decide) (fun T17 v17 L17 X17 hQ17 => ?_)
      obtain ⟨hv17, e17, rfl⟩ := hQ17
      obtain rfl : v17 = some (.int (0 : Int32)) := hv17.trans (congrArg some (congrArg Value.int (by simp [own_pk, own_rk, own_cj, nFT, nFU, nTU, Ne.symm nFT, Ne.symm nFU, Ne.symm nTU])))
      have N18 := Fr.app N16 (Fr.nil n0)
      refine OwnK.aloadN X17 hx (hb hby at_21) (pc' := 22) rfl (v := (.ref aT)) rfl rfl ?_
      refine OwnK.callS_ X17 hx hZ hown (y := (⟨"com/example/ferryway/ferryway/tool/TruthOrPinLaw", "rank", "(Lcom/example/ferryway/ferryway/tool/CCondition$Truth;)I"⟩ : MethodName)) (hw _ (List.mem_of_getElem? (i := 16) rfl)) (hw _ (List.mem_of_getElem? (i := 17) rfl)) (hw _ (List.mem_of_getElem? (i := 2) rfl)) (hw _ (List.mem_of_getElem? (i := 18) rfl)) (by decide) (own_met3 l Z a0 hw h0 aT aF aT aU S_aF S_aT S_aU ) (by decide) (W := 1) (by decide) e17 (by rw [hml]; rfl) own_pd_2 (argsL := [(.ref aT)]) rfl (S := [(.int (0 : Int32))]) rfl (Nat.le_of_eq rfl) (hb hby at_22) (pc' := 25) rfl (by decide) (by decide) (fun T19 v19 L19 X19 hQ19 => ?_)
      obtain ⟨hv19, e19, rfl⟩ := hQ19
      obtain rfl : v19 = some (.int (2 : Int32)) := hv19.trans (congrArg some (congrArg Value.int (by simp [own_pk, own_rk, own_cj, nFT, nFU, nTU, Ne.symm nFT, Ne.symm nFU, Ne.symm nTU])))
      have N20 := Fr.app N18 (Fr.nil n0)
      refine OwnK.callS_ X19 hx hZ hown (y := (⟨"java/lang/Math", "max", "(II)I"⟩ : MethodName)) (hw _ (List.mem_of_getElem? (i := 19) rfl)) (hw _ (List.mem_of_getElem? (i := 20) rfl)) (hw _ (List.mem_of_getElem? (i := 21) rfl)) (hw _ (List.mem_of_getElem? (i := 22) rfl)) (by decide) (own_met4 l Z a0 hw h0 (0 : Int32) (2 : Int32)  ) (by decide) (W := 0) (by decide) e19 (by rw [hml]; rfl) own_pd_1 (argsL := [(.int (0 : Int32)), (.int (2 : Int32))]) rfl (S := []) rfl (Nat.le_of_eq rfl) (hb hby at_25) (pc' := 28) rfl (by decide) (by decide) (fun T21 v21 L21 X21 hQ21 => ?_)
      obtain ⟨hv21, e21, rfl⟩ := hQ21
      obtain rfl : v21 = some (.int (2 : Int32)) := hv21.trans (congrArg some (congrArg Value.int (by decide)))
      have N22 := Fr.app N20 (Fr.nil n0)
      refine OwnK.istore X21 hx (hb hby at_28) (pc' := 30) rfl (Ls' := #[.val (.int p0), .val (.int p1), .val (.ref aF), .val (.ref aT), .val (.ref aT), .val (.int (2 : Int32))]) rfl ?_
      refine OwnK.aload X21 hx (hb hby at_30) (pc' := 32) rfl (v := (.ref aT)) rfl rfl ?_
      refine OwnK.callS_ X21 hx hZ hown (y := (⟨"com/example/ferryway/ferryway/tool/TruthOrPinLaw", "rank", "(Lcom/example/ferryway/ferryway/tool/CCondition$Truth;)I"⟩ : MethodName)) (hw _ (List.mem_of_getElem? (i := 16) rfl)) (hw _ (List.mem_of_getElem? (i := 17) rfl)) (hw _ (List.mem_of_getElem? (i := 2) rfl)) (hw _ (List.mem_of_getElem? (i := 18) rfl)) (by decide) (own_met3 l Z a0 hw h0 aT aF aT aU S_aF S_aT S_aU ) (by decide) (W := 0) (by decide) e21 (by rw [hml]; rfl) own_pd_2 (argsL := [(.ref aT)]) rfl (S := []) rfl (Nat.le_of_eq rfl) (hb hby at_32) (pc' := 35) rfl (by decide) (by decide) (fun T23 v23 L23 X23 hQ23 => ?_)
      obtain ⟨hv23, e23, rfl⟩ := hQ23
      obtain rfl : v23 = some (.int (2 : Int32)) := hv23.trans (congrArg some (congrArg Value.int (by simp [own_pk, own_rk, own_cj, nFT, nFU, nTU, Ne.symm nFT, Ne.symm nFU, Ne.symm nTU])))
      have N24 := Fr.app N22 (Fr.nil n0)
      refine OwnK.iload X23 hx (hb hby at_35) (pc' := 37) rfl (v := (2 : Int32)) rfl ?_
      refine OwnK.icmp_ne X23 hx (hb hby at_37) (by decide) (pcT := 44) (by decide) (pc' := 40) rfl (fun (hc37 : ¬ 2 = 2) => absurd hc37 (by decide)) (fun hc37 => ?_)
      refine OwnK.iconst X23 hx (hb hby at_40) (pc' := 41) rfl (v := (1 : Int32)) (by decide) ?_
      refine OwnK.goto_ X23 hx (hb hby at_41) (by decide) (pc' := 45) (by decide) ?_
      refine OwnK.retN_ X23 hx hret (by simp) hlk (hb hby at_45) (by decide) (by decide) ?_
      exact ⟨rfl, N24⟩
    · obtain rfl : v3 = some (.ref aU) := hv3.trans (by rw [m3]; simp [own_pk])
      refine OwnK.astoreN X3 hx (hb hby at_9) (pc' := 10) rfl rfl (Ls' := #[.val (.int p0), .val (.int p1), .val (.ref aF), .val (.ref aU), .unset, .unset]) rfl ?_
      refine OwnK.aloadN X3 hx (hb hby at_10) (pc' := 11) rfl (v := (.ref aF)) rfl rfl ?_
      refine OwnK.aloadN X3 hx (hb hby at_11) (pc' := 12) rfl (v := (.ref aU)) rfl rfl ?_
      refine OwnK.callV_ X3 hx hZ hown (y := (⟨"com/example/ferryway/ferryway/tool/CCondition$Truth", "or", "(Lcom/example/ferryway/ferryway/tool/CCondition$Truth;)Lcom/example/ferryway/ferryway/tool/CCondition$Truth;"⟩ : MethodName)) (z := (⟨"com/example/ferryway/ferryway/tool/CCondition$Truth", "or", "(Lcom/example/ferryway/ferryway/tool/CCondition$Truth;)Lcom/example/ferryway/ferryway/tool/CCondition$Truth;"⟩ : MethodName)) (a := aF) (hw _ (List.mem_of_getElem? (i := 8) rfl)) (hw _ (List.mem_of_getElem? (i := 9) rfl)) (notFace_of_selects (args := #[]) (mvT hZ (hw _ (List.mem_of_getElem? (i := 11) rfl)))) (hw _ (List.mem_of_getElem? (i := 11) rfl)) (hw _ (List.mem_of_getElem? (i := 10) rfl)) (hw _ (List.mem_of_getElem? (i := 12) rfl)) (hw _ (List.mem_of_getElem? (i := 6) rfl)) (by decide) E_aF (own_met2 l Z a0 hw h0 aF aU aF aT aU S_aF S_aT S_aU ) (by decide) (W := 0) (by decide) e3 (by rw [hml]; rfl) own_pd_3 (argsL := [(.ref aU)]) rfl (S := []) rfl (Nat.le_of_eq rfl) (hb hby at_12) (pc' := 15) rfl (by decide) (by decide) (fun T25 v25 L25 X25 hQ25 => ?_)
      obtain ⟨hv25, e25, rfl⟩ := hQ25
      obtain rfl : v25 = some (.ref aU) := hv25.trans (congrArg some (congrArg Value.ref (by simp [own_cj, nFT, nFU, nTU, Ne.symm nFT, Ne.symm nFU, Ne.symm nTU] : own_cj aT aF aU aF aU = aU)))
      have N26 := Fr.app N4 (Fr.nil n0)
      refine OwnK.astore X25 hx (hb hby at_15) (pc' := 17) rfl rfl (Ls' := #[.val (.int p0), .val (.int p1), .val (.ref aF), .val (.ref aU), .val (.ref aU), .unset]) rfl ?_
      refine OwnK.aloadN X25 hx (hb hby at_17) (pc' := 18) rfl (v := (.ref aF)) rfl rfl ?_
      refine OwnK.callS_ X25 hx hZ hown (y := (⟨"com/example/ferryway/ferryway/tool/TruthOrPinLaw", "rank", "(Lcom/example/ferryway/ferryway/tool/CCondition$Truth;)I"⟩ : MethodName)) (hw _ (List.mem_of_getElem? (i := 16) rfl)) (hw _ (List.mem_of_getElem? (i := 17) rfl)) (hw _ (List.mem_of_getElem? (i := 2) rfl)) (hw _ (List.mem_of_getElem? (i := 18) rfl)) (by decide) (own_met3 l Z a0 hw h0 aF aF aT aU S_aF S_aT S_aU ) (by decide) (W := 0) (by decide) e25 (by rw [hml]; rfl) own_pd_2 (argsL := [(.ref aF)]) rfl (S := []) rfl (Nat.le_of_eq rfl) (hb hby at_18) (pc' := 21) rfl (by decide) (by decide) (fun T27 v27 L27 X27 hQ27 => ?_)
      obtain ⟨hv27, e27, rfl⟩ := hQ27
      obtain rfl : v27 = some (.int (0 : Int32)) := hv27.trans (congrArg some (congrArg Value.int (by simp [own_pk, own_rk, own_cj, nFT, nFU, nTU, Ne.symm nFT, Ne.symm nFU, Ne.symm nTU])))
      have N28 := Fr.app N26 (Fr.nil n0)
      refine OwnK.aloadN X27 hx (hb hby at_21) (pc' := 22) rfl (v := (.ref aU)) rfl rfl ?_
      refine OwnK.callS_ X27 hx hZ hown (y := (⟨"com/example/ferryway/ferryway/tool/TruthOrPinLaw", "rank", "(Lcom/example/ferryway/ferryway/tool/CCondition$Truth;)I"⟩ : MethodName)) (hw _ (List.mem_of_getElem? (i := 16) rfl)) (hw _ (List.mem_of_getElem? (i := 17) rfl)) (hw _ (List.mem_of_getElem? (i := 2) rfl)) (hw _ (List.mem_of_getElem? (i := 18) rfl)) (by decide) (own_met3 l Z a0 hw h0 aU aF aT aU S_aF S_aT S_aU ) (by decide) (W := 1) (by decide) e27 (by rw [hml]; rfl) own_pd_2 (argsL := [(.ref aU)]) rfl (S := [(.int (0 : Int32))]) rfl (Nat.le_of_eq rfl) (hb hby at_22) (pc' := 25) rfl (by decide) (by decide) (fun T29 v29 L29 X29 hQ29 => ?_)
      obtain ⟨hv29, e29, rfl⟩ := hQ29
      obtain rfl : v29 = some (.int (1 : Int32)) := hv29.trans (congrArg some (congrArg Value.int (by simp [own_pk, own_rk, own_cj, nFT, nFU, nTU, Ne.symm nFT, Ne.symm nFU, Ne.symm nTU])))
      have N30 := Fr.app N28 (Fr.nil n0)
      refine OwnK.callS_ X29 hx hZ hown (y := (⟨"java/lang/Math", "max", "(II)I"⟩ : MethodName)) (hw _ (List.mem_of_getElem? (i := 19) rfl)) (hw _ (List.mem_of_getElem? (i := 20) rfl)) (hw _ (List.mem_of_getElem? (i := 21) rfl)) (hw _ (List.mem_of_getElem? (i := 22) rfl)) (by decide) (own_met4 l Z a0 hw h0 (0 : Int32) (1 : Int32)  ) (by decide) (W := 0) (by decide) e29 (by rw [hml]; rfl) own_pd_1 (argsL := [(.int (0 : Int32)), (.int (1 : Int32))]) rfl (S := []) rfl (Nat.le_of_eq rfl) (hb hby at_25) (pc' := 28) rfl (by decide) (by decide) (fun T31 v31 L31 X31 hQ31 => ?_)
      obtain ⟨hv31, e31, rfl⟩ := hQ31
      obtain rfl : v31 = some (.int (1 : Int32)) := hv31.trans (congrArg some (congrArg Value.int (by decide)))
      have N32 := Fr.app N30 (Fr.nil n0)
      refine OwnK.istore X31 hx (hb hby at_28) (pc' := 30) rfl (Ls' := #[.val (.int p0), .val (.int p1), .val (.ref aF), .val (.ref aU), .val (.ref aU), .val (.int (1 : Int32))]) rfl ?_
      refine OwnK.aload X31 hx (hb hby at_30) (pc' := 32) rfl (v := (.ref aU)) rfl rfl ?_
      refine OwnK.callS_ X31 hx hZ hown (y := (⟨"com/example/ferryway/ferryway/tool/TruthOrPinLaw", "rank", "(Lcom/example/ferryway/ferryway/tool/CCondition$Truth;)I"⟩ : MethodName)) (hw _ (List.mem_of_getElem? (i := 16) rfl)) (hw _ (List.mem_of_getElem? (i := 17) rfl)) (hw _ (List.mem_of_getElem? (i := 2) rfl)) (hw _ (List.mem_of_getElem? (i := 18) rfl)) (by decide) (own_met3 l Z a0 hw h0 aU aF aT aU S_aF S_aT S_aU ) (by decide) (W := 0) (by decide) e31 (by rw [hml]; rfl) own_pd_2 (argsL := [(.ref aU)]) rfl (S := []) rfl (Nat.le_of_eq rfl) (hb hby at_32) (pc' := 35) rfl (by decide) (by decide) (fun T33 v33 L33 X33 hQ33 => ?_)
      obtain ⟨hv33, e33, rfl⟩ := hQ33
      obtain rfl : v33 = some (.int (1 : Int32)) := hv33.trans (congrArg some (congrArg Value.int (by simp [own_pk, own_rk, own_cj, nFT, nFU, nTU, Ne.symm nFT, Ne.symm nFU, Ne.symm nTU])))
      have N34 := Fr.app N32 (Fr.nil n0)
      refine OwnK.iload X33 hx (hb hby at_35) (pc' := 37) rfl (v := (1 : Int32)) rfl ?_
      refine OwnK.icmp_ne X33 hx (hb hby at_37) (by decide) (pcT := 44) (by decide) (pc' := 40) rfl (fun (hc37 : ¬ 1 = 1) => absurd hc37 (by decide)) (fun hc37 => ?_)
      refine OwnK.iconst X33 hx (hb hby at_40) (pc' := 41) rfl (v := (1 : Int32)) (by decide) ?_
      refine OwnK.goto_ X33 hx (hb hby at_41) (by decide) (pc' := 45) (by decide) ?_
      refine OwnK.retN_ X33 hx hret (by simp) hlk (hb hby at_45) (by decide) (by decide) ?_
      exact ⟨rfl, N34⟩
  · obtain rfl : v1 = some (.ref aT) := hv1.trans (by rw [m3]; simp [own_pk])
    refine OwnK.astoreN X1 hx (hb hby at_4) (pc' := 5) rfl rfl (Ls' := #[.val (.int p0), .val (.int p1), .val (.ref aT), .unset, .unset, .unset]) rfl ?_
    refine OwnK.iloadN X1 hx (hb hby at_5) (pc' := 6) rfl (v := p1) rfl ?_
    refine OwnK.callS_ X1 hx hZ hown (y := (⟨"com/example/ferryway/ferryway/tool/TruthOrPinLaw", "pick", "(I)Lcom/example/ferryway/ferryway/tool/CCondition$Truth;"⟩ : MethodName)) (hw _ (List.mem_of_getElem? (i := 0) rfl)) (hw _ (List.mem_of_getElem? (i := 1) rfl)) (hw _ (List.mem_of_getElem? (i := 2) rfl)) (hw _ (List.mem_of_getElem? (i := 3) rfl)) (by decide) (own_met1 l Z a0 hw h0 p1 aF aT aU S_aF S_aT S_aU ) (by decide) (W := 0) (by decide) e1 (by rw [hml]; rfl) own_pd_0 (argsL := [(.int p1)]) rfl (S := []) rfl (Nat.le_of_eq rfl) (hb hby at_6) (pc' := 9) rfl (by decide) (by decide) (fun T35 v35 L35 X35 hQ35 => ?_)
    obtain ⟨hv35, e35, rfl⟩ := hQ35
    have N36 := Fr.app N2 (Fr.nil n0)
    rcases own_mod3 p1 with m3 | m3 | m3
    · obtain rfl : v35 = some (.ref aF) := hv35.trans (by rw [m3]; simp [own_pk])
      refine OwnK.astoreN X35 hx (hb hby at_9) (pc' := 10) rfl rfl (Ls' := #[.val (.int p0), .val (.int p1), .val (.ref aT), .val (.ref aF), .unset, .unset]) rfl ?_
      refine OwnK.aloadN X35 hx (hb hby at_10) (pc' := 11) rfl (v := (.ref aT)) rfl rfl ?_
      refine OwnK.aloadN X35 hx (hb hby at_11) (pc' := 12) rfl (v := (.ref aF)) rfl rfl ?_
      refine OwnK.callV_ X35 hx hZ hown (y := (⟨"com/example/ferryway/ferryway/tool/CCondition$Truth", "or", "(Lcom/example/ferryway/ferryway/tool/CCondition$Truth;)Lcom/example/ferryway/ferryway/tool/CCondition$Truth;"⟩ : MethodName)) (z := (⟨"com/example/ferryway/ferryway/tool/CCondition$Truth", "or", "(Lcom/example/ferryway/ferryway/tool/CCondition$Truth;)Lcom/example/ferryway/ferryway/tool/CCondition$Truth;"⟩ : MethodName)) (a := aT) (hw _ (List.mem_of_getElem? (i := 8) rfl)) (hw _ (List.mem_of_getElem? (i := 9) rfl)) (notFace_of_selects (args := #[]) (mvT hZ (hw _ (List.mem_of_getElem? (i := 11) rfl)))) (hw _ (List.mem_of_getElem? (i := 11) rfl)) (hw _ (List.mem_of_getElem? (i := 10) rfl)) (hw _ (List.mem_of_getElem? (i := 12) rfl)) (hw _ (List.mem_of_getElem? (i := 6) rfl)) (by decide) E_aT (own_met2 l Z a0 hw h0 aT aF aF aT aU S_aF S_aT S_aU ) (by decide) (W := 0) (by decide) e35 (by rw [hml]; rfl) own_pd_3 (argsL := [(.ref aF)]) rfl (S := []) rfl (Nat.le_of_eq rfl) (hb hby at_12) (pc' := 15) rfl (by decide) (by decide) (fun T37 v37 L37 X37 hQ37 => ?_)
      obtain ⟨hv37, e37, rfl⟩ := hQ37
      obtain rfl : v37 = some (.ref aT) := hv37.trans (congrArg some (congrArg Value.ref (by simp [own_cj, nFT, nFU, nTU, Ne.symm nFT, Ne.symm nFU, Ne.symm nTU] : own_cj aT aF aU aT aF = aT)))
      have N38 := Fr.app N36 (Fr.nil n0)
      refine OwnK.astore X37 hx (hb hby at_15) (pc' := 17) rfl rfl (Ls' := #[.val (.int p0), .val (.int p1), .val (.ref aT), .val (.ref aF), .val (.ref aT), .unset]) rfl ?_
      refine OwnK.aloadN X37 hx (hb hby at_17) (pc' := 18) rfl (v := (.ref aT)) rfl rfl ?_
      refine OwnK.callS_ X37 hx hZ hown (y := (⟨"com/example/ferryway/ferryway/tool/TruthOrPinLaw", "rank", "(Lcom/example/ferryway/ferryway/tool/CCondition$Truth;)I"⟩ : MethodName)) (hw _ (List.mem_of_getElem? (i := 16) rfl)) (hw _ (List.mem_of_getElem? (i := 17) rfl)) (hw _ (List.mem_of_getElem? (i := 2) rfl)) (hw _ (List.mem_of_getElem? (i := 18) rfl)) (by decide) (own_met3 l Z a0 hw h0 aT aF aT aU S_aF S_aT S_aU ) (by decide) (W := 0) (by decide) e37 (by rw [hml]; rfl) own_pd_2 (argsL := [(.ref aT)]) rfl (S := []) rfl (Nat.le_of_eq rfl) (hb hby at_18) (pc' := 21) rfl (by decide) (by decide) (fun T39 v39 L39 X39 hQ39 => ?_)
      obtain ⟨hv39, e39, rfl⟩ := hQ39
      obtain rfl : v39 = some (.int (2 : Int32)) := hv39.trans (congrArg some (congrArg Value.int (by simp [own_pk, own_rk, own_cj, nFT, nFU, nTU, Ne.symm nFT, Ne.symm nFU, Ne.symm nTU])))
      have N40 := Fr.app N38 (Fr.nil n0)
      refine OwnK.aloadN X39 hx (hb hby at_21) (pc' := 22) rfl (v := (.ref aF)) rfl rfl ?_
      refine OwnK.callS_ X39 hx hZ hown (y := (⟨"com/example/ferryway/ferryway/tool/TruthOrPinLaw", "rank", "(Lcom/example/ferryway/ferryway/tool/CCondition$Truth;)I"⟩ : MethodName)) (hw _ (List.mem_of_getElem? (i := 16) rfl)) (hw _ (List.mem_of_getElem? (i := 17) rfl)) (hw _ (List.mem_of_getElem? (i := 2) rfl)) (hw _ (List.mem_of_getElem? (i := 18) rfl)) (by decide) (own_met3 l Z a0 hw h0 aF aF aT aU S_aF S_aT S_aU ) (by decide) (W := 1) (by decide) e39 (by rw [hml]; rfl) own_pd_2 (argsL := [(.ref aF)]) rfl (S := [(.int (2 : Int32))]) rfl (Nat.le_of_eq rfl) (hb hby at_22) (pc' := 25) rfl (by decide) (by decide) (fun T41 v41 L41 X41 hQ41 => ?_)
      obtain ⟨hv41, e41, rfl⟩ := hQ41
      obtain rfl : v41 = some (.int (0 : Int32)) := hv41.trans (congrArg some (congrArg Value.int (by simp [own_pk, own_rk, own_cj, nFT, nFU, nTU, Ne.symm nFT, Ne.symm nFU, Ne.symm nTU])))
      have N42 := Fr.app N40 (Fr.nil n0)
      refine OwnK.callS_ X41 hx hZ hown (y := (⟨"java/lang/Math", "max", "(II)I"⟩ : MethodName)) (hw _ (List.mem_of_getElem? (i := 19) rfl)) (hw _ (List.mem_of_getElem? (i := 20) rfl)) (hw _ (List.mem_of_getElem? (i := 21) rfl)) (hw _ (List.mem_of_getElem? (i := 22) rfl)) (by decide) (own_met4 l Z a0 hw h0 (2 : Int32) (0 : Int32)  ) (by decide) (W := 0) (by decide) e41 (by rw [hml]; rfl) own_pd_1 (argsL := [(.int (2 : Int32)), (.int (0 : Int32))]) rfl (S := []) rfl (Nat.le_of_eq rfl) (hb hby at_25) (pc' := 28) rfl (by decide) (by decide) (fun T43 v43 L43 X43 hQ43 => ?_)
      obtain ⟨hv43, e43, rfl⟩ := hQ43
      obtain rfl : v43 = some (.int (2 : Int32)) := hv43.trans (congrArg some (congrArg Value.int (by decide)))
      have N44 := Fr.app N42 (Fr.nil n0)
      refine OwnK.istore X43 hx (hb hby at_28) (pc' := 30) rfl (Ls' := #[.val (.int p0), .val (.int p1), .val (.ref aT), .val (.ref aF), .val (.ref aT), .val (.int (2 : Int32))]) rfl ?_
      refine OwnK.aload X43 hx (hb hby at_30) (pc' := 32) rfl (v := (.ref aT)) rfl rfl ?_
      refine OwnK.callS_ X43 hx hZ hown (y := (⟨"com/example/ferryway/ferryway/tool/TruthOrPinLaw", "rank", "(Lcom/example/ferryway/ferryway/tool/CCondition$Truth;)I"⟩ : MethodName)) (hw _ (List.mem_of_getElem? (i := 16) rfl)) (hw _ (List.mem_of_getElem? (i := 17) rfl)) (hw _ (List.mem_of_getElem? (i := 2) rfl)) (hw _ (List.mem_of_getElem? (i := 18) rfl)) (by decide) (own_met3 l Z a0 hw h0 aT aF aT aU S_aF S_aT S_aU ) (by decide) (W := 0) (by decide) e43 (by rw [hml]; rfl) own_pd_2 (argsL := [(.ref aT)]) rfl (S := []) rfl (Nat.le_of_eq rfl) (hb hby at_32) (pc' := 35) rfl (by decide) (by decide) (fun T45 v45 L45 X45 hQ45 => ?_)
      obtain ⟨hv45, e45, rfl⟩ := hQ45
      obtain rfl : v45 = some (.int (2 : Int32)) := hv45.trans (congrArg some (congrArg Value.int (by simp [own_pk, own_rk, own_cj, nFT, nFU, nTU, Ne.symm nFT, Ne.symm nFU, Ne.symm nTU])))
      have N46 := Fr.app N44 (Fr.nil n0)
      refine OwnK.iload X45 hx (hb hby at_35) (pc' := 37) rfl (v := (2 : Int32)) rfl ?_
      refine OwnK.icmp_ne X45 hx (hb hby at_37) (by decide) (pcT := 44) (by decide) (pc' := 40) rfl (fun (hc37 : ¬ 2 = 2) => absurd hc37 (by decide)) (fun hc37 => ?_)
      refine OwnK.iconst X45 hx (hb hby at_40) (pc' := 41) rfl (v := (1 : Int32)) (by decide) ?_
      refine OwnK.goto_ X45 hx (hb hby at_41) (by decide) (pc' := 45) (by decide) ?_
      refine OwnK.retN_ X45 hx hret (by simp) hlk (hb hby at_45) (by decide) (by decide) ?_
      exact ⟨rfl, N46⟩
    · obtain rfl : v35 = some (.ref aT) := hv35.trans (by rw [m3]; simp [own_pk])
      refine OwnK.astoreN X35 hx (hb hby at_9) (pc' := 10) rfl rfl (Ls' := #[.val (.int p0), .val (.int p1), .val (.ref aT), .val (.ref aT), .unset, .unset]) rfl ?_
      refine OwnK.aloadN X35 hx (hb hby at_10) (pc' := 11) rfl (v := (.ref aT)) rfl rfl ?_
      refine OwnK.aloadN X35 hx (hb hby at_11) (pc' := 12) rfl (v := (.ref aT)) rfl rfl ?_
      refine OwnK.callV_ X35 hx hZ hown (y := (⟨"com/example/ferryway/ferryway/tool/CCondition$Truth", "or", "(Lcom/example/ferryway/ferryway/tool/CCondition$Truth;)Lcom/example/ferryway/ferryway/tool/CCondition$Truth;"⟩ : MethodName)) (z := (⟨"com/example/ferryway/ferryway/tool/CCondition$Truth", "or", "(Lcom/example/ferryway/ferryway/tool/CCondition$Truth;)Lcom/example/ferryway/ferryway/tool/CCondition$Truth;"⟩ : MethodName)) (a := aT) (hw _ (List.mem_of_getElem? (i := 8) rfl)) (hw _ (List.mem_of_getElem? (i := 9) rfl)) (notFace_of_selects (args := #[]) (mvT hZ (hw _ (List.mem_of_getElem? (i := 11) rfl)))) (hw _ (List.mem_of_getElem? (i := 11) rfl)) (hw _ (List.mem_of_getElem? (i := 10) rfl)) (hw _ (List.mem_of_getElem? (i := 12) rfl)) (hw _ (List.mem_of_getElem? (i := 6) rfl)) (by decide) E_aT (own_met2 l Z a0 hw h0 aT aT aF aT aU S_aF S_aT S_aU ) (by decide) (W := 0) (by decide) e35 (by rw [hml]; rfl) own_pd_3 (argsL := [(.ref aT)]) rfl (S := []) rfl (Nat.le_of_eq rfl) (hb hby at_12) (pc' := 15) rfl (by decide) (by decide) (fun T47 v47 L47 X47 hQ47 => ?_)
      obtain ⟨hv47, e47, rfl⟩ := hQ47
      obtain rfl : v47 = some (.ref aT) := hv47.trans (congrArg some (congrArg Value.ref (by simp [own_cj, nFT, nFU, nTU, Ne.symm nFT, Ne.symm nFU, Ne.symm nTU] : own_cj aT aF aU aT aT = aT)))
      have N48 := Fr.app N36 (Fr.nil n0)
      refine OwnK.astore X47 hx (hb hby at_15) (pc' := 17) rfl rfl (Ls' := #[.val (.int p0), .val (.int p1), .val (.ref aT), .val (.ref aT), .val (.ref aT), .unset]) rfl ?_
      refine OwnK.aloadN X47 hx (hb hby at_17) (pc' := 18) rfl (v := (.ref aT)) rfl rfl ?_
      refine OwnK.callS_ X47 hx hZ hown (y := (⟨"com/example/ferryway/ferryway/tool/TruthOrPinLaw", "rank", "(Lcom/example/ferryway/ferryway/tool/CCondition$Truth;)I"⟩ : MethodName)) (hw _ (List.mem_of_getElem? (i := 16) rfl)) (hw _ (List.mem_of_getElem? (i := 17) rfl)) (hw _ (List.mem_of_getElem? (i := 2) rfl)) (hw _ (List.mem_of_getElem? (i := 18) rfl)) (by decide) (own_met3 l Z a0 hw h0 aT aF aT aU S_aF S_aT S_aU ) (by decide) (W := 0) (by decide) e47 (by rw [hml]; rfl) own_pd_2 (argsL := [(.ref aT)]) rfl (S := []) rfl (Nat.le_of_eq rfl) (hb hby at_18) (pc' := 21) rfl (by decide) (by decide) (fun T49 v49 L49 X49 hQ49 => ?_)
      obtain ⟨hv49, e49, rfl⟩ := hQ49
      obtain rfl : v49 = some (.int (2 : Int32)) := hv49.trans (congrArg some (congrArg Value.int (by simp [own_pk, own_rk, own_cj, nFT, nFU, nTU, Ne.symm nFT, Ne.symm nFU, Ne.symm nTU])))
      have N50 := Fr.app N48 (Fr.nil n0)
      refine OwnK.aloadN X49 hx (hb hby at_21) (pc' := 22) rfl (v := (.ref aT)) rfl rfl ?_
      refine OwnK.callS_ X49 hx hZ hown (y := (⟨"com/example/ferryway/ferryway/tool/TruthOrPinLaw", "rank", "(Lcom/example/ferryway/ferryway/tool/CCondition$Truth;)I"⟩ : MethodName)) (hw _ (List.mem_of_getElem? (i := 16) rfl)) (hw _ (List.mem_of_getElem? (i := 17) rfl)) (hw _ (List.mem_of_getElem? (i := 2) rfl)) (hw _ (List.mem_of_getElem? (i := 18) rfl)) (by decide) (own_met3 l Z a0 hw h0 aT aF aT aU S_aF S_aT S_aU ) (by decide) (W := 1) (by decide) e49 (by rw [hml]; rfl) own_pd_2 (argsL := [(.ref aT)]) rfl (S := [(.int (2 : Int32))]) rfl (Nat.le_of_eq rfl) (hb hby at_22) (pc' := 25) rfl (by decide) (by decide) (fun T51 v51 L51 X51 hQ51 => ?_)
      obtain ⟨hv51, e51, rfl⟩ := hQ51
      obtain rfl : v51 = some (.int (2 : Int32)) := hv51.trans (congrArg some (congrArg Value.int (by simp [own_pk, own_rk, own_cj, nFT, nFU, nTU, Ne.symm nFT, Ne.symm nFU, Ne.symm nTU])))
      have N52 := Fr.app N50 (Fr.nil n0)
      refine OwnK.callS_ X51 hx hZ hown (y := (⟨"java/lang/Math", "max", "(II)I"⟩ : MethodName)) (hw _ (List.mem_of_getElem? (i := 19) rfl)) (hw _ (List.mem_of_getElem? (i := 20) rfl)) (hw _ (List.mem_of_getElem? (i := 21) rfl)) (hw _ (List.mem_of_getElem? (i := 22) rfl)) (by decide) (own_met4 l Z a0 hw h0 (2 : Int32) (2 : Int32)  ) (by decide) (W := 0) (by decide) e51 (by rw [hml]; rfl) own_pd_1 (argsL := [(.int (2 : Int32)), (.int (2 : Int32))]) rfl (S := []) rfl (Nat.le_of_eq rfl) (hb hby at_25) (pc' := 28) rfl (by decide) (by decide) (fun T53 v53 L53 X53 hQ53 => ?_)
      obtain ⟨hv53, e53, rfl⟩ := hQ53
      obtain rfl : v53 = some (.int (2 : Int32)) := hv53.trans (congrArg some (congrArg Value.int (by decide)))
      have N54 := Fr.app N52 (Fr.nil n0)
      refine OwnK.istore X53 hx (hb hby at_28) (pc' := 30) rfl (Ls' := #[.val (.int p0), .val (.int p1), .val (.ref aT), .val (.ref aT), .val (.ref aT), .val (.int (2 : Int32))]) rfl ?_
      refine OwnK.aload X53 hx (hb hby at_30) (pc' := 32) rfl (v := (.ref aT)) rfl rfl ?_
      refine OwnK.callS_ X53 hx hZ hown (y := (⟨"com/example/ferryway/ferryway/tool/TruthOrPinLaw", "rank", "(Lcom/example/ferryway/ferryway/tool/CCondition$Truth;)I"⟩ : MethodName)) (hw _ (List.mem_of_getElem? (i := 16) rfl)) (hw _ (List.mem_of_getElem? (i := 17) rfl)) (hw _ (List.mem_of_getElem? (i := 2) rfl)) (hw _ (List.mem_of_getElem? (i := 18) rfl)) (by decide) (own_met3 l Z a0 hw h0 aT aF aT aU S_aF S_aT S_aU ) (by decide) (W := 0) (by decide) e53 (by rw [hml]; rfl) own_pd_2 (argsL := [(.ref aT)]) rfl (S := []) rfl (Nat.le_of_eq rfl) (hb hby at_32) (pc' := 35) rfl (by decide) (by decide) (fun T55 v55 L55 X55 hQ55 => ?_)
      obtain ⟨hv55, e55, rfl⟩ := hQ55
      obtain rfl : v55 = some (.int (2 : Int32)) := hv55.trans (congrArg some (congrArg Value.int (by simp [own_pk, own_rk, own_cj, nFT, nFU, nTU, Ne.symm nFT, Ne.symm nFU, Ne.symm nTU])))
      have N56 := Fr.app N54 (Fr.nil n0)
      refine OwnK.iload X55 hx (hb hby at_35) (pc' := 37) rfl (v := (2 : Int32)) rfl ?_
      refine OwnK.icmp_ne X55 hx (hb hby at_37) (by decide) (pcT := 44) (by decide) (pc' := 40) rfl (fun (hc37 : ¬ 2 = 2) => absurd hc37 (by decide)) (fun hc37 => ?_)
      refine OwnK.iconst X55 hx (hb hby at_40) (pc' := 41) rfl (v := (1 : Int32)) (by decide) ?_
      refine OwnK.goto_ X55 hx (hb hby at_41) (by decide) (pc' := 45) (by decide) ?_
      refine OwnK.retN_ X55 hx hret (by simp) hlk (hb hby at_45) (by decide) (by decide) ?_
      exact ⟨rfl, N56⟩
    · obtain rfl : v35 = some (.ref aU) := hv35.trans (by rw [m3]; simp [own_pk])
      refine OwnK.astoreN X35 hx (hb hby at_9) (pc' := 10) rfl rfl (Ls' := #[.val (.int p0), .val (.int p1), .val (.ref aT), .val (.ref aU), .unset, .unset]) rfl ?_
      refine OwnK.aloadN X35 hx (hb hby at_10) (pc' := 11) rfl (v := (.ref aT)) rfl rfl ?_
      refine OwnK.aloadN X35 hx (hb hby at_11) (pc' := 12) rfl (v := (.ref aU)) rfl rfl ?_
      refine OwnK.callV_ X35 hx hZ hown (y := (⟨"com/example/ferryway/ferryway/tool/CCondition$Truth", "or", "(Lcom/example/ferryway/ferryway/tool/CCondition$Truth;)Lcom/example/ferryway/ferryway/tool/CCondition$Truth;"⟩ : MethodName)) (z := (⟨"com/example/ferryway/ferryway/tool/CCondition$Truth", "or", "(Lcom/example/ferryway/ferryway/tool/CCondition$Truth;)Lcom/example/ferryway/ferryway/tool/CCondition$Truth;"⟩ : MethodName)) (a := aT) (hw _ (List.mem_of_getElem? (i := 8) rfl)) (hw _ (List.mem_of_getElem? (i := 9) rfl)) (notFace_of_selects (args := #[]) (mvT hZ (hw _ (List.mem_of_getElem? (i := 11) rfl)))) (hw _ (List.mem_of_getElem? (i := 11) rfl)) (hw _ (List.mem_of_getElem? (i := 10) rfl)) (hw _ (List.mem_of_getElem? (i := 12) rfl)) (hw _ (List.mem_of_getElem? (i := 6) rfl)) (by decide) E_aT (own_met2 l Z a0 hw h0 aT aU aF aT aU S_aF S_aT S_aU ) (by decide) (W := 0) (by decide) e35 (by rw [hml]; rfl) own_pd_3 (argsL := [(.ref aU)]) rfl (S := []) rfl (Nat.le_of_eq rfl) (hb hby at_12) (pc' := 15) rfl (by decide) (by decide) (fun T57 v57 L57 X57 hQ57 => ?_)
      obtain ⟨hv57, e57, rfl⟩ := hQ57
      obtain rfl : v57 = some (.ref aT) := hv57.trans (congrArg some (congrArg Value.ref (by simp [own_cj, nFT, nFU, nTU, Ne.symm nFT, Ne.symm nFU, Ne.symm nTU] : own_cj aT aF aU aT aU = aT)))
      have N58 := Fr.app N36 (Fr.nil n0)
      refine OwnK.astore X57 hx (hb hby at_15) (pc' := 17) rfl rfl (Ls' := #[.val (.int p0), .val (.int p1), .val (.ref aT), .val (.ref aU), .val (.ref aT), .unset]) rfl ?_
      refine OwnK.aloadN X57 hx (hb hby at_17) (pc' := 18) rfl (v := (.ref aT)) rfl rfl ?_
      refine OwnK.callS_ X57 hx hZ hown (y := (⟨"com/example/ferryway/ferryway/tool/TruthOrPinLaw", "rank", "(Lcom/example/ferryway/ferryway/tool/CCondition$Truth;)I"⟩ : MethodName)) (hw _ (List.mem_of_getElem? (i := 16) rfl)) (hw _ (List.mem_of_getElem? (i := 17) rfl)) (hw _ (List.mem_of_getElem? (i := 2) rfl)) (hw _ (List.mem_of_getElem? (i := 18) rfl)) (by decide) (own_met3 l Z a0 hw h0 aT aF aT aU S_aF S_aT S_aU ) (by decide) (W := 0) (by decide) e57 (by rw [hml]; rfl) own_pd_2 (argsL := [(.ref aT)]) rfl (S := []) rfl (Nat.le_of_eq rfl) (hb hby at_18) (pc' := 21) rfl (by decide) (by decide) (fun T59 v59 L59 X59 hQ59 => ?_)
      obtain ⟨hv59, e59, rfl⟩ := hQ59
      obtain rfl : v59 = some (.int (2 : Int32)) := hv59.trans (congrArg some (congrArg Value.int (by simp [own_pk, own_rk, own_cj, nFT, nFU, nTU, Ne.symm nFT, Ne.symm nFU, Ne.symm nTU])))
      have N60 := Fr.app N58 (Fr.nil n0)
      refine OwnK.aloadN X59 hx (hb hby at_21) (pc' := 22) rfl (v := (.ref aU)) rfl rfl ?_
      refine OwnK.callS_ X59 hx hZ hown (y := (⟨"com/example/ferryway/ferryway/tool/TruthOrPinLaw", "rank", "(Lcom/example/ferryway/ferryway/tool/CCondition$Truth;)I"⟩ : MethodName)) (hw _ (List.mem_of_getElem? (i := 16) rfl)) (hw _ (List.mem_of_getElem? (i := 17) rfl)) (hw _ (List.mem_of_getElem? (i := 2) rfl)) (hw _ (List.mem_of_getElem? (i := 18) rfl)) (by decide) (own_met3 l Z a0 hw h0 aU aF aT aU S_aF S_aT S_aU ) (by decide) (W := 1) (by decide) e59 (by rw [hml]; rfl) own_pd_2 (argsL := [(.ref aU)]) rfl (S := [(.int (2 : Int32))]) rfl (Nat.le_of_eq rfl) (hb hby at_22) (pc' := 25) rfl (by decide) (by decide) (fun T61 v61 L61 X61 hQ61 => ?_)
      obtain ⟨hv61, e61, rfl⟩ := hQ61
      obtain rfl : v61 = some (.int (1 : Int32)) := hv61.trans (congrArg some (congrArg Value.int (by simp [own_pk, own_rk, own_cj, nFT, nFU, nTU, Ne.symm nFT, Ne.symm nFU, Ne.symm nTU])))
      have N62 := Fr.app N60 (Fr.nil n0)
      refine OwnK.callS_ X61 hx hZ hown (y := (⟨"java/lang/Math", "max", "(II)I"⟩ : MethodName)) (hw _ (List.mem_of_getElem? (i := 19) rfl)) (hw _ (List.mem_of_getElem? (i := 20) rfl)) (hw _ (List.mem_of_getElem? (i := 21) rfl)) (hw _ (List.mem_of_getElem? (i := 22) rfl)) (by decide) (own_met4 l Z a0 hw h0 (2 : Int32) (1 : Int32)  ) (by decide) (W := 0) (by decide) e61 (by rw [hml]; rfl) own_pd_1 (argsL := [(.int (2 : Int32)), (.int (1 : Int32))]) rfl (S := []) rfl (Nat.le_of_eq rfl) (hb hby at_25) (pc' := 28) rfl (by decide) (by decide) (fun T63 v63 L63 X63 hQ63 => ?_)
      obtain ⟨hv63, e63, rfl⟩ := hQ63
      obtain rfl : v63 = some (.int (2 : Int32)) := hv63.trans (congrArg some (congrArg Value.int (by decide)))
      have N64 := Fr.app N62 (Fr.nil n0)
      refine OwnK.istore X63 hx (hb hby at_28) (pc' := 30) rfl (Ls' := #[.val (.int p0), .val (.int p1), .val (.ref aT), .val (.ref aU), .val (.ref aT), .val (.int (2 : Int32))]) rfl ?_
      refine OwnK.aload X63 hx (hb hby at_30) (pc' := 32) rfl (v := (.ref aT)) rfl rfl ?_
      refine OwnK.callS_ X63 hx hZ hown (y := (⟨"com/example/ferryway/ferryway/tool/TruthOrPinLaw", "rank", "(Lcom/example/ferryway/ferryway/tool/CCondition$Truth;)I"⟩ : MethodName)) (hw _ (List.mem_of_getElem? (i := 16) rfl)) (hw _ (List.mem_of_getElem? (i := 17) rfl)) (hw _ (List.mem_of_getElem? (i := 2) rfl)) (hw _ (List.mem_of_getElem? (i := 18) rfl)) (by decide) (own_met3 l Z a0 hw h0 aT aF aT aU S_aF S_aT S_aU ) (by decide) (W := 0) (by decide) e63 (by rw [hml]; rfl) own_pd_2 (argsL := [(.ref aT)]) rfl (S := []) rfl (Nat.le_of_eq rfl) (hb hby at_32) (pc' := 35) rfl (by decide) (by decide) (fun T65 v65 L65 X65 hQ65 => ?_)
      obtain ⟨hv65, e65, rfl⟩ := hQ65
      obtain rfl : v65 = some (.int (2 : Int32)) := hv65.trans (congrArg some (congrArg Value.int (by simp [own_pk, own_rk, own_cj, nFT, nFU, nTU, Ne.symm nFT, Ne.symm nFU, Ne.symm nTU])))
      have N66 := Fr.app N64 (Fr.nil n0)
      refine OwnK.iload X65 hx (hb hby at_35) (pc' := 37) rfl (v := (2 : Int32)) rfl ?_
      refine OwnK.icmp_ne X65 hx (hb hby at_37) (by decide) (pcT := 44) (by decide) (pc' := 40) rfl (fun (hc37 : ¬ 2 = 2) => absurd hc37 (by decide)) (fun hc37 => ?_)
      refine OwnK.iconst X65 hx (hb hby at_40) (pc' := 41) rfl (v := (1 : Int32)) (by decide) ?_
      refine OwnK.goto_ X65 hx (hb hby at_41) (by decide) (pc' := 45) (by decide) ?_
      refine OwnK.retN_ X65 hx hret (by simp) hlk (hb hby at_45) (by decide) (by decide) ?_
      exact ⟨rfl, N66⟩
  · obtain rfl : v1 = some (.ref aU) := hv1.trans (by rw [m3]; simp [own_pk])
    refine OwnK.astoreN X1 hx (hb hby at_4) (pc' := 5) rfl rfl (Ls' := #[.val (.int p0), .val (.int p1), .val (.ref aU), .unset, .unset, .unset]) rfl ?_
    refine OwnK.iloadN X1 hx (hb hby at_5) (pc' := 6) rfl (v := p1) rfl ?_
    refine OwnK.callS_ X1 hx hZ hown (y := (⟨"com/example/ferryway/ferryway/tool/TruthOrPinLaw", "pick", "(I)Lcom/example/ferryway/ferryway/tool/CCondition$Truth;"⟩ : MethodName)) (hw _ (List.mem_of_getElem? (i := 0) rfl)) (hw _ (List.mem_of_getElem? (i := 1) rfl)) (hw _ (List.mem_of_getElem? (i := 2) rfl)) (hw _ (List.mem_of_getElem? (i := 3) rfl)) (by decide) (own_met1 l Z a0 hw h0 p1 aF aT aU S_aF S_aT S_aU ) (by decide) (W := 0) (by decide) e1 (by rw [hml]; rfl) own_pd_0 (argsL := [(.int p1)]) rfl (S := []) rfl (Nat.le_of_eq rfl) (hb hby at_6) (pc' := 9) rfl (by decide) (by decide) (fun T67 v67 L67 X67 hQ67 => ?_)
    obtain ⟨hv67, e67, rfl⟩ := hQ67
    have N68 := Fr.app N2 (Fr.nil n0)
    rcases own_mod3 p1 with m3 | m3 | m3
    · obtain rfl : v67 = some (.ref aF) := hv67.trans (by rw [m3]; simp [own_pk])
      refine OwnK.astoreN X67 hx (hb hby at_9) (pc' := 10) rfl rfl (Ls' := #[.val (.int p0), .val (.int p1), .val (.ref aU), .val (.ref aF), .unset, .unset]) rfl ?_
      refine OwnK.aloadN X67 hx (hb hby at_10) (pc' := 11) rfl (v := (.ref aU)) rfl rfl ?_
      refine OwnK.aloadN X67 hx (hb hby at_11) (pc' := 12) rfl (v := (.ref aF)) rfl rfl ?_
      refine OwnK.callV_ X67 hx hZ hown (y := (⟨"com/example/ferryway/ferryway/tool/CCondition$Truth", "or", "(Lcom/example/ferryway/ferryway/tool/CCondition$Truth;)Lcom/example/ferryway/ferryway/tool/CCondition$Truth;"⟩ : MethodName)) (z := (⟨"com/example/ferryway/ferryway/tool/CCondition$Truth", "or", "(Lcom/example/ferryway/ferryway/tool/CCondition$Truth;)Lcom/example/ferryway/ferryway/tool/CCondition$Truth;"⟩ : MethodName)) (a := aU) (hw _ (List.mem_of_getElem? (i := 8) rfl)) (hw _ (List.mem_of_getElem? (i := 9) rfl)) (notFace_of_selects (args := #[]) (mvT hZ (hw _ (List.mem_of_getElem? (i := 11) rfl)))) (hw _ (List.mem_of_getElem? (i := 11) rfl)) (hw _ (List.mem_of_getElem? (i := 10) rfl)) (hw _ (List.mem_of_getElem? (i := 12) rfl)) (hw _ (List.mem_of_getElem? (i := 6) rfl)) (by decide) E_aU (own_met2 l Z a0 hw h0 aU aF aF aT aU S_aF S_aT S_aU ) (by decide) (W := 0) (by decide) e67 (by rw [hml]; rfl) own_pd_3 (argsL := [(.ref aF)]) rfl (S := []) rfl (Nat.le_of_eq rfl) (hb hby at_12) (pc' := 15) rfl (by decide) (by decide) (fun T69 v69 L69 X69 hQ69 => ?_)
      obtain ⟨hv69, e69, rfl⟩ := hQ69
      obtain rfl : v69 = some (.ref aU) := hv69.trans (congrArg some (congrArg Value.ref (by simp [own_cj, nFT, nFU, nTU, Ne.symm nFT, Ne.symm nFU, Ne.symm nTU] : own_cj aT aF aU aU aF = aU)))
      have N70 := Fr.app N68 (Fr.nil n0)
      refine OwnK.astore X69 hx (hb hby at_15) (pc' := 17) rfl rfl (Ls' := #[.val (.int p0), .val (.int p1), .val (.ref aU), .val (.ref aF), .val (.ref aU), .unset]) rfl ?_
      refine OwnK.aloadN X69 hx (hb hby at_17) (pc' := 18) rfl (v := (.ref aU)) rfl rfl ?_
      refine OwnK.callS_ X69 hx hZ hown (y := (⟨"com/example/ferryway/ferryway/tool/TruthOrPinLaw", "rank", "(Lcom/example/ferryway/ferryway/tool/CCondition$Truth;)I"⟩ : MethodName)) (hw _ (List.mem_of_getElem? (i := 16) rfl)) (hw _ (List.mem_of_getElem? (i := 17) rfl)) (hw _ (List.mem_of_getElem? (i := 2) rfl)) (hw _ (List.mem_of_getElem? (i := 18) rfl)) (by decide) (own_met3 l Z a0 hw h0 aU aF aT aU S_aF S_aT S_aU ) (by decide) (W := 0) (by decide) e69 (by rw [hml]; rfl) own_pd_2 (argsL := [(.ref aU)]) rfl (S := []) rfl (Nat.le_of_eq rfl) (hb hby at_18) (pc' := 21) rfl (by decide) (by decide) (fun T71 v71 L71 X71 hQ71 => ?_)
      obtain ⟨hv71, e71, rfl⟩ := hQ71
      obtain rfl : v71 = some (.int (1 : Int32)) := hv71.trans (congrArg some (congrArg Value.int (by simp [own_pk, own_rk, own_cj, nFT, nFU, nTU, Ne.symm nFT, Ne.symm nFU, Ne.symm nTU])))
      have N72 := Fr.app N70 (Fr.nil n0)
      refine OwnK.aloadN X71 hx (hb hby at_21) (pc' := 22) rfl (v := (.ref aF)) rfl rfl ?_
      refine OwnK.callS_ X71 hx hZ hown (y := (⟨"com/example/ferryway/ferryway/tool/TruthOrPinLaw", "rank", "(Lcom/example/ferryway/ferryway/tool/CCondition$Truth;)I"⟩ : MethodName)) (hw _ (List.mem_of_getElem? (i := 16) rfl)) (hw _ (List.mem_of_getElem? (i := 17) rfl)) (hw _ (List.mem_of_getElem? (i := 2) rfl)) (hw _ (List.mem_of_getElem? (i := 18) rfl)) (by decide) (own_met3 l Z a0 hw h0 aF aF aT aU S_aF S_aT S_aU ) (by decide) (W := 1) (by decide) e71 (by rw [hml]; rfl) own_pd_2 (argsL := [(.ref aF)]) rfl (S := [(.int (1 : Int32))]) rfl (Nat.le_of_eq rfl) (hb hby at_22) (pc' := 25) rfl (by decide) (by decide) (fun T73 v73 L73 X73 hQ73 => ?_)
      obtain ⟨hv73, e73, rfl⟩ := hQ73
      obtain rfl : v73 = some (.int (0 : Int32)) := hv73.trans (congrArg some (congrArg Value.int (by simp [own_pk, own_rk, own_cj, nFT, nFU, nTU, Ne.symm nFT, Ne.symm nFU, Ne.symm nTU])))
      have N74 := Fr.app N72 (Fr.nil n0)
      refine OwnK.callS_ X73 hx hZ hown (y := (⟨"java/lang/Math", "max", "(II)I"⟩ : MethodName)) (hw _ (List.mem_of_getElem? (i := 19) rfl)) (hw _ (List.mem_of_getElem? (i := 20) rfl)) (hw _ (List.mem_of_getElem? (i := 21) rfl)) (hw _ (List.mem_of_getElem? (i := 22) rfl)) (by decide) (own_met4 l Z a0 hw h0 (1 : Int32) (0 : Int32)  ) (by decide) (W := 0) (by decide) e73 (by rw [hml]; rfl) own_pd_1 (argsL := [(.int (1 : Int32)), (.int (0 : Int32))]) rfl (S := []) rfl (Nat.le_of_eq rfl) (hb hby at_25) (pc' := 28) rfl (by decide) (by decide) (fun T75 v75 L75 X75 hQ75 => ?_)
      obtain ⟨hv75, e75, rfl⟩ := hQ75
      obtain rfl : v75 = some (.int (1 : Int32)) := hv75.trans (congrArg some (congrArg Value.int (by decide)))
      have N76 := Fr.app N74 (Fr.nil n0)
      refine OwnK.istore X75 hx (hb hby at_28) (pc' := 30) rfl (Ls' := #[.val (.int p0), .val (.int p1), .val (.ref aU), .val (.ref aF), .val (.ref aU), .val (.int (1 : Int32))]) rfl ?_
      refine OwnK.aload X75 hx (hb hby at_30) (pc' := 32) rfl (v := (.ref aU)) rfl rfl ?_
      refine OwnK.callS_ X75 hx hZ hown (y := (⟨"com/example/ferryway/ferryway/tool/TruthOrPinLaw", "rank", "(Lcom/example/ferryway/ferryway/tool/CCondition$Truth;)I"⟩ : MethodName)) (hw _ (List.mem_of_getElem? (i := 16) rfl)) (hw _ (List.mem_of_getElem? (i := 17) rfl)) (hw _ (List.mem_of_getElem? (i := 2) rfl)) (hw _ (List.mem_of_getElem? (i := 18) rfl)) (by decide) (own_met3 l Z a0 hw h0 aU aF aT aU S_aF S_aT S_aU ) (by decide) (W := 0) (by decide) e75 (by rw [hml]; rfl) own_pd_2 (argsL := [(.ref aU)]) rfl (S := []) rfl (Nat.le_of_eq rfl) (hb hby at_32) (pc' := 35) rfl (by decide) (by decide) (fun T77 v77 L77 X77 hQ77 => ?_)
      obtain ⟨hv77, e77, rfl⟩ := hQ77
      obtain rfl : v77 = some (.int (1 : Int32)) := hv77.trans (congrArg some (congrArg Value.int (by simp [own_pk, own_rk, own_cj, nFT, nFU, nTU, Ne.symm nFT, Ne.symm nFU, Ne.symm nTU])))
      have N78 := Fr.app N76 (Fr.nil n0)
      refine OwnK.iload X77 hx (hb hby at_35) (pc' := 37) rfl (v := (1 : Int32)) rfl ?_
      refine OwnK.icmp_ne X77 hx (hb hby at_37) (by decide) (pcT := 44) (by decide) (pc' := 40) rfl (fun (hc37 : ¬ 1 = 1) => absurd hc37 (by decide)) (fun hc37 => ?_)
      refine OwnK.iconst X77 hx (hb hby at_40) (pc' := 41) rfl (v := (1 : Int32)) (by decide) ?_
      refine OwnK.goto_ X77 hx (hb hby at_41) (by decide) (pc' := 45) (by decide) ?_
      refine OwnK.retN_ X77 hx hret (by simp) hlk (hb hby at_45) (by decide) (by decide) ?_
      exact ⟨rfl, N78⟩
    · obtain rfl : v67 = some (.ref aT) := hv67.trans (by rw [m3]; simp [own_pk])
      refine OwnK.astoreN X67 hx (hb hby at_9) (pc' := 10) rfl rfl (Ls' := #[.val (.int p0), .val (.int p1), .val (.ref aU), .val (.ref aT), .unset, .unset]) rfl ?_
      refine OwnK.aloadN X67 hx (hb hby at_10) (pc' := 11) rfl (v := (.ref aU)) rfl rfl ?_
      refine OwnK.aloadN X67 hx (hb hby at_11) (pc' := 12) rfl (v := (.ref aT)) rfl rfl ?_
      refine OwnK.callV_ X67 hx hZ hown (y := (⟨"com/example/ferryway/ferryway/tool/CCondition$Truth", "or", "(Lcom/example/ferryway/ferryway/tool/CCondition$Truth;)Lcom/example/ferryway/ferryway/tool/CCondition$Truth;"⟩ : MethodName)) (z := (⟨"com/example/ferryway/ferryway/tool/CCondition$Truth", "or", "(Lcom/example/ferryway/ferryway/tool/CCondition$Truth;)Lcom/example/ferryway/ferryway/tool/CCondition$Truth;"⟩ : MethodName)) (a := aU) (hw _ (List.mem_of_getElem? (i := 8) rfl)) (hw _ (List.mem_of_getElem? (i := 9) rfl)) (notFace_of_selects (args := #[]) (mvT hZ (hw _ (List.mem_of_getElem? (i := 11) rfl)))) (hw _ (List.mem_of_getElem? (i := 11) rfl)) (hw _ (List.mem_of_getElem? (i := 10) rfl)) (hw _ (List.mem_of_getElem? (i := 12) rfl)) (hw _ (List.mem_of_getElem? (i := 6) rfl)) (by decide) E_aU (own_met2 l Z a0 hw h0 aU aT aF aT aU S_aF S_aT S_aU ) (by decide) (W := 0) (by decide) e67 (by rw [hml]; rfl) own_pd_3 (argsL := [(.ref aT)]) rfl (S := []) rfl (Nat.le_of_eq rfl) (hb hby at_12) (pc' := 15) rfl (by decide) (by decide) (fun T79 v79 L79 X79 hQ79 => ?_)
      obtain ⟨hv79, e79, rfl⟩ := hQ79
      obtain rfl : v79 = some (.ref aT) := hv79.trans (congrArg some (congrArg Value.ref (by simp [own_cj, nFT, nFU, nTU, Ne.symm nFT, Ne.symm nFU, Ne.symm nTU] : own_cj aT aF aU aU aT = aT)))
      have N80 := Fr.app N68 (Fr.nil n0)
      refine OwnK.astore X79 hx (hb hby at_15) (pc' := 17) rfl rfl (Ls' := #[.val (.int p0), .val (.int p1), .val (.ref aU), .val (.ref aT), .val (.ref aT), .unset]) rfl ?_
      refine OwnK.aloadN X79 hx (hb hby at_17) (pc' := 18) rfl (v := (.ref aU)) rfl rfl ?_
      refine OwnK.callS_ X79 hx hZ hown (y := (⟨"com/example/ferryway/ferryway/tool/TruthOrPinLaw", "rank", "(Lcom/example/ferryway/ferryway/tool/CCondition$Truth;)I"⟩ : MethodName)) (hw _ (List.mem_of_getElem? (i := 16) rfl)) (hw _ (List.mem_of_getElem? (i := 17) rfl)) (hw _ (List.mem_of_getElem? (i := 2) rfl)) (hw _ (List.mem_of_getElem? (i := 18) rfl)) (by decide) (own_met3 l Z a0 hw h0 aU aF aT aU S_aF S_aT S_aU ) (by decide) (W := 0) (by decide) e79 (by rw [hml]; rfl) own_pd_2 (argsL := [(.ref aU)]) rfl (S := []) rfl (Nat.le_of_eq rfl) (hb hby at_18) (pc' := 21) rfl (by decide) (by decide) (fun T81 v81 L81 X81 hQ81 => ?_)
      obtain ⟨hv81, e81, rfl⟩ := hQ81
      obtain rfl : v81 = some (.int (1 : Int32)) := hv81.trans (congrArg some (congrArg Value.int (by simp [own_pk, own_rk, own_cj, nFT, nFU, nTU, Ne.symm nFT, Ne.symm nFU, Ne.symm nTU])))
      have N82 := Fr.app N80 (Fr.nil n0)
      refine OwnK.aloadN X81 hx (hb hby at_21) (pc' := 22) rfl (v := (.ref aT)) rfl rfl ?_
      refine OwnK.callS_ X81 hx hZ hown (y := (⟨"com/example/ferryway/ferryway/tool/TruthOrPinLaw", "rank", "(Lcom/example/ferryway/ferryway/tool/CCondition$Truth;)I"⟩ : MethodName)) (hw _ (List.mem_of_getElem? (i := 16) rfl)) (hw _ (List.mem_of_getElem? (i := 17) rfl)) (hw _ (List.mem_of_getElem? (i := 2) rfl)) (hw _ (List.mem_of_getElem? (i := 18) rfl)) (by decide) (own_met3 l Z a0 hw h0 aT aF aT aU S_aF S_aT S_aU ) (by decide) (W := 1) (by decide) e81 (by rw [hml]; rfl) own_pd_2 (argsL := [(.ref aT)]) rfl (S := [(.int (1 : Int32))]) rfl (Nat.le_of_eq rfl) (hb hby at_22) (pc' := 25) rfl (by decide) (by decide) (fun T83 v83 L83 X83 hQ83 => ?_)
      obtain ⟨hv83, e83, rfl⟩ := hQ83
      obtain rfl : v83 = some (.int (2 : Int32)) := hv83.trans (congrArg some (congrArg Value.int (by simp [own_pk, own_rk, own_cj, nFT, nFU, nTU, Ne.symm nFT, Ne.symm nFU, Ne.symm nTU])))
      have N84 := Fr.app N82 (Fr.nil n0)
      refine OwnK.callS_ X83 hx hZ hown (y := (⟨"java/lang/Math", "max", "(II)I"⟩ : MethodName)) (hw _ (List.mem_of_getElem? (i := 19) rfl)) (hw _ (List.mem_of_getElem? (i := 20) rfl)) (hw _ (List.mem_of_getElem? (i := 21) rfl)) (hw _ (List.mem_of_getElem? (i := 22) rfl)) (by decide) (own_met4 l Z a0 hw h0 (1 : Int32) (2 : Int32)  ) (by decide) (W := 0) (by decide) e83 (by rw [hml]; rfl) own_pd_1 (argsL := [(.int (1 : Int32)), (.int (2 : Int32))]) rfl (S := []) rfl (Nat.le_of_eq rfl) (hb hby at_25) (pc' := 28) rfl (by decide) (by decide) (fun T85 v85 L85 X85 hQ85 => ?_)
      obtain ⟨hv85, e85, rfl⟩ := hQ85
      obtain rfl : v85 = some (.int (2 : Int32)) := hv85.trans (congrArg some (congrArg Value.int (by decide)))
      have N86 := Fr.app N84 (Fr.nil n0)
      refine OwnK.istore X85 hx (hb hby at_28) (pc' := 30) rfl (Ls' := #[.val (.int p0), .val (.int p1), .val (.ref aU), .val (.ref aT), .val (.ref aT), .val (.int (2 : Int32))]) rfl ?_
      refine OwnK.aload X85 hx (hb hby at_30) (pc' := 32) rfl (v := (.ref aT)) rfl rfl ?_
      refine OwnK.callS_ X85 hx hZ hown (y := (⟨"com/example/ferryway/ferryway/tool/TruthOrPinLaw", "rank", "(Lcom/example/ferryway/ferryway/tool/CCondition$Truth;)I"⟩ : MethodName)) (hw _ (List.mem_of_getElem? (i := 16) rfl)) (hw _ (List.mem_of_getElem? (i := 17) rfl)) (hw _ (List.mem_of_getElem? (i := 2) rfl)) (hw _ (List.mem_of_getElem? (i := 18) rfl)) (by decide) (own_met3 l Z a0 hw h0 aT aF aT aU S_aF S_aT S_aU ) (by decide) (W := 0) (by decide) e85 (by rw [hml]; rfl) own_pd_2 (argsL := [(.ref aT)]) rfl (S := []) rfl (Nat.le_of_eq rfl) (hb hby at_32) (pc' := 35) rfl (by decide) (by decide) (fun T87 v87 L87 X87 hQ87 => ?_)
      obtain ⟨hv87, e87, rfl⟩ := hQ87
      obtain rfl : v87 = some (.int (2 : Int32)) := hv87.trans (congrArg some (congrArg Value.int (by simp [own_pk, own_rk, own_cj, nFT, nFU, nTU, Ne.symm nFT, Ne.symm nFU, Ne.symm nTU])))
      have N88 := Fr.app N86 (Fr.nil n0)
      refine OwnK.iload X87 hx (hb hby at_35) (pc' := 37) rfl (v := (2 : Int32)) rfl ?_
      refine OwnK.icmp_ne X87 hx (hb hby at_37) (by decide) (pcT := 44) (by decide) (pc' := 40) rfl (fun (hc37 : ¬ 2 = 2) => absurd hc37 (by decide)) (fun hc37 => ?_)
      refine OwnK.iconst X87 hx (hb hby at_40) (pc' := 41) rfl (v := (1 : Int32)) (by decide) ?_
      refine OwnK.goto_ X87 hx (hb hby at_41) (by decide) (pc' := 45) (by decide) ?_
      refine OwnK.retN_ X87 hx hret (by simp) hlk (hb hby at_45) (by decide) (by decide) ?_
      exact ⟨rfl, N88⟩
    · obtain rfl : v67 = some (.ref aU) := hv67.trans (by rw [m3]; simp [own_pk])
      refine OwnK.astoreN X67 hx (hb hby at_9) (pc' := 10) rfl rfl (Ls' := #[.val (.int p0), .val (.int p1), .val (.ref aU), .val (.ref aU), .unset, .unset]) rfl ?_
      refine OwnK.aloadN X67 hx (hb hby at_10) (pc' := 11) rfl (v := (.ref aU)) rfl rfl ?_
      refine OwnK.aloadN X67 hx (hb hby at_11) (pc' := 12) rfl (v := (.ref aU)) rfl rfl ?_
      refine OwnK.callV_ X67 hx hZ hown (y := (⟨"com/example/ferryway/ferryway/tool/CCondition$Truth", "or", "(Lcom/example/ferryway/ferryway/tool/CCondition$Truth;)Lcom/example/ferryway/ferryway/tool/CCondition$Truth;"⟩ : MethodName)) (z := (⟨"com/example/ferryway/ferryway/tool/CCondition$Truth", "or", "(Lcom/example/ferryway/ferryway/tool/CCondition$Truth;)Lcom/example/ferryway/ferryway/tool/CCondition$Truth;"⟩ : MethodName)) (a := aU) (hw _ (List.mem_of_getElem? (i := 8) rfl)) (hw _ (List.mem_of_getElem? (i := 9) rfl)) (notFace_of_selects (args := #[]) (mvT hZ (hw _ (List.mem_of_getElem? (i := 11) rfl)))) (hw _ (List.mem_of_getElem? (i := 11) rfl)) (hw _ (List.mem_of_getElem? (i := 10) rfl)) (hw _ (List.mem_of_getElem? (i := 12) rfl)) (hw _ (List.mem_of_getElem? (i := 6) rfl)) (by decide) E_aU (own_met2 l Z a0 hw h0 aU aU aF aT aU S_aF S_aT S_aU ) (by decide) (W := 0) (by decide) e67 (by rw [hml]; rfl) own_pd_3 (argsL := [(.ref aU)]) rfl (S := []) rfl (Nat.le_of_eq rfl) (hb hby at_12) (pc' := 15) rfl (by decide) (by decide) (fun T89 v89 L89 X89 hQ89 => ?_)
      obtain ⟨hv89, e89, rfl⟩ := hQ89
      obtain rfl : v89 = some (.ref aU) := hv89.trans (congrArg some (congrArg Value.ref (by simp [own_cj, nFT, nFU, nTU, Ne.symm nFT, Ne.symm nFU, Ne.symm nTU] : own_cj aT aF aU aU aU = aU)))
      have N90 := Fr.app N68 (Fr.nil n0)
      refine OwnK.astore X89 hx (hb hby at_15) (pc' := 17) rfl rfl (Ls' := #[.val (.int p0), .val (.int p1), .val (.ref aU), .val (.ref aU), .val (.ref aU), .unset]) rfl ?_
      refine OwnK.aloadN X89 hx (hb hby at_17) (pc' := 18) rfl (v := (.ref aU)) rfl rfl ?_
      refine OwnK.callS_ X89 hx hZ hown (y := (⟨"com/example/ferryway/ferryway/tool/TruthOrPinLaw", "rank", "(Lcom/example/ferryway/ferryway/tool/CCondition$Truth;)I"⟩ : MethodName)) (hw _ (List.mem_of_getElem? (i := 16) rfl)) (hw _ (List.mem_of_getElem? (i := 17) rfl)) (hw _ (List.mem_of_getElem? (i := 2) rfl)) (hw _ (List.mem_of_getElem? (i := 18) rfl)) (by decide) (own_met3 l Z a0 hw h0 aU aF aT aU S_aF S_aT S_aU ) (by decide) (W := 0) (by decide) e89 (by rw [hml]; rfl) own_pd_2 (argsL := [(.ref aU)]) rfl (S := []) rfl (Nat.le_of_eq rfl) (hb hby at_18) (pc' := 21) rfl (by decide) (by decide) (fun T91 v91 L91 X91 hQ91 => ?_)
      obtain ⟨hv91, e91, rfl⟩ := hQ91
      obtain rfl : v91 = some (.int (1 : Int32)) := hv91.trans (congrArg some (congrArg Value.int (by simp [own_pk, own_rk, own_cj, nFT, nFU, nTU, Ne.symm nFT, Ne.symm nFU, Ne.symm nTU])))
      have N92 := Fr.app N90 (Fr.nil n0)
      refine OwnK.aloadN X91 hx (hb hby at_21) (pc' := 22) rfl (v := (.ref aU)) rfl rfl ?_
      refine OwnK.callS_ X91 hx hZ hown (y := (⟨"com/example/ferryway/ferryway/tool/TruthOrPinLaw", "rank", "(Lcom/example/ferryway/ferryway/tool/CCondition$Truth;)I"⟩ : MethodName)) (hw _ (List.mem_of_getElem? (i := 16) rfl)) (hw _ (List.mem_of_getElem? (i := 17) rfl)) (hw _ (List.mem_of_getElem? (i := 2) rfl)) (hw _ (List.mem_of_getElem? (i := 18) rfl)) (by decide) (own_met3 l Z a0 hw h0 aU aF aT aU S_aF S_aT S_aU ) (by decide) (W := 1) (by decide) e91 (by rw [hml]; rfl) own_pd_2 (argsL := [(.ref aU)]) rfl (S := [(.int (1 : Int32))]) rfl (Nat.le_of_eq rfl) (hb hby at_22) (pc' := 25) rfl (by decide) (by decide) (fun T93 v93 L93 X93 hQ93 => ?_)
      obtain ⟨hv93, e93, rfl⟩ := hQ93
      obtain rfl : v93 = some (.int (1 : Int32)) := hv93.trans (congrArg some (congrArg Value.int (by simp [own_pk, own_rk, own_cj, nFT, nFU, nTU, Ne.symm nFT, Ne.symm nFU, Ne.symm nTU])))
      have N94 := Fr.app N92 (Fr.nil n0)
      refine OwnK.callS_ X93 hx hZ hown (y := (⟨"java/lang/Math", "max", "(II)I"⟩ : MethodName)) (hw _ (List.mem_of_getElem? (i := 19) rfl)) (hw _ (List.mem_of_getElem? (i := 20) rfl)) (hw _ (List.mem_of_getElem? (i := 21) rfl)) (hw _ (List.mem_of_getElem? (i := 22) rfl)) (by decide) (own_met4 l Z a0 hw h0 (1 : Int32) (1 : Int32)  ) (by decide) (W := 0) (by decide) e93 (by rw [hml]; rfl) own_pd_1 (argsL := [(.int (1 : Int32)), (.int (1 : Int32))]) rfl (S := []) rfl (Nat.le_of_eq rfl) (hb hby at_25) (pc' := 28) rfl (by decide) (by decide) (fun T95 v95 L95 X95 hQ95 => ?_)
      obtain ⟨hv95, e95, rfl⟩ := hQ95
      obtain rfl : v95 = some (.int (1 : Int32)) := hv95.trans (congrArg some (congrArg Value.int (by decide)))
      have N96 := Fr.app N94 (Fr.nil n0)
      refine OwnK.istore X95 hx (hb hby at_28) (pc' := 30) rfl (Ls' := #[.val (.int p0), .val (.int p1), .val (.ref aU), .val (.ref aU), .val (.ref aU), .val (.int (1 : Int32))]) rfl ?_
      refine OwnK.aload X95 hx (hb hby at_30) (pc' := 32) rfl (v := (.ref aU)) rfl rfl ?_
      refine OwnK.callS_ X95 hx hZ hown (y := (⟨"com/example/ferryway/ferryway/tool/TruthOrPinLaw", "rank", "(Lcom/example/ferryway/ferryway/tool/CCondition$Truth;)I"⟩ : MethodName)) (hw _ (List.mem_of_getElem? (i := 16) rfl)) (hw _ (List.mem_of_getElem? (i := 17) rfl)) (hw _ (List.mem_of_getElem? (i := 2) rfl)) (hw _ (List.mem_of_getElem? (i := 18) rfl)) (by decide) (own_met3 l Z a0 hw h0 aU aF aT aU S_aF S_aT S_aU ) (by decide) (W := 0) (by decide) e95 (by rw [hml]; rfl) own_pd_2 (argsL := [(.ref aU)]) rfl (S := []) rfl (Nat.le_of_eq rfl) (hb hby at_32) (pc' := 35) rfl (by decide) (by decide) (fun T97 v97 L97 X97 hQ97 => ?_)
      obtain ⟨hv97, e97, rfl⟩ := hQ97
      obtain rfl : v97 = some (.int (1 : Int32)) := hv97.trans (congrArg some (congrArg Value.int (by simp [own_pk, own_rk, own_cj, nFT, nFU, nTU, Ne.symm nFT, Ne.symm nFU, Ne.symm nTU])))
      have N98 := Fr.app N96 (Fr.nil n0)
      refine OwnK.iload X97 hx (hb hby at_35) (pc' := 37) rfl (v := (1 : Int32)) rfl ?_
      refine OwnK.icmp_ne X97 hx (hb hby at_37) (by decide) (pcT := 44) (by decide) (pc' := 40) rfl (fun (hc37 : ¬ 1 = 1) => absurd hc37 (by decide)) (fun hc37 => ?_)
      refine OwnK.iconst X97 hx (hb hby at_40) (pc' := 41) rfl (v := (1 : Int32)) (by decide) ?_
      refine OwnK.goto_ X97 hx (hb hby at_41) (by decide) (pc' := 45) (by decide) ?_
      refine OwnK.retN_ X97 hx hret (by simp) hlk (hb hby at_45) (by decide) (by decide) ?_
      exact ⟨rfl, N98⟩
set_option maxRecDepth 65536 in
set_option maxHeartbeats 40000000 in
theorem comes_1 {Post : Tables → Env → Array Value → State → Outcome → State → Prop} (hpost : ∀ tb e args s v u, (limb_1_1.after args s (.returned v) u = true ∧ limb_1_2.after args s (.returned v) u = true ∧ True) → FrameEnd s (.returned v) u (Jvm.fieldLocs frame_1_writes args s ++ Jvm.arrayLocs frame_1_arrays args s ++ Jvm.staticLocs frame_1_statics s) 0 0 → Post tb e args s (.returned v) u) :
    ArmFor flags0 classFile x code maxLocals ret World_1 tables_1 room_1 Calls_1 rest_1 Pre_1 Post := by
  intro l hfl _ _ p e ha hc hk s m args below hf hA hF happ hP
  obtain ⟨hcalls, hrest, hpre⟩ := hP
  obtain ⟨-, -, -, hnamed, -, -, -, hat⟩ := (Spec.applies_iff hf).mp happ
  obtain ⟨hg, hn⟩ := and_e (Cond.before_iff.mp (show (Jvm.Cond.and given_1 narrow_1).before args s = true from hpre))
  obtain ⟨hcnt, hg0⟩ := and_e hg
  obtain ⟨ha0, hg1⟩ := and_e hg0
  have ha1 := hg1
  obtain ⟨w0, w1, rfl⟩ : ∃ w0 w1 : Value, args = #[w0, w1] := by
    have hs : args.size = 2 := by simpa [Cond.value, given_1] using hcnt
    obtain ⟨L⟩ := args
    match L, hs with
    | [w0, w1], _ => exact ⟨w0, w1, rfl⟩
  have hw := fun d (hd : d ∈ tables_1) => atoms_spec (ws := Jvm.Cond.code x code maxLocals ret :: tables_1) hat d (List.mem_cons_of_mem _ hd)
  have hfit : Fit s := fun {y c} hc i hi => by
    obtain ⟨ha, rfl⟩ := Array.getElem?_eq_some_iff.mp hc
    have q := List.all_eq_true.mp ((Array.all_eq_true_iff_forall_mem.mp hF) _ (Array.getElem_mem ha)) i (List.mem_range.mpr hi)
    simpa [Array.getElem?_eq_getElem hi] using q
  obtain ⟨i0, e0⟩ := is_v ha0
  obtain rfl : w0 = (.int i0) := Option.some.inj e0
  obtain ⟨i1, e1⟩ := is_v ha1
  obtain rfl : w1 = (.int i1) := Option.some.inj e1
  obtain ⟨n0, m0⟩ := and_e hn
  obtain ⟨n1, m1⟩ := and_e m0
  obtain ⟨n2, m2⟩ := and_e m1
  obtain ⟨n3, m3⟩ := and_e m2
  obtain ⟨n4, m4⟩ := and_e m3
  obtain ⟨aF, ev_aF⟩ := exa_v n0
  have E_aF := Exa.start ev_aF n0
  have S_aF := Sta.start ev_aF (Or.inr ⟨hw _ (List.mem_of_getElem? (i := 6) rfl), hw _ (List.mem_of_getElem? (i := 7) rfl)⟩)
  obtain ⟨aT, ev_aT⟩ := exa_v n1
  have E_aT := Exa.start ev_aT n1
  have S_aT := Sta.start ev_aT (Or.inr ⟨hw _ (List.mem_of_getElem? (i := 6) rfl), hw _ (List.mem_of_getElem? (i := 14) rfl)⟩)
  obtain ⟨aU, ev_aU⟩ := exa_v n4
  have E_aU := Exa.start ev_aU n4
  have S_aU := Sta.start ev_aU (Or.inr ⟨hw _ (List.mem_of_getElem? (i := 6) rfl), hw _ (List.mem_of_getElem? (i := 24) rfl)⟩)
  have F_aF : Fld s s.heap aF "java/lang/Enum" "ordinal" "I" (.int (0 : Int32)) := own_ord ev_aF n2
  have F_aT : Fld s s.heap aT "java/lang/Enum" "ordinal" "I" (.int (1 : Int32)) := own_ord ev_aT n3
  have F_aU : Fld s s.heap aU "java/lang/Enum" "ordinal" "I" (.int (2 : Int32)) := own_ord ev_aU m4
  have nFT := Fld.ne F_aF F_aT (by decide)
  have nFU := Fld.ne F_aF F_aU (by decide)
  have nTU := Fld.ne F_aT F_aU (by decide)
  obtain ⟨n, o, h1, h2, h3, _, L, rfl, ⟨rfl, N⟩, hq⟩ := own_law l s _ hw tables_1 s.heap s.heap.size (Nat.le_refl _) i0 i1 aF aT aU S_aF S_aT S_aU nFT nFU nTU E_aF E_aT E_aU p e ha hc hk s m _ below hf ((Spec.applies_iff_loose hf).mp happ).1 ⟨rfl, State.Warmed39.refl s, rfl⟩ trivial
  refine ⟨n, _, h1, h2, h3, hpost _ _ _ _ _ _ ⟨Cond.after_iff.mpr rfl, Cond.after_iff.mpr (eq_i res_at (Term.int_eval (1)) rfl), trivial⟩ ⟨hq.1, hq.2.1, (hq.2.2.sift fun y hy => Or.inr (N y hy)).mono (by decide) (by decide)⟩⟩
theorem main_1_1 : Claimed_1_1 := comes_1 fun _ _ _ _ _ _ h hF => ⟨h.1, hF⟩
theorem main_1_2 : Claimed_1_2 := comes_1 fun _ _ _ _ _ _ h hF => ⟨h.2.1, hF⟩
end Jvm.Pilot.@@N@@
namespace Jvm.Pilot.@@N@@
open Jvm Jvm.ClassFile Sem Op Lib Jvm.Free Jvm.Stand Jvm.Pilot.@@N@@.Jvm.D
/-! MADE BY PROGRAM (witnessworld.py) out of the Statement's table words and the real class files: 13 classes; the members and pool entries that the words name. The judged class is class 1, her method 3. -/
namespace start1
open Jvm.ClassFile
def u (s : String) : CpInfo := .utf8 (stringToUtf16 s)
/-- a pool by its gaps: so many unusable entries, then the entry; so many at the end -/
def gap : Nat → List CpInfo → List CpInfo
  | 0, r => r
  | n + 1, r => .unusable :: gap n r
def poolList (es : List (Nat × CpInfo)) (last : Nat) : List CpInfo := es.foldr (fun e r => gap e.1 (e.2 :: r)) (gap last [])
def pool (es : List (Nat × CpInfo)) (last : Nat) : Array CpInfo := ⟨poolList es last⟩
def fileOf (pool : Array CpInfo) (this : Nat) (attrs : Array Attribute := #[]) (ms : Array MethodInfo := #[]) (fl : Nat := 33) (sup : Nat := 0) (ifs : Array Nat := #[]) (fds : Array FieldInfo := #[]) : ClassFile where
  minorVersion := 0
  majorVersion := 65
  constantPool := pool
  accessFlags := fl
  thisClass := this
  superClass := sup
  interfaces := ifs
  fields := fds
  methods := ms
  attributes := attrs
def plain (name : String) (sup : Option ClassId) : Class where
  name := name
  kind := .ordinary
  loader := none
  accessFlags := 33
  super := sup
  interfaces := #[]
  cf := none
  fields := #[]
  methods := #[]
  instanceTypes := #[]
  staticTypes := #[]
  resolved := #[]
  callSites := []
  init := .initialized
  statics := none
  mirror := none

def pool0 : Array CpInfo := pool [(5, u "<init>"), (0, u "()V"), (1, .class_ 10), (1, u "java/lang/Object")] 113

def k0m0 : Method := { name := "<init>", desc := "()V", sig := { parameters := [], returnType := none }, accessFlags := 1, code := none }
/-- java/lang/Object -/
def k0 : Class := { plain "java/lang/Object" none with
  accessFlags := 33
  interfaces := #[]
  cf := some (fileOf pool0 8 #[] #[{ accessFlags := 1, nameIndex := 5, descriptorIndex := 6, attributes := #[] }] 33 0 #[] #[])
  fields := #[]
  methods := #[k0m0]
  instanceTypes := #[]
  staticTypes := #[]
  resolved := Array.replicate 124 none
  statics := none }

def pool1 : Array CpInfo := pool [(2, .class_ 4), (1, u "java/lang/Object"), (0, u "<init>"), (0, u "()V"), (0, .integer 2147483647), (0, .fieldref 9 10), (0, .class_ 11), (0, .nameAndType 12 13), (0, u "com/example/ferryway/ferryway/tool/CCondition$Truth"), (0, u "FALSE"), (0, u "Lcom/example/ferryway/ferryway/tool/CCondition$Truth;"), (0, .fieldref 9 15), (0, .nameAndType 16 13), (0, u "TRUE"), (0, .fieldref 9 18), (0, .nameAndType 19 13), (0, u "UNKNOWN"), (0, .methodref 21 22), (0, .class_ 23), (0, .nameAndType 24 25), (0, u "com/example/ferryway/ferryway/tool/TruthOrPinLaw"), (0, u "pick"), (0, u "(I)Lcom/example/ferryway/ferryway/tool/CCondition$Truth;"), (0, .methodref 9 27), (0, .nameAndType 28 29), (0, u "or"), (0, u "(Lcom/example/ferryway/ferryway/tool/CCondition$Truth;)Lcom/example/ferryway/ferryway/tool/CCondition$Truth;"), (0, .methodref 21 31), (0, .nameAndType 32 33), (0, u "rank"), (0, u "(Lcom/example/ferryway/ferryway/tool/CCondition$Truth;)I"), (0, .methodref 35 36), (0, .class_ 37), (0, .nameAndType 38 39), (0, u "java/lang/Math"), (0, u "max"), (0, u "(II)I"), (3, u "law"), (0, u "(II)Z")] 6

def k1m0 : Method := { name := "<init>", desc := "()V", sig := { parameters := [], returnType := none }, accessFlags := 1, code := none }
def k1c1 : Code := { maxStack := 2, maxLocals := 2, code := method_2_code, exceptionTable := #[], attributes := #[] }
def k1m1 : Method := { name := "pick", desc := "(I)Lcom/example/ferryway/ferryway/tool/CCondition$Truth;", sig := { parameters := [.int], returnType := some (.object "com/example/ferryway/ferryway/tool/CCondition$Truth") }, accessFlags := 10, code := some k1c1 }
def k1c2 : Code := { maxStack := 2, maxLocals := 1, code := method_3_code, exceptionTable := #[], attributes := #[] }
def k1m2 : Method := { name := "rank", desc := "(Lcom/example/ferryway/ferryway/tool/CCondition$Truth;)I", sig := { parameters := [(.object "com/example/ferryway/ferryway/tool/CCondition$Truth")], returnType := some .int }, accessFlags := 10, code := some k1c2 }
def k1c3 : Code := { maxStack := 2, maxLocals := 6, code := code, exceptionTable := #[], attributes := #[] }
def k1m3 : Method := { name := "law", desc := "(II)Z", sig := { parameters := [.int, .int], returnType := some .boolean }, accessFlags := 9, code := some k1c3 }
/-- com/example/ferryway/ferryway/tool/TruthOrPinLaw -/
def k1 : Class := { plain "com/example/ferryway/ferryway/tool/TruthOrPinLaw" (some 0) with
  accessFlags := 49
  interfaces := #[]
  cf := some (fileOf pool1 21 #[] #[{ accessFlags := 1, nameIndex := 5, descriptorIndex := 6, attributes := #[] }, { accessFlags := 10, nameIndex := 24, descriptorIndex := 25, attributes := #[] }, { accessFlags := 10, nameIndex := 32, descriptorIndex := 33, attributes := #[] }, { accessFlags := 9, nameIndex := 43, descriptorIndex := 44, attributes := #[] }] 49 2 #[] #[])
  fields := #[]
  methods := #[k1m0, k1m1, k1m2, k1m3]
  instanceTypes := #[]
  staticTypes := #[]
  resolved := Array.replicate 51 none
  statics := none }

def pool2 : Array CpInfo := pool [(1, .class_ 2), (0, u "java/lang/constant/Constable"), (0, .class_ 4), (0, u "java/lang/Object")] 6

/-- java/lang/constant/Constable -/
def k2 : Class := { plain "java/lang/constant/Constable" (some 0) with
  accessFlags := 1537
  interfaces := #[]
  cf := some (fileOf pool2 1 #[] #[] 1537 3 #[] #[])
  fields := #[]
  methods := #[]
  instanceTypes := #[]
  staticTypes := #[]
  resolved := Array.replicate 11 none
  statics := none }

def pool3 : Array CpInfo := pool [(1, .class_ 2), (0, u "java/lang/Comparable"), (0, .class_ 4), (0, u "java/lang/Object")] 7

/-- java/lang/Comparable -/
def k3 : Class := { plain "java/lang/Comparable" (some 0) with
  accessFlags := 1537
  interfaces := #[]
  cf := some (fileOf pool3 1 #[] #[] 1537 3 #[] #[])
  fields := #[]
  methods := #[]
  instanceTypes := #[]
  staticTypes := #[]
  resolved := Array.replicate 12 none
  statics := none }

def pool4 : Array CpInfo := pool [(1, .class_ 2), (0, u "java/io/Serializable"), (0, .class_ 4), (0, u "java/lang/Object")] 2

/-- java/io/Serializable -/
def k4 : Class := { plain "java/io/Serializable" (some 0) with
  accessFlags := 1537
  interfaces := #[]
  cf := some (fileOf pool4 1 #[] #[] 1537 3 #[] #[])
  fields := #[]
  methods := #[]
  instanceTypes := #[]
  staticTypes := #[]
  resolved := Array.replicate 7 none
  statics := none }

def pool5 : Array CpInfo := pool [(2, .class_ 4), (1, u "java/lang/Enum"), (0, u "name"), (0, u "Ljava/lang/String;"), (2, u "ordinal"), (0, u "I"), (1, .class_ 14), (1, u "java/lang/Object"), (4, u "hash"), (86, .class_ 108), (1, u "java/lang/Enum$EnumDesc"), (2, .class_ 112), (0, u "java/lang/constant/Constable"), (0, .class_ 114), (0, u "java/lang/Comparable"), (0, .class_ 116), (0, u "java/io/Serializable")] 87

/-- java/lang/Enum -/
def k5 : Class := { plain "java/lang/Enum" (some 0) with
  accessFlags := 1057
  interfaces := #[2, 3, 4]
  cf := some (fileOf pool5 2 #[.nestMembers #[106]] #[] 1057 12 #[111, 113, 115] #[{ accessFlags := 18, nameIndex := 5, descriptorIndex := 6, attributes := #[] }, { accessFlags := 18, nameIndex := 9, descriptorIndex := 10, attributes := #[] }, { accessFlags := 2, nameIndex := 19, descriptorIndex := 10, attributes := #[] }])
  fields := #[{ name := "name", type := (.object "java/lang/String"), accessFlags := 18, slot := 0, constantValue := 0 }, { name := "ordinal", type := .int, accessFlags := 18, slot := 1, constantValue := 0 }, { name := "hash", type := .int, accessFlags := 2, slot := 2, constantValue := 0 }]
  methods := #[]
  instanceTypes := #[(.object "java/lang/String"), .int, .int]
  staticTypes := #[]
  resolved := Array.replicate 204 none
  statics := none }

def pool6 : Array CpInfo := pool [(1, .class_ 2), (0, u "com/example/ferryway/ferryway/tool/CCondition$Truth"), (0, .fieldref 1 4), (0, .nameAndType 5 6), (0, u "FALSE"), (0, u "Lcom/example/ferryway/ferryway/tool/CCondition$Truth;"), (0, .fieldref 1 8), (0, .nameAndType 9 6), (0, u "TRUE"), (0, .fieldref 1 11), (0, .nameAndType 12 6), (0, u "UNKNOWN"), (2, u "$VALUES"), (0, u "[Lcom/example/ferryway/ferryway/tool/CCondition$Truth;"), (6, .class_ 25), (1, u "java/lang/Enum"), (34, u "(Lcom/example/ferryway/ferryway/tool/CCondition$Truth;)Lcom/example/ferryway/ferryway/tool/CCondition$Truth;"), (0, u "or"), (5, .class_ 68), (0, u "com/example/ferryway/ferryway/tool/CCondition")] 2

def k6c0 : Code := { maxStack := 2, maxLocals := 2, code := prog_32_method_6_code, exceptionTable := #[], attributes := #[] }
def k6m0 : Method := { name := "or", desc := "(Lcom/example/ferryway/ferryway/tool/CCondition$Truth;)Lcom/example/ferryway/ferryway/tool/CCondition$Truth;", sig := { parameters := [(.object "com/example/ferryway/ferryway/tool/CCondition$Truth")], returnType := some (.object "com/example/ferryway/ferryway/tool/CCondition$Truth") }, accessFlags := 0, code := some k6c0 }
/-- com/example/ferryway/ferryway/tool/CCondition$Truth -/
def k6 : Class := { plain "com/example/ferryway/ferryway/tool/CCondition$Truth" (some 5) with
  accessFlags := 16432
  interfaces := #[]
  cf := some (fileOf pool6 1 #[.nestHost 67] #[{ accessFlags := 0, nameIndex := 61, descriptorIndex := 60, attributes := #[] }] 16432 23 #[] #[{ accessFlags := 16409, nameIndex := 5, descriptorIndex := 6, attributes := #[] }, { accessFlags := 16409, nameIndex := 9, descriptorIndex := 6, attributes := #[] }, { accessFlags := 16409, nameIndex := 12, descriptorIndex := 6, attributes := #[] }, { accessFlags := 4122, nameIndex := 15, descriptorIndex := 16, attributes := #[] }])
  fields := #[{ name := "FALSE", type := (.object "com/example/ferryway/ferryway/tool/CCondition$Truth"), accessFlags := 16409, slot := 0, constantValue := 0 }, { name := "TRUE", type := (.object "com/example/ferryway/ferryway/tool/CCondition$Truth"), accessFlags := 16409, slot := 1, constantValue := 0 }, { name := "UNKNOWN", type := (.object "com/example/ferryway/ferryway/tool/CCondition$Truth"), accessFlags := 16409, slot := 2, constantValue := 0 }, { name := "$VALUES", type := (.array (.object "com/example/ferryway/ferryway/tool/CCondition$Truth")), accessFlags := 4122, slot := 3, constantValue := 0 }]
  methods := #[k6m0]
  instanceTypes := #[(.object "java/lang/String"), .int, .int]
  staticTypes := #[(.object "com/example/ferryway/ferryway/tool/CCondition$Truth"), (.object "com/example/ferryway/ferryway/tool/CCondition$Truth"), (.object "com/example/ferryway/ferryway/tool/CCondition$Truth"), (.array (.object "com/example/ferryway/ferryway/tool/CCondition$Truth"))]
  resolved := Array.replicate 71 none
  statics := some 0 }

def pool7 : Array CpInfo := pool [(1, .class_ 2), (0, u "java/lang/Math"), (1, .class_ 6), (1, u "java/lang/Object"), (0, u "<init>"), (0, u "()V"), (89, .class_ 100), (1, u "java/lang/Math$RandomNumberGeneratorHolder"), (71, u "negativeZeroFloatBits"), (0, u "J"), (2, u "negativeZeroDoubleBits"), (21, u "max"), (46, u "$assertionsDisabled"), (0, u "Z"), (88, u "(II)I"), (2, u "twoToTheDoubleScaleDown"), (0, u "D"), (4, u "twoToTheDoubleScaleUp"), (9, u "E"), (3, u "PI"), (2, u "TAU"), (2, u "DEGREES_TO_RADIANS"), (0, u "RADIANS_TO_DEGREES")] 94

def k7m0 : Method := { name := "<init>", desc := "()V", sig := { parameters := [], returnType := none }, accessFlags := 2, code := none }
def k7c1 : Code := { maxStack := 2, maxLocals := 2, code := jdk_29_method_65_code, exceptionTable := #[], attributes := #[] }
def k7m1 : Method := { name := "max", desc := "(II)I", sig := { parameters := [.int, .int], returnType := some .int }, accessFlags := 9, code := some k7c1 }
/-- java/lang/Math -/
def k7 : Class := { plain "java/lang/Math" (some 0) with
  accessFlags := 49
  interfaces := #[]
  cf := some (fileOf pool7 1 #[.nestMembers #[98]] #[{ accessFlags := 2, nameIndex := 7, descriptorIndex := 8, attributes := #[] }, { accessFlags := 9, nameIndex := 198, descriptorIndex := 335, attributes := #[] }] 49 4 #[] #[{ accessFlags := 25, nameIndex := 354, descriptorIndex := 339, attributes := #[] }, { accessFlags := 25, nameIndex := 358, descriptorIndex := 339, attributes := #[] }, { accessFlags := 25, nameIndex := 361, descriptorIndex := 339, attributes := #[] }, { accessFlags := 26, nameIndex := 364, descriptorIndex := 339, attributes := #[] }, { accessFlags := 26, nameIndex := 365, descriptorIndex := 339, attributes := #[] }, { accessFlags := 26, nameIndex := 172, descriptorIndex := 173, attributes := #[] }, { accessFlags := 26, nameIndex := 176, descriptorIndex := 173, attributes := #[] }, { accessFlags := 8, nameIndex := 344, descriptorIndex := 339, attributes := #[] }, { accessFlags := 8, nameIndex := 338, descriptorIndex := 339, attributes := #[] }, { accessFlags := 4120, nameIndex := 245, descriptorIndex := 246, attributes := #[] }])
  fields := #[{ name := "E", type := .double, accessFlags := 25, slot := 0, constantValue := 0 }, { name := "PI", type := .double, accessFlags := 25, slot := 1, constantValue := 0 }, { name := "TAU", type := .double, accessFlags := 25, slot := 2, constantValue := 0 }, { name := "DEGREES_TO_RADIANS", type := .double, accessFlags := 26, slot := 3, constantValue := 0 }, { name := "RADIANS_TO_DEGREES", type := .double, accessFlags := 26, slot := 4, constantValue := 0 }, { name := "negativeZeroFloatBits", type := .long, accessFlags := 26, slot := 5, constantValue := 0 }, { name := "negativeZeroDoubleBits", type := .long, accessFlags := 26, slot := 6, constantValue := 0 }, { name := "twoToTheDoubleScaleUp", type := .double, accessFlags := 8, slot := 7, constantValue := 0 }, { name := "twoToTheDoubleScaleDown", type := .double, accessFlags := 8, slot := 8, constantValue := 0 }, { name := "$assertionsDisabled", type := .boolean, accessFlags := 4120, slot := 9, constantValue := 0 }]
  methods := #[k7m0, k7m1]
  instanceTypes := #[]
  staticTypes := #[.double, .double, .double, .double, .double, .long, .long, .double, .double, .boolean]
  resolved := Array.replicate 460 none
  statics := none }

def pool8 : Array CpInfo := pool [(1, u "java/lang/Cloneable"), (0, .class_ 1), (0, u "java/lang/Object"), (0, .class_ 3)] 3

/-- java/lang/Cloneable -/
def k8 : Class := { plain "java/lang/Cloneable" (some 0) with
  accessFlags := 1537
  interfaces := #[]
  cf := some (fileOf pool8 2 #[] #[] 1537 4 #[] #[])
  fields := #[]
  methods := #[]
  instanceTypes := #[]
  staticTypes := #[]
  resolved := Array.replicate 8 none
  statics := none }

/-- the primitive byte -/
def k9 : Class := { plain "byte" none with kind := .primitive 'B', accessFlags := 0x411 }
/-- [B -/
def k10 : Class := { plain "[B" (some 0) with kind := .array 9 .byte, interfaces := #[8, 4], accessFlags := 1041 }

/-- the primitive int -/
def k11 : Class := { plain "int" none with kind := .primitive 'I', accessFlags := 0x411 }
/-- [I -/
def k12 : Class := { plain "[I" (some 0) with kind := .array 11 .int, interfaces := #[8, 4], accessFlags := 1041 }

def heap : Heap := #[{ cls := 6, slots := #[.ref 1, .ref 2, .ref 3, .null], vm := .statics 6 },
  { cls := 6, slots := #[.null, .int 0, .int 0], vm := .none },
  { cls := 6, slots := #[.null, .int 1, .int 0], vm := .none },
  { cls := 6, slots := #[.null, .int 2, .int 0], vm := .none }]
def classes : Array Class := #[k0, k1, k2, k3, k4, k5, k6, k7, k8, k9, k10, k11, k12]
def interned : List (Array UInt16 × Addr) := []
def slotsUsed : Nat := 13
def theMethod : MethodId := ⟨1, 3⟩
def args0 : Array Value := #[.int 4, .int 5]
def aboutOver (below : List Frame) : State where
  vm := { classes := classes, interned := interned.toArray }
  heap := heap
  slotsUsed := slotsUsed
  threads := #[{ frames := .invoking theMethod args0 :: below }]
def below0 : List Frame := [.native { method := ⟨0, 0⟩, args := #[] }]
def about1 : State := aboutOver below0
def p0 : Program := .bare "" "" ""
def e0 : Env := launch0.env 0 0 0
theorem w_frames : about1.frames = Frame.invoking theMethod args0 :: below0 := rfl
set_option maxRecDepth 65536 in
theorem w_args : argsFit about1.vm theMethod args0 = true := by decide +kernel
set_option maxRecDepth 65536 in
theorem w_heap : heapFits about1 = true := by decide +kernel
set_option maxRecDepth 65536 in
theorem w_runnable : about1.curStatus? = some .runnable := by decide +kernel
set_option maxRecDepth 65536 in
theorem w_alone : about1.alone = true := by decide +kernel
set_option maxRecDepth 65536 in
theorem w_named : about1.methodNamed? x = some theMethod := by decide +kernel
set_option maxRecDepth 65536 in
theorem w_hears : about1.hears theMethod below0 = true := by decide +kernel
set_option maxRecDepth 65536 in
theorem w_ripe : about1.ripe theMethod args0 below0 = true := by decide +kernel
theorem w_running : about1.status = .running := rfl
set_option maxRecDepth 65536 in
theorem w_room : about1.hasRoom e0.platform room_1 = true :=
  launch0.hasRoom_least _ room_1 (by decide +kernel) (by decide +kernel) (by decide +kernel) (by decide +kernel) (by decide +kernel) (by decide +kernel)
theorem allAtoms_all (ts : List Jvm.Cond) (a : Array Jvm.Value) (st : Jvm.State) : (allAtoms ts).before a st = ts.all (fun c => c.before a st) := by
  induction ts with
  | nil => rfl
  | cons c t ih =>
    show (Jvm.Cond.and c (allAtoms t)).before a st = _
    rw [Jvm.Cond.before_and, ih, List.all_cons]
def words1 : List Jvm.Cond := Jvm.Cond.code x code maxLocals ret :: tables_1
/-- a 'code' word, met by the world's own term for the bytes: nothing is compared byte by byte -/
theorem code_word {y : MethodName} {bytes : ByteArray} {mx : Nat} {rt : Option FieldType} {a : Array Value} {s : State} {m : MethodId} {meth : Method} {c : Code} (h1 : s.methodNamed? y = some m) (h2 : s.vm.method? m = some meth) (h3 : meth.code = some c) (h4 : c.code = bytes)
    (h5 : (c.maxLocals == mx && c.exceptionTable.isEmpty && decide (c.maxStack ≤ mostOperands) && decide (meth.sig.returnType = rt) && !meth.locks && decide (parseMethodDescriptor y.desc = some meth.sig)) = true) : (Jvm.Cond.code y bytes mx rt).before a s = true := by
  simp only [Bool.and_eq_true, beq_iff_eq, Bool.not_eq_true', decide_eq_true_eq] at h5
  obtain ⟨⟨⟨⟨⟨g1, g2⟩, g3⟩, g4⟩, g5⟩, g6⟩ := h5
  simp [Cond.before, Cond.holds, Cond.value, h1, h2, h3, h4, g1, g2, g3, g4, g5, g6]
def isCode : Jvm.Cond → Bool
  | .code _ _ _ _ => true
  | _ => false
theorem all_split {L : List Jvm.Cond} {P : Jvm.Cond → Bool} (h1 : L.all (fun c => isCode c || P c) = true) (h2 : ∀ c ∈ L.filter isCode, P c = true) : L.all P = true := by
  refine List.all_eq_true.mpr fun c hc => ?_
  have h := List.all_eq_true.mp h1 c hc
  rcases Bool.eq_false_or_eq_true (isCode c) with hi | hi
  · exact h2 c (List.mem_filter.mpr ⟨hc, hi⟩)
  · simpa [hi] using h
set_option maxRecDepth 65536 in
theorem w_c0 : (Jvm.Cond.code x code maxLocals ret).before args0 about1 = true := code_word (m := ⟨1, 3⟩) (meth := k1m3) (c := k1c3) (by decide +kernel) rfl rfl rfl (by decide +kernel)
set_option maxRecDepth 65536 in
theorem w_c1 : (Jvm.Cond.code ({ cls := "com/example/ferryway/ferryway/tool/TruthOrPinLaw", name := "pick", desc := "(I)Lcom/example/ferryway/ferryway/tool/CCondition$Truth;" } : Jvm.MethodName) method_2_code (2 : Nat) (Option.some (Jvm.ClassFile.FieldType.object "com/example/ferryway/ferryway/tool/CCondition$Truth"))).before args0 about1 = true := code_word (m := ⟨1, 1⟩) (meth := k1m1) (c := k1c1) (by decide +kernel) rfl rfl rfl (by decide +kernel)
set_option maxRecDepth 65536 in
theorem w_c2 : (Jvm.Cond.code ({ cls := "com/example/ferryway/ferryway/tool/CCondition$Truth", name := "or", desc := "(Lcom/example/ferryway/ferryway/tool/CCondition$Truth;)Lcom/example/ferryway/ferryway/tool/CCondition$Truth;" } : Jvm.MethodName) prog_32_method_6_code (2 : Nat) (Option.some (Jvm.ClassFile.FieldType.object "com/example/ferryway/ferryway/tool/CCondition$Truth"))).before args0 about1 = true := code_word (m := ⟨6, 0⟩) (meth := k6m0) (c := k6c0) (by decide +kernel) rfl rfl rfl (by decide +kernel)
set_option maxRecDepth 65536 in
theorem w_c3 : (Jvm.Cond.code ({ cls := "com/example/ferryway/ferryway/tool/TruthOrPinLaw", name := "rank", desc := "(Lcom/example/ferryway/ferryway/tool/CCondition$Truth;)I" } : Jvm.MethodName) method_3_code (1 : Nat) (Option.some Jvm.ClassFile.FieldType.int)).before args0 about1 = true := code_word (m := ⟨1, 2⟩) (meth := k1m2) (c := k1c2) (by decide +kernel) rfl rfl rfl (by decide +kernel)
set_option maxRecDepth 65536 in
theorem w_c4 : (Jvm.Cond.code ({ cls := "java/lang/Math", name := "max", desc := "(II)I" } : Jvm.MethodName) jdk_29_method_65_code (2 : Nat) (Option.some Jvm.ClassFile.FieldType.int)).before args0 about1 = true := code_word (m := ⟨7, 1⟩) (meth := k7m1) (c := k7c1) (by decide +kernel) rfl rfl rfl (by decide +kernel)
def codes1 : List Jvm.Cond := [Jvm.Cond.code x code maxLocals ret, Jvm.Cond.code ({ cls := "com/example/ferryway/ferryway/tool/TruthOrPinLaw", name := "pick", desc := "(I)Lcom/example/ferryway/ferryway/tool/CCondition$Truth;" } : Jvm.MethodName) method_2_code (2 : Nat) (Option.some (Jvm.ClassFile.FieldType.object "com/example/ferryway/ferryway/tool/CCondition$Truth")), Jvm.Cond.code ({ cls := "com/example/ferryway/ferryway/tool/CCondition$Truth", name := "or", desc := "(Lcom/example/ferryway/ferryway/tool/CCondition$Truth;)Lcom/example/ferryway/ferryway/tool/CCondition$Truth;" } : Jvm.MethodName) prog_32_method_6_code (2 : Nat) (Option.some (Jvm.ClassFile.FieldType.object "com/example/ferryway/ferryway/tool/CCondition$Truth")), Jvm.Cond.code ({ cls := "com/example/ferryway/ferryway/tool/TruthOrPinLaw", name := "rank", desc := "(Lcom/example/ferryway/ferryway/tool/CCondition$Truth;)I" } : Jvm.MethodName) method_3_code (1 : Nat) (Option.some Jvm.ClassFile.FieldType.int), Jvm.Cond.code ({ cls := "java/lang/Math", name := "max", desc := "(II)I" } : Jvm.MethodName) jdk_29_method_65_code (2 : Nat) (Option.some Jvm.ClassFile.FieldType.int)]
set_option maxRecDepth 65536 in
theorem codes_eq : words1.filter isCode = codes1 := rfl
theorem w_codes : ∀ c ∈ words1.filter isCode, c.before args0 about1 = true := by
  rw [codes_eq]
  intro c hc
  simp only [codes1, List.mem_cons, List.not_mem_nil, or_false] at hc
  rcases hc with rfl | rfl | rfl | rfl | rfl
  · exact w_c0
  · exact w_c1
  · exact w_c2
  · exact w_c3
  · exact w_c4
set_option maxRecDepth 65536 in
theorem w_t1 : (words1.take 24).all (fun c => isCode c || c.before args0 about1) = true := by decide +kernel
set_option maxRecDepth 65536 in
theorem w_t2 : (words1.drop 24).all (fun c => isCode c || c.before args0 about1) = true := by decide +kernel
theorem w_tables : (allAtoms (Jvm.Cond.code x code maxLocals ret :: tables_1)).before args0 about1 = true := by
  rw [allAtoms_all]
  show words1.all (fun c => c.before args0 about1) = true
  refine all_split ?_ w_codes
  rw [← List.take_append_drop 24 words1, List.all_append, w_t1, w_t2]
  rfl
set_option maxRecDepth 65536 in
theorem w_case : (Jvm.Cond.and given_1 narrow_1).before args0 about1 = true := by decide +kernel
theorem w_applies : (headSpec (Jvm.Cond.code x code maxLocals ret :: tables_1) room_1).applies x e0.platform about1 = true :=
  (Spec.applies_iff w_frames).mpr ⟨w_running, w_runnable, w_alone, w_named, w_hears, w_ripe, w_room, w_tables⟩
theorem atStart : AtStart classFile x code maxLocals ret World_1 tables_1 room_1 Calls_1 rest_1 Pre_1 launch0 p0 e0 about1 theMethod args0 below0 :=
  ⟨lists_1, trivial, launch0.admits_env _ _ _, launch0.least_env, fairChoices_fair.cas, fairChoices_fair.clock, w_frames, w_args, w_heap, w_applies, trivial, trivial, w_case⟩
end start1
theorem witness_1 : WitnessClaimed_1 := ⟨start1.p0, start1.e0, start1.about1, start1.theMethod, start1.args0, start1.below0, start1.atStart⟩
end Jvm.Pilot.@@N@@
