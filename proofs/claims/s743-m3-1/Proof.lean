import JvmDerived
import JvmDerived.Pilot.@@N@@Statement
import JvmDerived.Pilot.@@N@@Code
set_option linter.unusedVariables false
set_option linter.unusedSimpArgs false
@@BLOCK:NumsL.lean.txt@@
namespace Jvm.OwnK
open Sem ClassFile Op Lib Jvm.Stand Jvm.Free Jvm.LawKit Jvm.RoadKit Bundle
/-- from the frame f at T the run ends, and P holds of its end -/
def Go (tb : Tables) (e : Env) (below : List Frame) (P : Outcome → State → Prop) (T : State) (f : JFrame) : Prop :=
  ∃ s₂ o, Steps tb e below (T.setTop f) s₂ ∧ s₂.status = .running ∧ Ended s₂ below o ∧ P o s₂
abbrev PQ (s : State) (Q : Option Value → Heap → List Loc → Prop) (C N : Nat) : Outcome → State → Prop := fun o U' => ∃ v L, o = .returned v ∧ Q v U'.heap L ∧ FrameEnd s o U' L C N
theorem Go.st {tb : Tables} {e : Env} {below : List Frame} {P : Outcome → State → Prop} {T T' : State} {f f' : JFrame} (h : ∀ t, Steps tb e below (T'.setTop f') t → Steps tb e below (T.setTop f) t) (k : Go tb e below P T' f') : Go tb e below P T f := by
  obtain ⟨s₂, o, h1, h2⟩ := k; exact ⟨s₂, o, h _ h1, h2⟩
theorem Go.st1 {tb : Tables} {e : Env} {below : List Frame} {P : Outcome → State → Prop} {T T' : State} {f f' : JFrame} (h : Steps tb e below (T.setTop f) (T'.setTop f')) (k : Go tb e below P T' f') : Go tb e below P T f :=
  Go.st (fun t q => h.trans q) k
theorem tI {x : Int32} {n : Int} (h : x.toInt = n) : x = Int32.ofInt n := by subst h; simp
section Steps
variable {p : Program} {l : Launch} {e : Env} {R : Room} {s : State} {m : MethodId} {args : Array Value} {below : List Frame} {meth : Method} {c : Code} {T : State} {locs : List Loc} {cells slots : Nat} {P : Outcome → State → Prop} {pc pc' : Nat} {Ls : Array Slot} {S : List Value} {Z : State} {a0 : Array Value} {h : Heap}
theorem iload (X : Stand p l e R s m args below meth c T locs cells slots) (hx : p.tables.exec = Jvm.exec) {j : Nat} {v : Int32} (hd : decode c.code pc = .ok (.iload j, 2)) (hp : pc' = pc + 2) (hl : Ls[j]? = some (.val (.int v)))
    (k : Go p.tables e below P T (mkF m pc' Ls (.int v :: S))) : Go p.tables e below P T (mkF m pc Ls (S)) := by
  subst hp; exact Go.st (fun t q => XS.iload X.here hx rfl hd  hl q) k
theorem iloadN (X : Stand p l e R s m args below meth c T locs cells slots) (hx : p.tables.exec = Jvm.exec) {j : Fin 4} {v : Int32} (hd : decode c.code pc = .ok (.iload_n j, 1)) (hp : pc' = pc + 1) (hl : Ls[j.val]? = some (.val (.int v)))
    (k : Go p.tables e below P T (mkF m pc' Ls (.int v :: S))) : Go p.tables e below P T (mkF m pc Ls (S)) := by
  subst hp; exact Go.st (fun t q => XS.iloadN X.here hx rfl hd  hl q) k
theorem aload (X : Stand p l e R s m args below meth c T locs cells slots) (hx : p.tables.exec = Jvm.exec) {j : Nat} {v : Value} (hd : decode c.code pc = .ok (.aload j, 2)) (hp : pc' = pc + 2) (hl : Ls[j]? = some (.val v)) (hv : v.isRef = true)
    (k : Go p.tables e below P T (mkF m pc' Ls (v :: S))) : Go p.tables e below P T (mkF m pc Ls (S)) := by
  subst hp; exact Go.st (fun t q => XS.aload X.here hx rfl hd  hl hv q) k
theorem aloadN (X : Stand p l e R s m args below meth c T locs cells slots) (hx : p.tables.exec = Jvm.exec) {j : Fin 4} {v : Value} (hd : decode c.code pc = .ok (.aload_n j, 1)) (hp : pc' = pc + 1) (hl : Ls[j.val]? = some (.val v)) (hv : v.isRef = true)
    (k : Go p.tables e below P T (mkF m pc' Ls (v :: S))) : Go p.tables e below P T (mkF m pc Ls (S)) := by
  subst hp; exact Go.st (fun t q => XS.aloadN X.here hx rfl hd  hl hv q) k
theorem istore (X : Stand p l e R s m args below meth c T locs cells slots) (hx : p.tables.exec = Jvm.exec) {j : Nat} {v : Int32} {Ls' : Array Slot} (hd : decode c.code pc = .ok (.istore j, 2)) (hp : pc' = pc + 2) (hl : storeLocals Ls j (.int v) = some Ls')
    (k : Go p.tables e below P T (mkF m pc' Ls' (S))) : Go p.tables e below P T (mkF m pc Ls (.int v :: S)) := by
  subst hp; exact Go.st (fun t q => XS.istore X.here hx rfl hd rfl hl q) k
theorem astore (X : Stand p l e R s m args below meth c T locs cells slots) (hx : p.tables.exec = Jvm.exec) {j : Nat} {v : Value} {Ls' : Array Slot} (hd : decode c.code pc = .ok (.astore j, 2)) (hp : pc' = pc + 2) (hv : v.isRef = true) (hl : storeLocals Ls j v = some Ls')
    (k : Go p.tables e below P T (mkF m pc' Ls' (S))) : Go p.tables e below P T (mkF m pc Ls (v :: S)) := by
  subst hp; exact Go.st (fun t q => XS.astore X.here hx rfl hd rfl hv hl q) k
theorem istoreG (X : Stand p l e R s m args below meth c T locs cells slots) (hx : p.tables.exec = Jvm.exec) {j : Nat} {v : Int32} {Ls' : Int32 → Array Slot} (hd : decode c.code pc = .ok (.istore j, 2)) (hp : pc' = pc + 2) (hl : ∀ u, storeLocals Ls j (.int u) = some (Ls' u))
    (k : ∀ u, u = v → Go p.tables e below P T (mkF m pc' (Ls' u) (S))) : Go p.tables e below P T (mkF m pc Ls (.int v :: S)) := istore X hx hd hp (hl v) (k v rfl)
theorem iconst (X : Stand p l e R s m args below meth c T locs cells slots) (hx : p.tables.exec = Jvm.exec) {i : Int} {v : Int32} (hd : decode c.code pc = .ok (.iconst i, 1)) (hp : pc' = pc + 1) (hv : Int32.ofInt i = v)
    (k : Go p.tables e below P T (mkF m pc' Ls (.int v :: S))) : Go p.tables e below P T (mkF m pc Ls (S)) := by
  subst hp hv; exact Go.st (fun t q => XS.iconst X.here hx rfl hd q) k
theorem bipush (X : Stand p l e R s m args below meth c T locs cells slots) (hx : p.tables.exec = Jvm.exec) {i : Int} {v : Int32} (hd : decode c.code pc = .ok (.bipush i, 2)) (hp : pc' = pc + 2) (hv : (Int8.ofInt i).toInt32 = v)
    (k : Go p.tables e below P T (mkF m pc' Ls (.int v :: S))) : Go p.tables e below P T (mkF m pc Ls (S)) := by
  subst hp hv; exact Go.st (fun t q => XS.bipush X.here hx rfl hd q) k
theorem sipush (X : Stand p l e R s m args below meth c T locs cells slots) (hx : p.tables.exec = Jvm.exec) {i : Int} {v : Int32} (hd : decode c.code pc = .ok (.sipush i, 3)) (hp : pc' = pc + 3) (hv : (Int16.ofInt i).toInt32 = v)
    (k : Go p.tables e below P T (mkF m pc' Ls (.int v :: S))) : Go p.tables e below P T (mkF m pc Ls (S)) := by
  subst hp hv; exact Go.st (fun t q => XS.sipush X.here hx rfl hd q) k
theorem iadd (X : Stand p l e R s m args below meth c T locs cells slots) (hx : p.tables.exec = Jvm.exec) {x y : Int32} (hd : decode c.code pc = .ok (.iadd, 1)) (hp : pc' = pc + 1)
    (k : Go p.tables e below P T (mkF m pc' Ls (.int (x + y) :: S))) : Go p.tables e below P T (mkF m pc Ls (.int y :: .int x :: S)) := by
  subst hp; exact Go.st (fun t q => XS.iadd X.here hx rfl hd rfl  q) k
theorem isub (X : Stand p l e R s m args below meth c T locs cells slots) (hx : p.tables.exec = Jvm.exec) {x y : Int32} (hd : decode c.code pc = .ok (.isub, 1)) (hp : pc' = pc + 1)
    (k : Go p.tables e below P T (mkF m pc' Ls (.int (x - y) :: S))) : Go p.tables e below P T (mkF m pc Ls (.int y :: .int x :: S)) := by
  subst hp; exact Go.st (fun t q => XS.isub X.here hx rfl hd rfl  q) k
theorem iand (X : Stand p l e R s m args below meth c T locs cells slots) (hx : p.tables.exec = Jvm.exec) {x y : Int32} (hd : decode c.code pc = .ok (.iand, 1)) (hp : pc' = pc + 1)
    (k : Go p.tables e below P T (mkF m pc' Ls (.int (x &&& y) :: S))) : Go p.tables e below P T (mkF m pc Ls (.int y :: .int x :: S)) := by
  subst hp; exact Go.st (fun t q => XS.iand X.here hx rfl hd rfl  q) k
theorem ixor (X : Stand p l e R s m args below meth c T locs cells slots) (hx : p.tables.exec = Jvm.exec) {x y : Int32} (hd : decode c.code pc = .ok (.ixor, 1)) (hp : pc' = pc + 1)
    (k : Go p.tables e below P T (mkF m pc' Ls (.int (x ^^^ y) :: S))) : Go p.tables e below P T (mkF m pc Ls (.int y :: .int x :: S)) := by
  subst hp; exact Go.st (fun t q => XT.ixor X.here hx rfl hd rfl  q) k
theorem irem (X : Stand p l e R s m args below meth c T locs cells slots) (hx : p.tables.exec = Jvm.exec) {x y : Int32} (hd : decode c.code pc = .ok (.irem, 1)) (hp : pc' = pc + 1) (hy : y ≠ 0)
    (k : Go p.tables e below P T (mkF m pc' Ls (.int (x % y) :: S))) : Go p.tables e below P T (mkF m pc Ls (.int y :: .int x :: S)) := by
  subst hp; exact Go.st (fun t q => iremM X hx rfl hd rfl hy q) k
theorem ineg (X : Stand p l e R s m args below meth c T locs cells slots) (hx : p.tables.exec = Jvm.exec) {x : Int32} (hd : decode c.code pc = .ok (.ineg, 1)) (hp : pc' = pc + 1)
    (k : Go p.tables e below P T (mkF m pc' Ls (.int (-x) :: S))) : Go p.tables e below P T (mkF m pc Ls (.int x :: S)) := by
  subst hp; exact Go.st (fun t q => XS.ineg X.here hx rfl hd rfl  q) k
theorem dup (X : Stand p l e R s m args below meth c T locs cells slots) (hx : p.tables.exec = Jvm.exec) {x : Value} (hd : decode c.code pc = .ok (.dup, 1)) (hp : pc' = pc + 1) (hc : x.category = 1)
    (k : Go p.tables e below P T (mkF m pc' Ls (x :: x :: S))) : Go p.tables e below P T (mkF m pc Ls (x :: S)) := by
  subst hp; exact Go.st (fun t q => XS.dup X.here hx rfl hd rfl hc q) k
theorem goto_ (X : Stand p l e R s m args below meth c T locs cells slots) (hx : p.tables.exec = Jvm.exec) {o : Int} (hd : decode c.code pc = .ok (.goto o, 3)) (ho : 0 ≤ (pc : Int) + o) (hp : ((pc : Int) + o).toNat = pc')
    (k : Go p.tables e below P T (mkF m pc' Ls (S))) : Go p.tables e below P T (mkF m pc Ls (S)) :=
  Go.st (fun t q => XS.goto X.here hx rfl rfl hd ho hp q) k
theorem h_lt (x y : Int32) : if_icmp.holds .lt x y = decide (x.toInt < y.toInt) := by simp [if_icmp.holds, Int32.lt_iff_toInt_lt]
theorem h_ge (x y : Int32) : if_icmp.holds .ge x y = decide (y.toInt ≤ x.toInt) := by simp [if_icmp.holds, Int32.le_iff_toInt_le]
theorem h_gt (x y : Int32) : if_icmp.holds .gt x y = decide (y.toInt < x.toInt) := by simp [if_icmp.holds, Int32.lt_iff_toInt_lt]
theorem h_eq (x y : Int32) : if_icmp.holds .eq x y = decide (x.toInt = y.toInt) := by rw [Bool.eq_iff_iff]; simp [if_icmp.holds, Int32.toInt_inj]
theorem h_ne (x y : Int32) : if_icmp.holds .ne x y = decide (¬ x.toInt = y.toInt) := by rw [Bool.eq_iff_iff]; simp [if_icmp.holds, Int32.toInt_inj]
theorem z_any (cd : ClassFile.Cond) (x : Int32) : ifCond.holds cd x = if_icmp.holds cd x 0 := by cases cd <;> simp [ifCond.holds, if_icmp.holds]
theorem z0 : (0 : Int32).toInt = 0 := by decide
theorem icmp_lt (X : Stand p l e R s m args below meth c T locs cells slots) (hx : p.tables.exec = Jvm.exec) {o : Int} {x y : Int32} {pcT : Nat} (hd : decode c.code pc = .ok (.if_icmp .lt o, 3)) (ho : 0 ≤ (pc : Int) + o) (hT : ((pc : Int) + o).toNat = pcT) (hp : pc' = pc + 3)
    (kt : x.toInt < y.toInt → Go p.tables e below P T (mkF m pcT Ls (S))) (kf : y.toInt ≤ x.toInt → Go p.tables e below P T (mkF m pc' Ls (S))) : Go p.tables e below P T (mkF m pc Ls (.int y :: .int x :: S)) := by
  subst hp
  by_cases q : x.toInt < y.toInt
  · exact Go.st (fun t r => XS.icmpYes X.here hx rfl rfl hd rfl (by rw [h_lt]; exact decide_eq_true q) ho hT r) (kt q)
  · exact Go.st (fun t r => XS.icmpNo X.here hx rfl hd rfl (by rw [h_lt]; exact decide_eq_false q) r) (kf (by omega))
theorem icmp_ge (X : Stand p l e R s m args below meth c T locs cells slots) (hx : p.tables.exec = Jvm.exec) {o : Int} {x y : Int32} {pcT : Nat} (hd : decode c.code pc = .ok (.if_icmp .ge o, 3)) (ho : 0 ≤ (pc : Int) + o) (hT : ((pc : Int) + o).toNat = pcT) (hp : pc' = pc + 3)
    (kt : y.toInt ≤ x.toInt → Go p.tables e below P T (mkF m pcT Ls (S))) (kf : x.toInt < y.toInt → Go p.tables e below P T (mkF m pc' Ls (S))) : Go p.tables e below P T (mkF m pc Ls (.int y :: .int x :: S)) := by
  subst hp
  by_cases q : y.toInt ≤ x.toInt
  · exact Go.st (fun t r => XS.icmpYes X.here hx rfl rfl hd rfl (by rw [h_ge]; exact decide_eq_true q) ho hT r) (kt q)
  · exact Go.st (fun t r => XS.icmpNo X.here hx rfl hd rfl (by rw [h_ge]; exact decide_eq_false q) r) (kf (by omega))
theorem icmp_gt (X : Stand p l e R s m args below meth c T locs cells slots) (hx : p.tables.exec = Jvm.exec) {o : Int} {x y : Int32} {pcT : Nat} (hd : decode c.code pc = .ok (.if_icmp .gt o, 3)) (ho : 0 ≤ (pc : Int) + o) (hT : ((pc : Int) + o).toNat = pcT) (hp : pc' = pc + 3)
    (kt : y.toInt < x.toInt → Go p.tables e below P T (mkF m pcT Ls (S))) (kf : x.toInt ≤ y.toInt → Go p.tables e below P T (mkF m pc' Ls (S))) : Go p.tables e below P T (mkF m pc Ls (.int y :: .int x :: S)) := by
  subst hp
  by_cases q : y.toInt < x.toInt
  · exact Go.st (fun t r => XS.icmpYes X.here hx rfl rfl hd rfl (by rw [h_gt]; exact decide_eq_true q) ho hT r) (kt q)
  · exact Go.st (fun t r => XS.icmpNo X.here hx rfl hd rfl (by rw [h_gt]; exact decide_eq_false q) r) (kf (by omega))
theorem if_eq (X : Stand p l e R s m args below meth c T locs cells slots) (hx : p.tables.exec = Jvm.exec) {o : Int} {x : Int32} {pcT : Nat} (hd : decode c.code pc = .ok (.ifCond .eq o, 3)) (ho : 0 ≤ (pc : Int) + o) (hT : ((pc : Int) + o).toNat = pcT) (hp : pc' = pc + 3)
    (kt : x.toInt = 0 → Go p.tables e below P T (mkF m pcT Ls (S))) (kf : ¬ x.toInt = 0 → Go p.tables e below P T (mkF m pc' Ls (S))) : Go p.tables e below P T (mkF m pc Ls (.int x :: S)) := by
  subst hp
  by_cases q : x.toInt = 0
  · exact Go.st (fun t r => XS.ifYes X.here hx rfl rfl hd rfl (by rw [z_any, h_eq, z0]; exact decide_eq_true q) ho hT r) (kt q)
  · exact Go.st (fun t r => XS.ifNo X.here hx rfl hd rfl (by rw [z_any, h_eq, z0]; exact decide_eq_false q) r) (kf (by omega))
theorem icmp_ne (X : Stand p l e R s m args below meth c T locs cells slots) (hx : p.tables.exec = Jvm.exec) {o : Int} {x y : Int32} {pcT : Nat} (hd : decode c.code pc = .ok (.if_icmp .ne o, 3)) (ho : 0 ≤ (pc : Int) + o) (hT : ((pc : Int) + o).toNat = pcT) (hp : pc' = pc + 3)
    (kt : ¬ x.toInt = y.toInt → Go p.tables e below P T (mkF m pcT Ls (S))) (kf : x.toInt = y.toInt → Go p.tables e below P T (mkF m pc' Ls (S))) : Go p.tables e below P T (mkF m pc Ls (.int y :: .int x :: S)) := by
  subst hp
  by_cases q : ¬ x.toInt = y.toInt
  · exact Go.st (fun t r => XS.icmpYes X.here hx rfl rfl hd rfl (by rw [h_ne]; exact decide_eq_true q) ho hT r) (kt q)
  · exact Go.st (fun t r => XS.icmpNo X.here hx rfl hd rfl (by rw [h_ne]; exact decide_eq_false q) r) (kf (by omega))
theorem if_ne (X : Stand p l e R s m args below meth c T locs cells slots) (hx : p.tables.exec = Jvm.exec) {o : Int} {x : Int32} {pcT : Nat} (hd : decode c.code pc = .ok (.ifCond .ne o, 3)) (ho : 0 ≤ (pc : Int) + o) (hT : ((pc : Int) + o).toNat = pcT) (hp : pc' = pc + 3)
    (kt : ¬ x.toInt = 0 → Go p.tables e below P T (mkF m pcT Ls (S))) (kf : x.toInt = 0 → Go p.tables e below P T (mkF m pc' Ls (S))) : Go p.tables e below P T (mkF m pc Ls (.int x :: S)) := by
  subst hp
  by_cases q : ¬ x.toInt = 0
  · exact Go.st (fun t r => XS.ifYes X.here hx rfl rfl hd rfl (by rw [z_any, h_ne, z0]; exact decide_eq_true q) ho hT r) (kt q)
  · exact Go.st (fun t r => XS.ifNo X.here hx rfl hd rfl (by rw [z_any, h_ne, z0]; exact decide_eq_false q) r) (kf (by omega))
theorem acmp_ne (X : Stand p l e R s m args below meth c T locs cells slots) (hx : p.tables.exec = Jvm.exec) {o : Int} {x y : Value} {pcT : Nat} (hd : decode c.code pc = .ok (.if_acmp .ne o, 3)) (h1 : x.isRef = true) (h2 : y.isRef = true) (ho : 0 ≤ (pc : Int) + o) (hT : ((pc : Int) + o).toNat = pcT) (hp : pc' = pc + 3)
    (kt : ¬ x = y → Go p.tables e below P T (mkF m pcT Ls (S))) (kf : x = y → Go p.tables e below P T (mkF m pc' Ls (S))) : Go p.tables e below P T (mkF m pc Ls (y :: x :: S)) := by
  subst hp
  by_cases q : ¬ x = y
  · exact Go.st (fun t r => XT.acmpYes X.here hx rfl rfl hd rfl h1 h2 (XT.aa_ne_t q) ho hT r) (kt q)
  · exact Go.st (fun t r => XT.acmpNo X.here hx rfl hd rfl h1 h2 (XT.aa_ne_f (Classical.not_not.mp q)) r) (kf (Classical.not_not.mp q))
theorem getS_ (X : Stand p l e R s m args below meth c T locs cells slots) (hx : p.tables.exec = Jvm.exec) (hZ : Z.Warmed39 s.vm) {own : String} (hown : s.vm.findClass own = some m.cls) {R0 O n d host : String} {i : Nat} (w : (Cond.fieldLink own i R0 n d).before a0 Z = true ∨ (Cond.fieldLinkNest own i R0 n d host).before a0 Z = true) (via : Via Z R0 O n d) (eT : T.heap = h) {v : Value} (F : Sta Z h O n d v) (hd : decode c.code pc = .ok (.getstatic i, 3)) (hp : pc' = pc + 3)
    (k : ∀ T', Stand p l e R s m args below meth c T' locs cells slots → T'.heap = h → Go p.tables e below P T' (mkF m pc' Ls (v :: S))) : Go p.tables e below P T (mkF m pc Ls (S)) := by
  subst hp
  obtain ⟨T', X', e', st⟩ := getS2 X hx hZ hown w via eT F (g := mkF m pc Ls S) rfl hd
  exact Go.st st (k T' X' e')
theorem putF_ (X : Stand p l e R s m args below meth c T locs cells slots) (hx : p.tables.exec = Jvm.exec) (hZ : Z.Warmed39 s.vm) {own : String} (hown : s.vm.findClass own = some m.cls) {R0 O n d C : String} {i kk : Nat} {ty : FieldType} (w : (Cond.fieldLink own i R0 n d).before a0 Z = true) (via : Via Z R0 O n d) (eT : T.heap = h) {a : Addr} {v v' old : Value} (F : Fld Z h a O n d old) (E : Exa Z h a C) (L : (Cond.lays C O n d).before a0 Z = true ∨ ((Cond.laysFinal C O n d).before a0 Z = true ∧ own = O ∧ meth.name = "<init>")) (wi : (Cond.instantiable C kk).before a0 Z = true) (hty : parseFieldDescriptor d = some ty) (hn : narrow ty v = v') (hf : fits ty v' = true) (hd : decode c.code pc = .ok (.putfield i, 3)) (hp : pc' = pc + 3)
    (k : ∀ T' h', Stand p l e R s m args below meth c T' (locs ++ [⟨a, Jvm.RoadKit.slotOf Z O n d⟩]) cells slots → T'.heap = h' → Wr h h' a (Jvm.RoadKit.slotOf Z O n d) v' → Go p.tables e below P T' (mkF m pc' Ls (S))) : Go p.tables e below P T (mkF m pc Ls (v :: .ref a :: S)) := by
  subst hp
  obtain ⟨T', h', X', e', W', st⟩ := putFN X hx hZ hown w via eT F E L wi hty hn hf (g := mkF m pc Ls (v :: .ref a :: S)) rfl rfl hd
  exact Go.st st (k T' h' X' e' W')
theorem new_ (X : Stand p l e R s m args below meth c T locs cells slots) (hx : p.tables.exec = Jvm.exec) (hZ : Z.Warmed39 s.vm) {own : String} (hown : s.vm.findClass own = some m.cls) {C : String} {i n : Nat} (w : (Cond.classLink own i C).before a0 Z = true) (wi : (Cond.instantiable C n).before a0 Z = true) (wz : (Cond.initialized C).before a0 Z = true) (eT : T.heap = h) (hd : decode c.code pc = .ok (.new i, 3)) (hp : pc' = pc + 3) (hc : cells + 1 ≤ R.cells) (hl : slots + n ≤ R.slots)
    (k : ∀ T' h' a, Stand p l e R s m args below meth c T' locs (cells + 1) (slots + n) → T'.heap = h' → a = h.size → Ext h h' → Exa Z h' a C → (∀ {O nm d : String} {ty : FieldType}, Laid Z a0 C O nm d → parseFieldDescriptor d = some ty → Fld Z h' a O nm d (defaultValue ty)) → Go p.tables e below P T' (mkF m pc' Ls (.ref a :: S))) : Go p.tables e below P T (mkF m pc Ls (S)) := by
  subst hp
  obtain ⟨T', h', X', e', E', A', D', -, st⟩ := newO X hx hZ hown w wi wz eT (g := mkF m pc Ls S) rfl hd hc hl
  exact Go.st st (k T' h' _ X' e' rfl E' A' D')
theorem jin {j z : Int32} (h0 : 0 ≤ j.toInt) (h1 : j.toInt < z.toInt) : ¬ j < 0 ∧ j < z := ⟨fun q => by have := Int32.lt_iff_toInt_lt.mp q; rw [z0] at this; omega, Int32.lt_iff_toInt_lt.mpr h1⟩
theorem jnat {j : Int32} {i : Nat} (h : j.toInt = i) : j.toNatClampNeg = i := by
  have q : ¬ j < 0 := fun q => by have := Int32.lt_iff_toInt_lt.mp q; rw [z0] at this; omega
  have := nat_of q; omega
theorem newP_ (X : Stand p l e R s m args below meth c T locs cells slots) (hx : p.tables.exec = Jvm.exec) (hZ : Z.Warmed39 s.vm) {aty : ArrayType} (w : (Cond.arrayClass (newarray.typeOf aty)).before a0 Z = true) (eT : T.heap = h) (hd : decode c.code pc = .ok (.newarray aty, 2)) (hp : pc' = pc + 2) {n : Int32} (hn : 0 ≤ n.toInt) {cap : Nat} (hcap : n.toInt ≤ cap) (hb : cap * 8 ≤ 536870912) (hc : cells + 1 ≤ R.cells) (hl : slots + cap ≤ R.slots) {ad : String} (had : "[" ++ (newarray.typeOf aty).toString = ad)
    (k : ∀ T' h' a cA, Stand p l e R s m args below meth c T' locs (cells + 1) (slots + cap) → T'.heap = h' → a = h.size → Ext h h' → Arv Z h' a cA (newarray.typeOf aty) n [] (defaultValue (newarray.typeOf aty)) → Exa Z h' a ad → Go p.tables e below P T' (mkF m pc' Ls (.ref a :: S))) : Go p.tables e below P T (mkF m pc Ls (.int n :: S)) := by
  subst hp
  have hn' : ¬ n < 0 := fun z => by have := Int32.lt_iff_toInt_lt.mp z; rw [z0] at this; omega
  obtain ⟨T', h', cA, X', e', E', A', Q', st⟩ := newPE X hx hZ w eT (g := mkF m pc Ls (.int n :: S)) rfl hd rfl hn' (cap := cap) (by have := nat_of hn'; omega) hb hc hl had
  exact Go.st st (k T' h' _ cA X' e' rfl E' (Arv.new A' hn') Q')
theorem newR_ (X : Stand p l e R s m args below meth c T locs cells slots) (hx : p.tables.exec = Jvm.exec) (hZ : Z.Warmed39 s.vm) {own : String} (hown : s.vm.findClass own = some m.cls) {C : String} {i : Nat} (w1 : (Cond.classLink own i C).before a0 Z = true) (w2 : (Cond.arrayOver (.object C)).before a0 Z = true) (eT : T.heap = h) (hd : decode c.code pc = .ok (.anewarray i, 3)) (hp : pc' = pc + 3) {n : Int32} (hn : 0 ≤ n.toInt) {cap : Nat} (hcap : n.toInt ≤ cap) (hb : cap * 8 ≤ 536870912) (hc : cells + 1 ≤ R.cells) (hl : slots + cap ≤ R.slots) {ad : String} (had : "[" ++ (FieldType.object C).toString = ad)
    (k : ∀ T' h' a cA, Stand p l e R s m args below meth c T' locs (cells + 1) (slots + cap) → T'.heap = h' → a = h.size → Ext h h' → Arv Z h' a cA (.object C) n [] .null → Exa Z h' a ad → Ovr Z cA C → Go p.tables e below P T' (mkF m pc' Ls (.ref a :: S))) : Go p.tables e below P T (mkF m pc Ls (.int n :: S)) := by
  subst hp
  have hn' : ¬ n < 0 := fun z => by have := Int32.lt_iff_toInt_lt.mp z; rw [z0] at this; omega
  obtain ⟨T', h', cA, X', e', E', A', Q', O', st⟩ := newRE X hx hZ hown w1 w2 eT (g := mkF m pc Ls (.int n :: S)) rfl hd rfl hn' (cap := cap) (by have := nat_of hn'; omega) hb hc hl had
  exact Go.st st (k T' h' _ cA X' e' rfl E' (Arv.new A' hn') Q' O')
theorem arraycopy_ (X : Stand p l e R s m args below meth c T locs cells slots) (hx : p.tables.exec = Jvm.exec) (hZ : Z.Warmed39 s.vm) {own : String} (hown : s.vm.findClass own = some m.cls) {i : Nat} (w1 : (Cond.methodLink own i Jvm.Stand.acN).before a0 Z = true) (w2 : (Cond.native Jvm.Stand.acN).before a0 Z = true) (w3 : (Cond.static Jvm.Stand.acN).before a0 Z = true) (w4 : (Cond.initialized "java/lang/System").before a0 Z = true) (eT : T.heap = h) {a b : Addr} {k k' : ClassId} {ty ty' : FieldType} {z z' sp dp nn : Int32} {vs vd us : List Value} {dv dd : Value} (A : Arv Z h a k ty z vs dv) (B : Arv Z h b k' ty' z' vd dd) (hty : (ty = ty' ∧ refKind ty = false) ∨ (refKind ty = true ∧ refKind ty' = true ∧ StoL Z h b us)) {x y n : Nat} (hx' : sp.toInt = x) (hy' : dp.toInt = y) (hn' : nn.toInt = n) (h4 : (x : Int) + n ≤ z.toInt) (h5 : (y : Int) + n ≤ z'.toInt) (hus : us = (List.range n).map fun i => vs.getD (x + i) dv) (hl : y + n ≤ vd.length) {n0 : Nat} (N : Fr n0 locs) (ge : n0 ≤ b) (hsize : Ls.size = c.maxLocals) (hd : decode c.code pc = .ok (.invokestatic i, 3)) (hp : pc' = pc + 3) (hf : 1 ≤ R.frames) {W : Nat} (hW : (S.map fun v => v.category).sum ≤ W) (hlo : W + (nativeFrameWords "java/lang/System" "arraycopy" 5 + 11) ≤ R.locals)
    (kk : ∀ T' h' L, Stand p l e R s m args below meth c T' L cells slots → T'.heap = h' → Fr n0 L → Keep h h' [b] → Arv Z h' b k' ty' z' (vd.take y ++ us ++ vd.drop (y + n)) dd → Go p.tables e below P T' (mkF m pc' Ls (S))) : Go p.tables e below P T (mkF m pc Ls (.int nn :: .int dp :: .ref b :: .int sp :: .ref a :: S)) := by
  subst hp
  have e1 := jnat hx'; have e2 := jnat hy'; have e3 := jnat hn'
  have n1 : ¬ sp < 0 := fun q => by have := Int32.lt_iff_toInt_lt.mp q; rw [z0] at this; omega
  have n2 : ¬ dp < 0 := fun q => by have := Int32.lt_iff_toInt_lt.mp q; rw [z0] at this; omega
  have n3 : ¬ nn < 0 := fun q => by have := Int32.lt_iff_toInt_lt.mp q; rw [z0] at this; omega
  have m1 : x + n ≤ z.toNatClampNeg := by obtain ⟨_, _, _, _, q, _⟩ := A; have := nat_of q; omega
  have m2 : y + n ≤ z'.toNatClampNeg := by obtain ⟨_, _, _, _, q, _⟩ := B; have := nat_of q; omega
  obtain ⟨T', h', L, X', e', N', K', B', st⟩ := cpA X hx hZ hown w1 w2 w3 w4 eT A B hty n1 n2 n3 (by rw [e1, e3]; exact m1) (by rw [e2, e3]; exact m2) (us := us) (by rw [hus, e1, e3]) (by rw [e2, e3]; exact hl) N ge (g := mkF m pc Ls (.int nn :: .int dp :: .ref b :: .int sp :: .ref a :: S)) rfl hsize rfl hd hf (W := W) (by show 2 * 0 + _ ≤ _; simpa using hW) hlo
  rw [e2, e3] at B'
  exact Go.st st (kk T' h' L X' e' N' K' B')
theorem instNo_ (X : Stand p l e R s m args below meth c T locs cells slots) (hx : p.tables.exec = Jvm.exec) (hZ : Z.Warmed39 s.vm) {own : String} (hown : s.vm.findClass own = some m.cls) {C K : String} {i : Nat} (w : (Cond.classLink own i K).before a0 Z = true) (eT : T.heap = h) {a : Addr} (E : Exa Z h a C) (F : ∃ c t, Z.vm.findClass C = some c ∧ Z.vm.findClass K = some t ∧ Z.vm.assignable c t = false) (hd : decode c.code pc = .ok (.instanceof i, 3)) (hp : pc' = pc + 3)
    (k : ∀ T', Stand p l e R s m args below meth c T' locs cells slots → T'.heap = h → Go p.tables e below P T' (mkF m pc' Ls (.int 0 :: S))) : Go p.tables e below P T (mkF m pc Ls (.ref a :: S)) := by
  subst hp
  obtain ⟨T', X', e', st⟩ := instNo X hx hZ hown w eT E F (g := mkF m pc Ls (.ref a :: S)) rfl rfl hd
  exact Go.st st (k T' X' e')
theorem iaload (X : Stand p l e R s m args below meth c T locs cells slots) (hx : p.tables.exec = Jvm.exec) (hZ : Z.Warmed39 s.vm) (eT : T.heap = h) {a : Addr} {kA : ClassId} {z j : Int32} {vs : List Value} {dv v : Value} (A : Arv Z h a kA .int z vs dv) (h0 : 0 ≤ j.toInt) (h1 : j.toInt < z.toInt) (hv : vs.getD j.toNatClampNeg dv = v) (hd : decode c.code pc = .ok (.iaload, 1)) (hp : pc' = pc + 1)
    (k : Go p.tables e below P T (mkF m pc' Ls (v :: S))) : Go p.tables e below P T (mkF m pc Ls (.int j :: .ref a :: S)) := by
  subst hp
  obtain ⟨cl, Ar, -, Sz, Nz, H, -⟩ := A
  have hin := inb_of Sz (jin h0 h1)
  exact Go.st (fun t q => X.iaload hx (j := j) (v := v) (by rw [eT]; exact Ar.1) (State.isArrayOf_alike hZ.alike Ar.2.1) Ar.2.2 hin (H.at hin hv) (g := mkF m pc Ls (.int j :: .ref a :: S)) rfl rfl hd t q) k
theorem aaload (X : Stand p l e R s m args below meth c T locs cells slots) (hx : p.tables.exec = Jvm.exec) (hZ : Z.Warmed39 s.vm) (eT : T.heap = h) {a : Addr} {kA : ClassId} {ty : FieldType} {z j : Int32} {vs : List Value} {dv v : Value} (A : Arv Z h a kA ty z vs dv) (hty : ty.isReference = true) (h0 : 0 ≤ j.toInt) (h1 : j.toInt < z.toInt) (hv : vs.getD j.toNatClampNeg dv = v) (hd : decode c.code pc = .ok (.aaload, 1)) (hp : pc' = pc + 1)
    (k : Go p.tables e below P T (mkF m pc' Ls (v :: S))) : Go p.tables e below P T (mkF m pc Ls (.int j :: .ref a :: S)) := by
  subst hp
  obtain ⟨cl, Ar, -, Sz, Nz, H, -⟩ := A
  have hin := inb_of Sz (jin h0 h1)
  exact Go.st (fun t q => X.aaload hx (j := j) (v := v) (by rw [eT]; exact Ar.1) (State.isArrayOf_alike hZ.alike Ar.2.1) hty Ar.2.2 hin (H.at hin hv) (g := mkF m pc Ls (.int j :: .ref a :: S)) rfl rfl hd t q) k
theorem iastore (X : Stand p l e R s m args below meth c T locs cells slots) (hx : p.tables.exec = Jvm.exec) (hZ : Z.Warmed39 s.vm) (eT : T.heap = h) {a : Addr} {kA : ClassId} {z j : Int32} {x : Int32} {vs : List Value} {dv : Value} (A : Arv Z h a kA .int z vs dv) {i : Nat} (hi : j.toInt = i) (hz : (i : Int) < z.toInt) (hl : i < vs.length) (hd : decode c.code pc = .ok (.iastore, 1)) (hp : pc' = pc + 1)
    (k : ∀ T' h', Stand p l e R s m args below meth c T' (locs ++ [⟨a, j.toNatClampNeg⟩]) cells slots → T'.heap = h' → Wr h h' a j.toNatClampNeg (.int x) → Arv Z h' a kA .int z (vs.set i (.int x)) dv → Go p.tables e below P T' (mkF m pc' Ls (S))) : Go p.tables e below P T (mkF m pc Ls (.int x :: .int j :: .ref a :: S)) := by
  subst hp
  obtain ⟨cl, Ar, q1, Sz, Nz, H, G⟩ := A
  have hin := inb_of Sz (jin (j := j) (z := z) (by omega) (by omega))
  obtain ⟨T', h', X', e', W', st⟩ := stI X hx hZ eT Ar (j := j) hin (g := mkF m pc Ls (.int x :: .int j :: .ref a :: S)) rfl rfl hd
  exact Go.st st (k T' h' X' e' W' (Arv.set Ar q1 Sz Nz H G rfl W' i (jnat hi) hl))
theorem aastore (X : Stand p l e R s m args below meth c T locs cells slots) (hx : p.tables.exec = Jvm.exec) (hZ : Z.Warmed39 s.vm) (eT : T.heap = h) {a : Addr} {kA : ClassId} {ty : FieldType} {z j : Int32} {v : Value} {vs : List Value} {dv : Value} (A : Arv Z h a kA ty z vs dv) (hty : ty.isReference = true) (hfv : fits ty v = true) (F : Sto Z h a v) {i : Nat} (hi : j.toInt = i) (hz : (i : Int) < z.toInt) (hl : i < vs.length) (hd : decode c.code pc = .ok (.aastore, 1)) (hp : pc' = pc + 1)
    (k : ∀ T' h', Stand p l e R s m args below meth c T' (locs ++ [⟨a, j.toNatClampNeg⟩]) cells slots → T'.heap = h' → Wr h h' a j.toNatClampNeg v → Arv Z h' a kA ty z (vs.set i v) dv → Go p.tables e below P T' (mkF m pc' Ls (S))) : Go p.tables e below P T (mkF m pc Ls (v :: .int j :: .ref a :: S)) := by
  subst hp
  obtain ⟨cl, Ar, q1, Sz, Nz, H, G⟩ := A
  have hin := inb_of Sz (jin (j := j) (z := z) (by omega) (by omega))
  obtain ⟨T', h', X', e', W', st⟩ := stR X hx hZ eT Ar (j := j) hin hty F (g := mkF m pc Ls (v :: .int j :: .ref a :: S)) rfl rfl hd
  exact Go.st st (k T' h' X' e' W' (Arv.set Ar q1 Sz Nz H G hfv W' i (jnat hi) hl))
theorem stoOf {a y : Addr} {kA : ClassId} {ty : FieldType} {z : Int32} {vs : List Value} {dv : Value} {C : String} (A : Arv Z h a kA ty z vs dv) (O : Ovr Z kA C) (I : Ins Z h y C true) : Sto Z h a (.ref y) := by
  obtain ⟨c, Ar, q, _⟩ := A; exact Sto.ofV Ar q O I
theorem cast_ (X : Stand p l e R s m args below meth c T locs cells slots) (hx : p.tables.exec = Jvm.exec) (hZ : Z.Warmed39 s.vm) {own : String} (hown : s.vm.findClass own = some m.cls) {K : String} {i : Nat} (w : (Cond.classLink own i K).before a0 Z = true) (eT : T.heap = h) {a : Addr} (F : Ins Z h a K true) (hd : decode c.code pc = .ok (.checkcast i, 3)) (hp : pc' = pc + 3)
    (k : ∀ T', Stand p l e R s m args below meth c T' locs cells slots → T'.heap = h → Go p.tables e below P T' (mkF m pc' Ls (.ref a :: S))) : Go p.tables e below P T (mkF m pc Ls (.ref a :: S)) := by
  subst hp
  obtain ⟨T', X', e', st⟩ := castY X hx hZ hown w eT F (g := mkF m pc Ls (.ref a :: S)) rfl rfl hd
  exact Go.st st (k T' X' e')
theorem instYes (X : Stand p l e R s m args below meth c T locs cells slots) (hx : p.tables.exec = Jvm.exec) (hZ : Z.Warmed39 s.vm) {own : String} (hown : s.vm.findClass own = some m.cls) {K : String} {i : Nat} (w : (Cond.classLink own i K).before a0 Z = true) (eT : T.heap = h) {a : Addr} (F : Ins Z h a K true) (hd : decode c.code pc = .ok (.instanceof i, 3)) (hp : pc' = pc + 3)
    (k : ∀ T', Stand p l e R s m args below meth c T' locs cells slots → T'.heap = h → Go p.tables e below P T' (mkF m pc' Ls (.int 1 :: S))) : Go p.tables e below P T (mkF m pc Ls (.ref a :: S)) := by
  subst hp
  obtain ⟨T', X', e', st⟩ := instY X hx hZ hown w eT F (g := mkF m pc Ls (.ref a :: S)) rfl rfl hd
  exact Go.st st (k T' X' e')
theorem initO_ (X : Stand p l e R s m args below meth c T locs cells slots) (hx : p.tables.exec = Jvm.exec) (hZ : Z.Warmed39 s.vm) {own : String} (hown : s.vm.findClass own = some m.cls) {i : Nat} (w1 : (Cond.methodLink own i Lib.objectInit).before a0 Z = true) (w2 : (Cond.instanceMethod Lib.objectInit).before a0 Z = true) (w3 : (Cond.code Lib.objectInit ⟨#[0xb1]⟩ 1 none).before a0 Z = true) (eT : T.heap = h) (hsize : Ls.size = c.maxLocals) {a : Addr} (hd : decode c.code pc = .ok (.invokespecial i, 3)) (hp : pc' = pc + 3) (hf : 1 ≤ R.frames) {W : Nat} (hW : (S.map fun v => v.category).sum ≤ W) (hl : W + 12 ≤ R.locals)
    (k : ∀ T', Stand p l e R s m args below meth c T' locs cells slots → T'.heap = h → Go p.tables e below P T' (mkF m pc' Ls (S))) : Go p.tables e below P T (mkF m pc Ls (.ref a :: S)) := by
  subst hp
  obtain ⟨T', X', e', st⟩ := initO X hx hZ hown w1 w2 w3 eT (g := mkF m pc Ls (.ref a :: S)) rfl hsize rfl hd hf (W := W) (by show 2 * 0 + _ ≤ _; simpa using hW) hl
  exact Go.st st (k T' X' e')
theorem callS_ (X : Stand p l e R s m args below meth c T locs cells slots) (hx : p.tables.exec = Jvm.exec) (hZ : Z.Warmed39 s.vm) {own : String} (hown : s.vm.findClass own = some m.cls) {y : MethodName} {i : Nat} {bytes : ByteArray} {maxL : Nat} {ret : Option FieldType} {rm : Room} {Q : Option Value → Heap → List Loc → Prop} {argsL S0 : List Value} (w1 : (Cond.methodLink own i y).before a0 Z = true) (w2 : (Cond.static y).before a0 Z = true) (w3 : (Cond.initialized y.cls).before a0 Z = true) (w4 : (Cond.code y bytes maxL ret).before a0 Z = true) (hy : y.cls ≠ "java/lang/invoke/MethodHandle" ∧ y.cls ≠ "java/lang/invoke/VarHandle") (hM : MetFree l y (head1 [Cond.code y bytes maxL ret] rm) (fun ar U => ar = argsL.toArray ∧ Z.Warmed39 U.vm ∧ U.heap = h) (fun _ _ _ _ _ => True) (fun _ U o U' => ∃ v L, o = .returned v ∧ Q v U'.heap L ∧ FrameEnd U o U' L rm.cells rm.slots)) (hf : rm.frames + 1 ≤ R.frames) {W : Nat} (hl : W + (maxL + 11) + rm.locals ≤ R.locals) (eT : T.heap = h) (hsize : Ls.size = c.maxLocals) {ps : List FieldType} {rt : Option FieldType} (hdesc : parseMethodDescriptor y.desc = some ⟨ps, rt⟩) (hlen : argsL.length = ps.length) (hS : S0 = argsL.reverse ++ S) (hW : (S.map fun v => v.category).sum ≤ W) (hd : decode c.code pc = .ok (.invokestatic i, 3)) (hp : pc' = pc + 3) (hc : cells + rm.cells ≤ R.cells) (hs : slots + rm.slots ≤ R.slots)
    (k : ∀ T' v L, Stand p l e R s m args below meth c T' (locs ++ L) (cells + rm.cells) (slots + rm.slots) → Q v T'.heap L → Go p.tables e below P T' (mkF m pc' Ls (v.toList ++ S))) : Go p.tables e below P T (mkF m pc Ls (S0)) := by
  subst hp hS
  obtain ⟨v, vm₁, ⟨T', L', k', n'⟩, -, X', ⟨L, hQ, l', y', z'⟩, st⟩ := Jvm.LawKit.callS X hx hown (mvT hZ w1) (mvT hZ w2) (mvT hZ w3) (mvT hZ w4) hy (backOf (W := W) hM hZ w4 w3 hf hl) (g := mkF m pc Ls (argsL.reverse ++ S)) rfl hsize (argsL := argsL) (rest := S) (lenOf hdesc hlen) rfl (by show 2 * 0 + _ ≤ _; simpa using hW) hd (fun _ _ => ⟨rfl, eT, hc, hs⟩)
  dsimp only [Pt.U, Pt.locs, Pt.cells, Pt.slots] at X' l' y' z' st hQ
  subst l' y' z'
  exact Go.st st (k T' v L X' hQ)
theorem callI_ (X : Stand p l e R s m args below meth c T locs cells slots) (hx : p.tables.exec = Jvm.exec) (hZ : Z.Warmed39 s.vm) {own : String} (hown : s.vm.findClass own = some m.cls) {y : MethodName} {i : Nat} {a : Addr} {bytes : ByteArray} {maxL : Nat} {ret : Option FieldType} {rm : Room} {Q : Option Value → Heap → List Loc → Prop} {argsL S0 : List Value} (hy1 : y.name = "<init>") (w1 : (Cond.methodLink own i y).before a0 Z = true) (w2 : (Cond.instanceMethod y).before a0 Z = true) (w3 : (Cond.initialized y.cls).before a0 Z = true) (w4 : (Cond.code y bytes maxL none).before a0 Z = true) (hret : ret = none) (hy : y.cls ≠ "java/lang/invoke/MethodHandle" ∧ y.cls ≠ "java/lang/invoke/VarHandle") (hM : MetFree l y (head1 [Cond.code y bytes maxL ret] rm) (fun ar U => ar = (.ref a :: argsL).toArray ∧ Z.Warmed39 U.vm ∧ U.heap = h) (fun _ _ _ _ _ => True) (fun _ U o U' => ∃ v L, o = .returned v ∧ Q v U'.heap L ∧ FrameEnd U o U' L rm.cells rm.slots)) (hf : rm.frames + 1 ≤ R.frames) {W : Nat} (hl : W + (maxL + 11) + rm.locals ≤ R.locals) (eT : T.heap = h) (hsize : Ls.size = c.maxLocals) {ps : List FieldType} {rt : Option FieldType} (hdesc : parseMethodDescriptor y.desc = some ⟨ps, rt⟩) (hlen : argsL.length = ps.length) (hS : S0 = argsL.reverse ++ .ref a :: S) (hW : (S.map fun v => v.category).sum ≤ W) (hd : decode c.code pc = .ok (.invokespecial i, 3)) (hp : pc' = pc + 3) (hc : cells + rm.cells ≤ R.cells) (hs : slots + rm.slots ≤ R.slots)
    (k : ∀ T' v L, Stand p l e R s m args below meth c T' (locs ++ L) (cells + rm.cells) (slots + rm.slots) → Q v T'.heap L → Go p.tables e below P T' (mkF m pc' Ls (v.toList ++ S))) : Go p.tables e below P T (mkF m pc Ls (S0)) := by
  subst hp hS hret
  obtain ⟨v, vm₁, ⟨T', L', k', n'⟩, -, X', ⟨L, hQ, l', y', z'⟩, st⟩ := X.specialBack hx hy1 hown (mvT hZ w1) (mvT hZ w2) (mvT hZ w4) hy (backOf (W := W) hM hZ w4 w3 hf hl) (g := mkF m pc Ls (argsL.reverse ++ .ref a :: S)) rfl hsize (Steps.refl _) (a := a) (argsL := argsL) (rest := S) (lenOf hdesc hlen) rfl (by show 2 * 0 + _ ≤ _; simpa using hW) hd (fun _ _ => ⟨rfl, eT, hc, hs⟩)
  dsimp only [Pt.U, Pt.locs, Pt.cells, Pt.slots] at X' l' y' z' st hQ
  subst l' y' z'
  exact Go.st1 st (k T' v L X' hQ)
theorem met {y : MethodName} {bytes : ByteArray} {maxL : Nat} {ret : Option FieldType} {rm : Room} {as' : Array Value} {Q : Option Value → Heap → List Loc → Prop} {ws : List Jvm.Cond} {C N : Nat} (hpl : plainFor y = true) (ef : ∀ m, entryFrame m as' maxL = mkF m 0 Ls [])
    (body : ∀ (p : Program) (e : Env) (s : State) (m : MethodId) (below : List Frame) (meth : Method) (c : Code) (T : State), Stand p l e rm s m as' below meth c T [] 0 0 → p.tables.exec = Jvm.exec → Z.Warmed39 s.vm → c.code = bytes → c.maxLocals = maxL → s.vm.findClass y.cls = some m.cls → meth.name = y.name → meth.sig.returnType = ret → meth.locks = false → T.heap = h →
      Go p.tables e below (PQ s Q C N) T (mkF m 0 Ls [])) :
    MetFree l y (head1 (Cond.code y bytes maxL ret :: ws) rm) (fun a U => a = as' ∧ Z.Warmed39 U.vm ∧ U.heap = h) (fun _ _ _ _ _ => True) (fun _ U o U' => ∃ v L, o = .returned v ∧ Q v U'.heap L ∧ FrameEnd U o U' L C N) := by
  refine MetFree.of_bodySF hpl hisR ?_
  intro p e s m args below meth c s₁ Bd hml0 hP hK
  obtain ⟨rfl, hZ, hh⟩ := hP
  have e0 : s₁.heap = h := by rw [← hh, Bd.state]; rfl
  obtain ⟨s₂, o, h1, h2⟩ := body p e s m below meth c s₁ (Stand.of_body Bd) Bd.exec hZ Bd.bytes hml0 (findClass_of_methodNamed Bd.named) (name_of_methodNamed Bd.named Bd.method).1 Bd.returns Bd.notSynchronized e0
  exact ⟨s₂, o, castTop (ef m) h1, h2⟩
theorem ret_ (X : Stand p l e R s m args below meth c T locs cells slots) (hx : p.tables.exec = Jvm.exec) {Q : Option Value → Heap → List Loc → Prop} {C N : Nat} {w : Value} {t : FieldType} {i : Instr} (hret : meth.sig.returnType = some t) (hlk : meth.locks = false) (hn : narrow t w = w)
    (hi : (i = .ireturn ∧ (t = .int ∨ t = .boolean ∨ t = .byte ∨ t = .char ∨ t = .short) ∧ ∃ z, w = .int z) ∨ (i = .lreturn ∧ t = .long ∧ ∃ z, w = .long z) ∨ (i = .dreturn ∧ t = .double ∧ ∃ z, w = .double z) ∨ (i = .freturn ∧ t = .float ∧ ∃ z, w = .float z) ∨ (i = .areturn ∧ t.isReference = true ∧ w.isRef = true))
    (hd : decode c.code pc = .ok (i, 1)) (hC : cells ≤ C) (hN : slots ≤ N) (q : Q (some w) T.heap locs) : Go p.tables e below (PQ s Q C N) T (mkF m pc Ls (w :: S)) := by
  obtain ⟨fs, hr, hrun, hended, hW, hsame⟩ := X.leave (v := some w) (fun h => by rw [hret] at h; cases h) hlk
  exact ⟨_, _, retOut X hx hret hn hi hd hr, hrun, hended, _, _, rfl, q, ⟨_, rfl⟩, hW, hsame.mono hC hN⟩
theorem retI_ (X : Stand p l e R s m args below meth c T locs cells slots) (hx : p.tables.exec = Jvm.exec) {Q : Option Value → Heap → List Loc → Prop} {C N : Nat} {z : Int32} (hret : meth.sig.returnType = some .int) (hlk : meth.locks = false) (hd : decode c.code pc = .ok (.ireturn, 1)) (hC : cells ≤ C) (hN : slots ≤ N) (q : Q (some (.int z)) T.heap locs) : Go p.tables e below (PQ s Q C N) T (mkF m pc Ls (.int z :: S)) :=
  ret_ X hx hret hlk rfl (Or.inl ⟨rfl, Or.inl rfl, z, rfl⟩) hd hC hN q
theorem retA_ (X : Stand p l e R s m args below meth c T locs cells slots) (hx : p.tables.exec = Jvm.exec) {Q : Option Value → Heap → List Loc → Prop} {C N : Nat} {w : Value} {t : FieldType} (hret : meth.sig.returnType = some t) (ht : t.isReference = true) (hw : w.isRef = true) (hlk : meth.locks = false) (hd : decode c.code pc = .ok (.areturn, 1)) (hC : cells ≤ C) (hN : slots ≤ N) (q : Q (some w) T.heap locs) : Go p.tables e below (PQ s Q C N) T (mkF m pc Ls (w :: S)) :=
  ret_ X hx hret hlk (by cases t <;> first | (cases ht; done) | rfl) (Or.inr (Or.inr (Or.inr (Or.inr ⟨rfl, ht, hw⟩)))) hd hC hN q
theorem retN_ (X : Stand p l e R s m args below meth c T locs cells slots) (hx : p.tables.exec = Jvm.exec) {Q : Option Value → Heap → List Loc → Prop} {C N : Nat} {z : Int32} {t : FieldType} (hret : meth.sig.returnType = some t) (ht : t = .boolean ∨ t = .byte ∨ t = .char ∨ t = .short) (hlk : meth.locks = false) (hd : decode c.code pc = .ok (.ireturn, 1)) (hC : cells ≤ C) (hN : slots ≤ N) (q : Q (some (.int (nar t z))) T.heap locs) : Go p.tables e below (PQ s Q C N) T (mkF m pc Ls (.int z :: S)) := by
  obtain ⟨fs, hr, hrun, hended, hW, hsame⟩ := X.leave (v := some (.int (nar t z))) (fun h => by rw [hret] at h; cases h) hlk
  exact ⟨_, _, retN X hx hret ht hd hr, hrun, hended, _, _, rfl, q, ⟨_, rfl⟩, hW, hsame.mono hC hN⟩
theorem retV_ (X : Stand p l e R s m args below meth c T locs cells slots) (hx : p.tables.exec = Jvm.exec) {Q : Option Value → Heap → List Loc → Prop} {C N : Nat} (hret : meth.sig.returnType = none) (hlk : meth.locks = false) (hd : decode c.code pc = .ok (.return_, 1)) (hC : cells ≤ C) (hN : slots ≤ N) (q : Q none T.heap locs) : Go p.tables e below (PQ s Q C N) T (mkF m pc Ls []) := by
  obtain ⟨fs, hr, hrun, hended, hW, hsame⟩ := X.leave (v := none) (fun _ => rfl) hlk
  exact ⟨_, _, X.returnOut hx hret hd hr, hrun, hended, _, _, rfl, q, ⟨_, rfl⟩, hW, hsame.mono hC hN⟩
end Steps
end Jvm.OwnK
namespace Jvm.Pilot.@@N@@
open Jvm Jvm.ClassFile Sem Op Lib Jvm.Free Jvm.Stand Jvm.LawKit Jvm.RoadKit Bundle Jvm.Pilot.@@N@@.Jvm.D
theorem own_ef_1 (p1 : Int32) (p2 : Int32)  (m : MethodId) : entryFrame m #[(.int p1), (.int p2)] 2 = mkF m 0 #[.val (.int p1), .val (.int p2)] [] := by first | (simp [entryFrame, mkF, argsToLocals, Value.category]; done) | rfl
theorem own_d1_0 : decode jdk_29_method_69_code 0 = .ok (.iload_n 0, 1) := by decide +kernel
theorem own_d1_1 : decode jdk_29_method_69_code 1 = .ok (.iload_n 1, 1) := by decide +kernel
theorem own_d1_2 : decode jdk_29_method_69_code 2 = .ok (.if_icmp .gt 7, 3) := by decide +kernel
theorem own_d1_9 : decode jdk_29_method_69_code 9 = .ok (.iload_n 1, 1) := by decide +kernel
theorem own_d1_10 : decode jdk_29_method_69_code 10 = .ok (.ireturn, 1) := by decide +kernel
theorem own_d1_5 : decode jdk_29_method_69_code 5 = .ok (.iload_n 0, 1) := by decide +kernel
theorem own_d1_6 : decode jdk_29_method_69_code 6 = .ok (.goto 4, 3) := by decide +kernel
theorem own_pl_1 : plainFor (⟨"java/lang/Math", "min", "(II)I"⟩ : MethodName) = true := Jvm.Free.JP.mathPlain rfl (by decide +kernel)
theorem own_ef_10 (p1 : Addr)  (m : MethodId) : entryFrame m #[(.ref p1)] 1 = mkF m 0 #[.val (.ref p1)] [] := by first | (simp [entryFrame, mkF, argsToLocals, Value.category]; done) | rfl
theorem own_d10_0 : decode jdk_18_method_1_code 0 = .ok (.aload_n 0, 1) := by decide +kernel
theorem own_d10_1 : decode jdk_18_method_1_code 1 = .ok (.invokespecial 1, 3) := by decide +kernel
theorem own_d10_4 : decode jdk_18_method_1_code 4 = .ok (.return_, 1) := by decide +kernel
theorem own_pl_10 : plainFor (⟨"java/lang/Number", "<init>", "()V"⟩ : MethodName) = true := plainFor_of_name (by first | (simp [plainName, overriddenIn]; done) | decide +kernel)
theorem own_ef_9 (p1 : Addr) (p2 : Int32)  (m : MethodId) : entryFrame m #[(.ref p1), (.int p2)] 2 = mkF m 0 #[.val (.ref p1), .val (.int p2)] [] := by first | (simp [entryFrame, mkF, argsToLocals, Value.category]; done) | rfl
theorem own_d9_0 : decode jdk_33_method_23_code 0 = .ok (.aload_n 0, 1) := by decide +kernel
theorem own_d9_1 : decode jdk_33_method_23_code 1 = .ok (.invokespecial 202, 3) := by decide +kernel
theorem own_pd_0 : parseMethodDescriptor "()V" = some ⟨[], none⟩ := by decide +kernel
theorem own_d9_4 : decode jdk_33_method_23_code 4 = .ok (.aload_n 0, 1) := by decide +kernel
theorem own_d9_5 : decode jdk_33_method_23_code 5 = .ok (.iload_n 1, 1) := by decide +kernel
theorem own_d9_6 : decode jdk_33_method_23_code 6 = .ok (.putfield 205, 3) := by decide +kernel
theorem own_d9_9 : decode jdk_33_method_23_code 9 = .ok (.return_, 1) := by decide +kernel
theorem own_pl_9 : plainFor (⟨"java/lang/Integer", "<init>", "(I)V"⟩ : MethodName) = true := plainFor_of_name (by first | (simp [plainName, overriddenIn]; done) | decide +kernel)
theorem own_ef_6 (p1 : Int32)  (m : MethodId) : entryFrame m #[(.int p1)] 1 = mkF m 0 #[.val (.int p1)] [] := by first | (simp [entryFrame, mkF, argsToLocals, Value.category]; done) | rfl
theorem own_d6_0 : decode jdk_33_method_22_code 0 = .ok (.iload_n 0, 1) := by decide +kernel
theorem own_d6_1 : decode jdk_33_method_22_code 1 = .ok (.bipush (-128), 2) := by decide +kernel
theorem own_d6_3 : decode jdk_33_method_22_code 3 = .ok (.if_icmp .lt 20, 3) := by decide +kernel
theorem own_d6_23 : decode jdk_33_method_22_code 23 = .ok (.new 1, 3) := by decide +kernel
theorem own_d6_26 : decode jdk_33_method_22_code 26 = .ok (.dup, 1) := by decide +kernel
theorem own_d6_27 : decode jdk_33_method_22_code 27 = .ok (.iload_n 0, 1) := by decide +kernel
theorem own_d6_28 : decode jdk_33_method_22_code 28 = .ok (.invokespecial 199, 3) := by decide +kernel
theorem own_pd_2 : parseMethodDescriptor "(I)V" = some ⟨[.int], none⟩ := by decide +kernel
theorem own_d6_31 : decode jdk_33_method_22_code 31 = .ok (.areturn, 1) := by decide +kernel
theorem own_d6_6 : decode jdk_33_method_22_code 6 = .ok (.iload_n 0, 1) := by decide +kernel
theorem own_d6_7 : decode jdk_33_method_22_code 7 = .ok (.getstatic 191, 3) := by decide +kernel
theorem own_d6_10 : decode jdk_33_method_22_code 10 = .ok (.if_icmp .gt 13, 3) := by decide +kernel
theorem own_d6_13 : decode jdk_33_method_22_code 13 = .ok (.getstatic 195, 3) := by decide +kernel
theorem own_d6_16 : decode jdk_33_method_22_code 16 = .ok (.iload_n 0, 1) := by decide +kernel
theorem own_d6_17 : decode jdk_33_method_22_code 17 = .ok (.sipush 128, 3) := by decide +kernel
theorem own_d6_20 : decode jdk_33_method_22_code 20 = .ok (.iadd, 1) := by decide +kernel
theorem own_d6_21 : decode jdk_33_method_22_code 21 = .ok (.aaload, 1) := by decide +kernel
theorem own_d6_22 : decode jdk_33_method_22_code 22 = .ok (.areturn, 1) := by decide +kernel
theorem own_pl_6 : plainFor (⟨"java/lang/Integer", "valueOf", "(I)Ljava/lang/Integer;"⟩ : MethodName) = true := plainFor_of_name (by first | (simp [plainName, overriddenIn]; done) | decide +kernel)
theorem own_ef_4 (p1 : Int32) (p2 : Int32) (p3 : Int32)  (m : MethodId) : entryFrame m #[(.int p1), (.int p2), (.int p3)] 3 = mkF m 0 #[.val (.int p1), .val (.int p2), .val (.int p3)] [] := by first | (simp [entryFrame, mkF, argsToLocals, Value.category]; done) | rfl
theorem own_d4_0 : decode method_4_code 0 = .ok (.iload_n 0, 1) := by decide +kernel
theorem own_d4_1 : decode method_4_code 1 = .ok (.iload_n 1, 1) := by decide +kernel
theorem own_d4_2 : decode method_4_code 2 = .ok (.if_icmp .lt 14, 3) := by decide +kernel
theorem own_d4_16 : decode method_4_code 16 = .ok (.iconst 0, 1) := by decide +kernel
theorem own_d4_17 : decode method_4_code 17 = .ok (.ireturn, 1) := by decide +kernel
theorem own_d4_5 : decode method_4_code 5 = .ok (.iload_n 0, 1) := by decide +kernel
theorem own_d4_6 : decode method_4_code 6 = .ok (.iload_n 1, 1) := by decide +kernel
theorem own_d4_7 : decode method_4_code 7 = .ok (.iload_n 2, 1) := by decide +kernel
theorem own_d4_8 : decode method_4_code 8 = .ok (.iadd, 1) := by decide +kernel
theorem own_d4_9 : decode method_4_code 9 = .ok (.if_icmp .ge 7, 3) := by decide +kernel
theorem own_d4_12 : decode method_4_code 12 = .ok (.iconst 1, 1) := by decide +kernel
theorem own_d4_13 : decode method_4_code 13 = .ok (.goto 4, 3) := by decide +kernel
theorem own_pl_4 : plainFor (⟨"com/example/redbark/redbark/KeyArraysCopyPinLaw", "inRange", "(III)Z"⟩ : MethodName) = true := plainFor_of_name (by first | (simp [plainName, overriddenIn]; done) | decide +kernel)
theorem own_ef_5 (p1 : Int32) (p2 : Int32) (p3 : Int32) (p4 : Int32) (p5 : Int32)  (m : MethodId) : entryFrame m #[(.int p1), (.int p2), (.int p3), (.int p4), (.int p5)] 5 = mkF m 0 #[.val (.int p1), .val (.int p2), .val (.int p3), .val (.int p4), .val (.int p5)] [] := by first | (simp [entryFrame, mkF, argsToLocals, Value.category]; done) | rfl
theorem own_d5_0 : decode method_2_code 0 = .ok (.iload_n 0, 1) := by decide +kernel
theorem own_d5_1 : decode method_2_code 1 = .ok (.ifCond .ne 5, 3) := by decide +kernel
theorem own_d5_6 : decode method_2_code 6 = .ok (.iload_n 0, 1) := by decide +kernel
theorem own_d5_7 : decode method_2_code 7 = .ok (.iconst 1, 1) := by decide +kernel
theorem own_d5_8 : decode method_2_code 8 = .ok (.if_icmp .ne 5, 3) := by decide +kernel
theorem own_d5_13 : decode method_2_code 13 = .ok (.iload_n 0, 1) := by decide +kernel
theorem own_d5_14 : decode method_2_code 14 = .ok (.iconst 2, 1) := by decide +kernel
theorem own_d5_15 : decode method_2_code 15 = .ok (.if_icmp .ne 5, 3) := by decide +kernel
theorem own_d5_20 : decode method_2_code 20 = .ok (.iload 4, 2) := by decide +kernel
theorem own_d5_22 : decode method_2_code 22 = .ok (.ireturn, 1) := by decide +kernel
theorem own_d5_18 : decode method_2_code 18 = .ok (.iload_n 3, 1) := by decide +kernel
theorem own_d5_19 : decode method_2_code 19 = .ok (.ireturn, 1) := by decide +kernel
theorem own_d5_11 : decode method_2_code 11 = .ok (.iload_n 2, 1) := by decide +kernel
theorem own_d5_12 : decode method_2_code 12 = .ok (.ireturn, 1) := by decide +kernel
theorem own_d5_4 : decode method_2_code 4 = .ok (.iload_n 1, 1) := by decide +kernel
theorem own_d5_5 : decode method_2_code 5 = .ok (.ireturn, 1) := by decide +kernel
theorem own_pl_5 : plainFor (⟨"com/example/redbark/redbark/KeyArraysCopyPinLaw", "atI", "(IIIII)I"⟩ : MethodName) = true := plainFor_of_name (by first | (simp [plainName, overriddenIn]; done) | decide +kernel)
theorem own_ef_8 (p1 : Int32) (p2 : Addr) (p3 : Addr) (p4 : Addr) (p5 : Addr)  (m : MethodId) : entryFrame m #[(.int p1), (.ref p2), (.ref p3), (.ref p4), (.ref p5)] 5 = mkF m 0 #[.val (.int p1), .val (.ref p2), .val (.ref p3), .val (.ref p4), .val (.ref p5)] [] := by first | (simp [entryFrame, mkF, argsToLocals, Value.category]; done) | rfl
theorem own_d8_0 : decode method_3_code 0 = .ok (.iload_n 0, 1) := by decide +kernel
theorem own_d8_1 : decode method_3_code 1 = .ok (.ifCond .ne 5, 3) := by decide +kernel
theorem own_d8_6 : decode method_3_code 6 = .ok (.iload_n 0, 1) := by decide +kernel
theorem own_d8_7 : decode method_3_code 7 = .ok (.iconst 1, 1) := by decide +kernel
theorem own_d8_8 : decode method_3_code 8 = .ok (.if_icmp .ne 5, 3) := by decide +kernel
theorem own_d8_13 : decode method_3_code 13 = .ok (.iload_n 0, 1) := by decide +kernel
theorem own_d8_14 : decode method_3_code 14 = .ok (.iconst 2, 1) := by decide +kernel
theorem own_d8_15 : decode method_3_code 15 = .ok (.if_icmp .ne 5, 3) := by decide +kernel
theorem own_d8_20 : decode method_3_code 20 = .ok (.aload 4, 2) := by decide +kernel
theorem own_d8_22 : decode method_3_code 22 = .ok (.areturn, 1) := by decide +kernel
theorem own_d8_18 : decode method_3_code 18 = .ok (.aload_n 3, 1) := by decide +kernel
theorem own_d8_19 : decode method_3_code 19 = .ok (.areturn, 1) := by decide +kernel
theorem own_d8_11 : decode method_3_code 11 = .ok (.aload_n 2, 1) := by decide +kernel
theorem own_d8_12 : decode method_3_code 12 = .ok (.areturn, 1) := by decide +kernel
theorem own_d8_4 : decode method_3_code 4 = .ok (.aload_n 1, 1) := by decide +kernel
theorem own_d8_5 : decode method_3_code 5 = .ok (.areturn, 1) := by decide +kernel
theorem own_pl_8 : plainFor (⟨"com/example/redbark/redbark/KeyArraysCopyPinLaw", "atO", "(ILjava/lang/Object;Ljava/lang/Object;Ljava/lang/Object;Ljava/lang/Object;)Ljava/lang/Object;"⟩ : MethodName) = true := plainFor_of_name (by first | (simp [plainName, overriddenIn]; done) | decide +kernel)
theorem own_ef_3 (p1 : Int32) (p2 : Int32) (p3 : Int32) (p4 : Int32) (p5 : Int32) (p6 : Int32) (p7 : Int32) (p8 : Int32) (p9 : Int32) (p10 : Int32) (p11 : Int32) (p12 : Int32)  (m : MethodId) : entryFrame m #[(.int p1), (.int p2), (.int p3), (.int p4), (.int p5), (.int p6), (.int p7), (.int p8), (.int p9), (.int p10), (.int p11), (.int p12)] 12 = mkF m 0 #[.val (.int p1), .val (.int p2), .val (.int p3), .val (.int p4), .val (.int p5), .val (.int p6), .val (.int p7), .val (.int p8), .val (.int p9), .val (.int p10), .val (.int p11), .val (.int p12)] [] := by first | (simp [entryFrame, mkF, argsToLocals, Value.category]; done) | rfl
theorem own_d3_0 : decode method_5_code 0 = .ok (.iload_n 0, 1) := by decide +kernel
theorem own_d3_1 : decode method_5_code 1 = .ok (.iload_n 2, 1) := by decide +kernel
theorem own_d3_2 : decode method_5_code 2 = .ok (.iload_n 3, 1) := by decide +kernel
theorem own_d3_3 : decode method_5_code 3 = .ok (.invokestatic 7, 3) := by decide +kernel
theorem own_pd_4 : parseMethodDescriptor "(III)Z" = some ⟨[.int, .int, .int], some .boolean⟩ := by decide +kernel
theorem own_d3_6 : decode method_5_code 6 = .ok (.ifCond .eq 20, 3) := by decide +kernel
theorem own_d3_9 : decode method_5_code 9 = .ok (.iload_n 1, 1) := by decide +kernel
theorem own_d3_10 : decode method_5_code 10 = .ok (.iload_n 0, 1) := by decide +kernel
theorem own_d3_11 : decode method_5_code 11 = .ok (.iadd, 1) := by decide +kernel
theorem own_d3_12 : decode method_5_code 12 = .ok (.iload_n 2, 1) := by decide +kernel
theorem own_d3_13 : decode method_5_code 13 = .ok (.isub, 1) := by decide +kernel
theorem own_d3_14 : decode method_5_code 14 = .ok (.iload 4, 2) := by decide +kernel
theorem own_d3_16 : decode method_5_code 16 = .ok (.iload 5, 2) := by decide +kernel
theorem own_d3_18 : decode method_5_code 18 = .ok (.iload 6, 2) := by decide +kernel
theorem own_d3_20 : decode method_5_code 20 = .ok (.iload 7, 2) := by decide +kernel
theorem own_d3_22 : decode method_5_code 22 = .ok (.invokestatic 13, 3) := by decide +kernel
theorem own_pd_5 : parseMethodDescriptor "(IIIII)I" = some ⟨[.int, .int, .int, .int, .int], some .int⟩ := by decide +kernel
theorem own_d3_25 : decode method_5_code 25 = .ok (.ireturn, 1) := by decide +kernel
theorem own_d3_26 : decode method_5_code 26 = .ok (.iload_n 0, 1) := by decide +kernel
theorem own_d3_27 : decode method_5_code 27 = .ok (.iload 8, 2) := by decide +kernel
theorem own_d3_29 : decode method_5_code 29 = .ok (.iload 9, 2) := by decide +kernel
theorem own_d3_31 : decode method_5_code 31 = .ok (.iload 10, 2) := by decide +kernel
theorem own_d3_33 : decode method_5_code 33 = .ok (.iload 11, 2) := by decide +kernel
theorem own_d3_35 : decode method_5_code 35 = .ok (.invokestatic 13, 3) := by decide +kernel
theorem own_d3_38 : decode method_5_code 38 = .ok (.ireturn, 1) := by decide +kernel
theorem own_pl_3 : plainFor (⟨"com/example/redbark/redbark/KeyArraysCopyPinLaw", "expI", "(IIIIIIIIIIII)I"⟩ : MethodName) = true := plainFor_of_name (by first | (simp [plainName, overriddenIn]; done) | decide +kernel)
theorem own_ef_7 (p1 : Int32) (p2 : Int32) (p3 : Int32) (p4 : Int32) (p5 : Addr) (p6 : Addr) (p7 : Addr) (p8 : Addr) (p9 : Addr) (p10 : Addr) (p11 : Addr) (p12 : Addr)  (m : MethodId) : entryFrame m #[(.int p1), (.int p2), (.int p3), (.int p4), (.ref p5), (.ref p6), (.ref p7), (.ref p8), (.ref p9), (.ref p10), (.ref p11), (.ref p12)] 12 = mkF m 0 #[.val (.int p1), .val (.int p2), .val (.int p3), .val (.int p4), .val (.ref p5), .val (.ref p6), .val (.ref p7), .val (.ref p8), .val (.ref p9), .val (.ref p10), .val (.ref p11), .val (.ref p12)] [] := by first | (simp [entryFrame, mkF, argsToLocals, Value.category]; done) | rfl
theorem own_d7_0 : decode method_6_code 0 = .ok (.iload_n 0, 1) := by decide +kernel
theorem own_d7_1 : decode method_6_code 1 = .ok (.iload_n 2, 1) := by decide +kernel
theorem own_d7_2 : decode method_6_code 2 = .ok (.iload_n 3, 1) := by decide +kernel
theorem own_d7_3 : decode method_6_code 3 = .ok (.invokestatic 7, 3) := by decide +kernel
theorem own_d7_6 : decode method_6_code 6 = .ok (.ifCond .eq 20, 3) := by decide +kernel
theorem own_d7_9 : decode method_6_code 9 = .ok (.iload_n 1, 1) := by decide +kernel
theorem own_d7_10 : decode method_6_code 10 = .ok (.iload_n 0, 1) := by decide +kernel
theorem own_d7_11 : decode method_6_code 11 = .ok (.iadd, 1) := by decide +kernel
theorem own_d7_12 : decode method_6_code 12 = .ok (.iload_n 2, 1) := by decide +kernel
theorem own_d7_13 : decode method_6_code 13 = .ok (.isub, 1) := by decide +kernel
theorem own_d7_14 : decode method_6_code 14 = .ok (.aload 4, 2) := by decide +kernel
theorem own_d7_16 : decode method_6_code 16 = .ok (.aload 5, 2) := by decide +kernel
theorem own_d7_18 : decode method_6_code 18 = .ok (.aload 6, 2) := by decide +kernel
theorem own_d7_20 : decode method_6_code 20 = .ok (.aload 7, 2) := by decide +kernel
theorem own_d7_22 : decode method_6_code 22 = .ok (.invokestatic 17, 3) := by decide +kernel
theorem own_pd_8 : parseMethodDescriptor "(ILjava/lang/Object;Ljava/lang/Object;Ljava/lang/Object;Ljava/lang/Object;)Ljava/lang/Object;" = some ⟨[.int, (.object "java/lang/Object"), (.object "java/lang/Object"), (.object "java/lang/Object"), (.object "java/lang/Object")], some (.object "java/lang/Object")⟩ := by decide +kernel
theorem own_d7_25 : decode method_6_code 25 = .ok (.areturn, 1) := by decide +kernel
theorem own_d7_26 : decode method_6_code 26 = .ok (.iload_n 0, 1) := by decide +kernel
theorem own_d7_27 : decode method_6_code 27 = .ok (.aload 8, 2) := by decide +kernel
theorem own_d7_29 : decode method_6_code 29 = .ok (.aload 9, 2) := by decide +kernel
theorem own_d7_31 : decode method_6_code 31 = .ok (.aload 10, 2) := by decide +kernel
theorem own_d7_33 : decode method_6_code 33 = .ok (.aload 11, 2) := by decide +kernel
theorem own_d7_35 : decode method_6_code 35 = .ok (.invokestatic 17, 3) := by decide +kernel
theorem own_d7_38 : decode method_6_code 38 = .ok (.areturn, 1) := by decide +kernel
theorem own_pl_7 : plainFor (⟨"com/example/redbark/redbark/KeyArraysCopyPinLaw", "expO", "(IIIILjava/lang/Object;Ljava/lang/Object;Ljava/lang/Object;Ljava/lang/Object;Ljava/lang/Object;Ljava/lang/Object;Ljava/lang/Object;Ljava/lang/Object;)Ljava/lang/Object;"⟩ : MethodName) = true := plainFor_of_name (by first | (simp [plainName, overriddenIn]; done) | decide +kernel)
theorem own_ef_2 (p1 : Addr) (p2 : Int32) (p3 : Addr) (p4 : Int32) (p5 : Int32)  (m : MethodId) : entryFrame m #[(.ref p1), (.int p2), (.ref p3), (.int p4), (.int p5)] 6 = mkF m 0 #[.val (.ref p1), .val (.int p2), .val (.ref p3), .val (.int p4), .val (.int p5), .unset] [] := by first | (simp [entryFrame, mkF, argsToLocals, Value.category]; done) | rfl
theorem own_d2_0 : decode prog_10_method_9_code 0 = .ok (.aload_n 0, 1) := by decide +kernel
theorem own_d2_1 : decode prog_10_method_9_code 1 = .ok (.instanceof 9, 3) := by decide +kernel
theorem own_d2_4 : decode prog_10_method_9_code 4 = .ok (.ifCond .eq 25, 3) := by decide +kernel
theorem own_d2_7 : decode prog_10_method_9_code 7 = .ok (.aload_n 0, 1) := by decide +kernel
theorem own_d2_8 : decode prog_10_method_9_code 8 = .ok (.checkcast 9, 3) := by decide +kernel
theorem own_d2_11 : decode prog_10_method_9_code 11 = .ok (.astore 5, 2) := by decide +kernel
theorem own_d2_13 : decode prog_10_method_9_code 13 = .ok (.aload 5, 2) := by decide +kernel
theorem own_d2_15 : decode prog_10_method_9_code 15 = .ok (.iload_n 1, 1) := by decide +kernel
theorem own_d2_16 : decode prog_10_method_9_code 16 = .ok (.aload_n 2, 1) := by decide +kernel
theorem own_d2_17 : decode prog_10_method_9_code 17 = .ok (.checkcast 9, 3) := by decide +kernel
theorem own_d2_20 : decode prog_10_method_9_code 20 = .ok (.iload_n 3, 1) := by decide +kernel
theorem own_d2_21 : decode prog_10_method_9_code 21 = .ok (.iload 4, 2) := by decide +kernel
theorem own_d2_23 : decode prog_10_method_9_code 23 = .ok (.invokestatic 30, 3) := by decide +kernel
theorem own_d2_26 : decode prog_10_method_9_code 26 = .ok (.goto 18, 3) := by decide +kernel
theorem own_d2_44 : decode prog_10_method_9_code 44 = .ok (.return_, 1) := by decide +kernel
theorem own_pl_2 : plainFor (⟨"com/example/redbark/redbark/KeyArrays", "copy", "(Ljava/lang/Object;ILjava/lang/Object;II)V"⟩ : MethodName) = true := plainFor_of_name (by first | (simp [plainName, overriddenIn]; done) | decide +kernel)
theorem own_d2_29 : decode prog_10_method_9_code 29 = .ok (.aload_n 0, 1) := by decide +kernel
theorem own_d2_30 : decode prog_10_method_9_code 30 = .ok (.checkcast 11, 3) := by decide +kernel
theorem own_d2_33 : decode prog_10_method_9_code 33 = .ok (.iload_n 1, 1) := by decide +kernel
theorem own_d2_34 : decode prog_10_method_9_code 34 = .ok (.aload_n 2, 1) := by decide +kernel
theorem own_d2_35 : decode prog_10_method_9_code 35 = .ok (.checkcast 11, 3) := by decide +kernel
theorem own_d2_38 : decode prog_10_method_9_code 38 = .ok (.iload_n 3, 1) := by decide +kernel
theorem own_d2_39 : decode prog_10_method_9_code 39 = .ok (.iload 4, 2) := by decide +kernel
theorem own_d2_41 : decode prog_10_method_9_code 41 = .ok (.invokestatic 30, 3) := by decide +kernel
theorem own_ef_0 (p0 : Int32) (p1 : Int32) (p2 : Int32) (p3 : Int32) (p4 : Int32) (p5 : Int32)  (m : MethodId) : entryFrame m #[(.int p0), (.int p1), (.int p2), (.int p3), (.int p4), (.int p5)] maxLocals = mkF m 0 #[.val (.int p0), .val (.int p1), .val (.int p2), .val (.int p3), .val (.int p4), .val (.int p5), .unset, .unset, .unset, .unset, .unset, .unset, .unset, .unset, .unset, .unset, .unset, .unset, .unset, .unset, .unset, .unset, .unset, .unset, .unset, .unset, .unset, .unset, .unset, .unset] [] := by first | (simp [entryFrame, mkF, argsToLocals, Value.category, maxLocals]; done) | rfl
theorem own_pd_3 : parseMethodDescriptor "(II)I" = some ⟨[.int, .int], some .int⟩ := by decide +kernel
theorem own_pd_1 : parseMethodDescriptor "(I)Ljava/lang/Integer;" = some ⟨[.int], some (.object "java/lang/Integer")⟩ := by decide +kernel
theorem own_pd_9 : parseMethodDescriptor "(Ljava/lang/Object;ILjava/lang/Object;II)V" = some ⟨[(.object "java/lang/Object"), .int, (.object "java/lang/Object"), .int, .int], none⟩ := by decide +kernel
theorem own_pd_7 : parseMethodDescriptor "(IIIILjava/lang/Object;Ljava/lang/Object;Ljava/lang/Object;Ljava/lang/Object;Ljava/lang/Object;Ljava/lang/Object;Ljava/lang/Object;Ljava/lang/Object;)Ljava/lang/Object;" = some ⟨[.int, .int, .int, .int, (.object "java/lang/Object"), (.object "java/lang/Object"), (.object "java/lang/Object"), (.object "java/lang/Object"), (.object "java/lang/Object"), (.object "java/lang/Object"), (.object "java/lang/Object"), (.object "java/lang/Object")], some (.object "java/lang/Object")⟩ := by decide +kernel
theorem own_pd_6 : parseMethodDescriptor "(IIIIIIIIIIII)I" = some ⟨[.int, .int, .int, .int, .int, .int, .int, .int, .int, .int, .int, .int], some .int⟩ := by decide +kernel
theorem own_pl_0 : plainFor x = true := plainFor_of_name (by first | (simp [plainName, overriddenIn]; done) | decide +kernel)
theorem own_all {args : Array Value} {s : State} {t : Term} {d : Jvm.Cond} {a : Addr} {cell : Cell} (ht : t.eval args s none [] s = some (.ref a)) (harr : s.arrayAt? a = some cell) (h : (Jvm.Cond.all t d).value args s none s [] = some true) : ∀ j, j < cell.slots.size → d.value args s none s [j] = some true := by
  simp only [Cond.value, ht, harr] at h
  exact Jvm.Example.SumArray.foldl_all _ (fun j => d.value args s none s [j]) (fun _ => rfl) (fun x _ hx => by
    cases x with
    | none => rfl
    | some b => cases b with
      | true => exact absurd rfl hx
      | false => rfl) _ h
theorem own_eqv {s : State} {args : Array Value} {a b : Term} {x : Value} {n : Int32} (h : (Jvm.Cond.eq a b).value args s none s [] = some true) (ex : a.eval args s none [] s = some x) (ey : b.eval args s none [] s = some (.int n)) : x = .int n := by
  cases x <;> simp [Cond.value, ex, ey] at h ⊢
  exact h
theorem own_cache {s : State} {args : Array Value} {t : Term} {a : Addr} (hcl : ∀ idx, t.eval args s none idx s = some (.ref a)) (w4 : (Jvm.Cond.arrayOf t (.object "java/lang/Integer")).value args s none s [] = some true) (w6 : (Jvm.Cond.eq (.length t) (.int 256)).value args s none s [] = some true)
    (w7 : (Jvm.Cond.all t (Jvm.Cond.and (Jvm.Cond.exactly (Term.elem t (Term.index 0)) "java/lang/Integer") (Jvm.Cond.eq (Term.field (Term.elem t (Term.index 0)) "java/lang/Integer" "value" "I") (Term.sub (Term.index 0) (Term.int 128))))).value args s none s [] = some true) :
    ∃ kC vsC, Arv s s.heap a kC (.object "java/lang/Integer") (256 : Int32) vsC .null ∧ ∀ j, j < 256 → ∃ r, vsC.getD j .null = .ref r ∧ Exa s s.heap r "java/lang/Integer" := by
  obtain ⟨c, A⟩ := Arr.start (hcl []) w4
  have hat : s.arrayAt? a = some c := IntBox.arrayAt_of A.1 A.2.1 A.2.2
  have hsz : c.slots.size = 256 := by
    have e := w6
    by_cases hl : c.slots.size < 2 ^ 31
    · have el := len_f (first := s) (o := none) (hcl []) hat hl
      have q := own_eqv e el (Term.int_eval 256)
      have q2 : c.slots.size.toInt32 = 256 := by injection q
      have q3 := congrArg Int32.toInt q2
      rw [show (c.slots.size.toInt32).toInt = (c.slots.size : Int) from Int32.toInt_ofNat_of_lt (by omega)] at q3
      have : ((256 : Int32)).toInt = 256 := by decide
      omega
    · exfalso
      obtain ⟨x, y, ex, ey, -⟩ := cmp_v (Or.inl e)
      simp [Term.eval, hcl [], hat] at ex
      omega
  have hel : ∀ j, j < 256 → ∃ r, c.slots[j]? = some (.ref r) ∧ Exa s s.heap r "java/lang/Integer" := fun j hj => by
    obtain ⟨e1, -⟩ := and_e (own_all (hcl []) hat w7 j (by omega))
    obtain ⟨r, er⟩ := exa_v e1
    refine ⟨r, ?_, exa_at er e1⟩
    have hj0 : ¬ j.toInt32 < 0 := fun q => by
      have := Int32.lt_iff_toInt_lt.mp q
      rw [OwnK.z0, show (j.toInt32).toInt = (j : Int) from Int32.toInt_ofNat_of_lt (by omega)] at this
      omega
    have q := elem_f (hcl [j]) (Term.index_eval j) hat hj0
    rw [er] at q
    have : j.toInt32.toNatClampNeg = j := OwnK.jnat (Int32.toInt_ofNat_of_lt (by omega))
    rw [this] at q
    exact q.symm
  refine ⟨c.cls, c.slots.toList, ⟨c, A, rfl, ?_, by decide, fun k hk => ?_, fun k hk => ?_⟩, fun j hj => ?_⟩
  · rw [hsz]; decide
  · rw [List.getD_eq_getElem?_getD, Array.getElem?_toList, Array.getElem?_eq_getElem hk]; rfl
  · obtain ⟨r, hr, -⟩ := hel k (by omega)
    rw [List.getD_eq_getElem?_getD, Array.getElem?_toList, hr]; rfl
  · obtain ⟨r, hr, E⟩ := hel j hj
    exact ⟨r, by rw [List.getD_eq_getElem?_getD, Array.getElem?_toList, hr]; rfl, E⟩
theorem own_add128 {p : Int32} (h0 : -128 ≤ p.toInt) (h1 : p.toInt ≤ 127) : (p + 128).toInt = p.toInt + 128 := XT.add32 (y := 128) (by show XT.fits32 (p.toInt + 128); unfold XT.fits32; omega)
def own_at {α : Type} (i : Int) (v0 v1 v2 v3 : α) : α := if i = 0 then v0 else if i = 1 then v1 else if i = 2 then v2 else v3
def own_exp {α : Type} (k f t l : Int) (a0 a1 a2 a3 b0 b1 b2 b3 : α) : α := if t ≤ k ∧ k < t + l then own_at (f + k - t) a0 a1 a2 a3 else own_at k b0 b1 b2 b3
theorem own_at4 {α β : Type} (g : α → β) (d : β) (v0 v1 v2 v3 : α) (i : Nat) (hi : i < 4) : [g v0, g v1, g v2, g v3].getD i d = g (own_at (i : Int) v0 v1 v2 v3) := by
  match i, hi with
  | 0, _ => rfl
  | 1, _ => rfl
  | 2, _ => rfl
  | 3, _ => rfl
theorem own_cp0 {α β : Type} (g : α → β) (d e : β) (a0 a1 a2 a3 b0 b1 b2 b3 : α) {x y n k : Nat} (h1 : x + n ≤ 4) (h2 : y + n ≤ 4) (hk : k < 4) :
    ([g b0, g b1, g b2, g b3].take y ++ ((List.range n).map fun i => [g a0, g a1, g a2, g a3].getD (x + i) d) ++ [g b0, g b1, g b2, g b3].drop (y + n)).getD k e = g (own_exp (k : Int) (x : Int) (y : Int) (n : Int) a0 a1 a2 a3 b0 b1 b2 b3) := by
  unfold own_exp
  have hb := own_at4 g e b0 b1 b2 b3
  have ha := own_at4 g d a0 a1 a2 a3
  generalize hB : [g b0, g b1, g b2, g b3] = vb at *
  generalize [g a0, g a1, g a2, g a3] = va at *
  have lb : vb.length = 4 := by rw [← hB]; rfl
  rw [List.getD_eq_getElem?_getD]
  by_cases q1 : k < y
  · rw [if_neg (by omega), List.getElem?_append_left (by simp; omega), List.getElem?_append_left (by simp; omega), List.getElem?_take_of_lt q1, ← List.getD_eq_getElem?_getD]
    exact hb k hk
  · by_cases q2 : k < y + n
    · rw [if_pos (by omega), List.getElem?_append_left (by simp; omega), List.getElem?_append_right (by simp; omega)]
      have e1 : k - (vb.take y).length = k - y := by simp; omega
      rw [e1, List.getElem?_map, List.getElem?_range (by omega)]
      have e2 : (x : Int) + k - y = ((x + (k - y) : Nat) : Int) := by omega
      rw [e2, ← ha _ (by omega)]
      rfl
    · rw [if_neg (by omega), List.getElem?_append_right (by simp; omega)]
      have e1 : k - (vb.take y ++ ((List.range n).map fun i => va.getD (x + i) d)).length = k - (y + n) := by simp; omega
      rw [e1, List.getElem?_drop, show y + n + (k - (y + n)) = k by omega, ← List.getD_eq_getElem?_getD]
      exact hb k hk
theorem own_nar1 : nar .boolean (1 : Int32) = 1 := by decide
theorem own_nar0 : nar .boolean (0 : Int32) = 0 := by decide
theorem own_cpk {α β : Type} (g : α → β) (d e : β) (a0 a1 a2 a3 b0 b1 b2 b3 : α) {x y n k : Nat} {f t l K : Int32} (h1 : x + n ≤ 4) (h2 : y + n ≤ 4) (hk : k < 4) (hf : f.toInt = (x : Nat)) (ht : t.toInt = (y : Nat)) (hl : l.toInt = (n : Nat)) (hK : K.toInt = (k : Nat)) :
    ([g b0, g b1, g b2, g b3].take y ++ ((List.range n).map fun i => [g a0, g a1, g a2, g a3].getD (x + i) d) ++ [g b0, g b1, g b2, g b3].drop (y + n)).getD K.toNatClampNeg e = g (own_exp K.toInt f.toInt t.toInt l.toInt a0 a1 a2 a3 b0 b1 b2 b3) := by
  rw [OwnK.jnat hK, hK, hf, ht, hl]
  exact own_cp0 g d e a0 a1 a2 a3 b0 b1 b2 b3 h1 h2 hk
theorem own_add4 {p q : Int32} (hp : 0 ≤ p.toInt ∧ p.toInt ≤ 4) (hq : 0 ≤ q.toInt ∧ q.toInt ≤ 4) : (p + q).toInt = p.toInt + q.toInt := XT.add32 (by unfold XT.fits32; omega)
theorem own_idx {k f t l : Int32} (hk : 0 ≤ k.toInt ∧ k.toInt < 4) (hf : 0 ≤ f.toInt ∧ f.toInt ≤ 4) (ht : 0 ≤ t.toInt ∧ t.toInt ≤ 4) (hc : t.toInt ≤ k.toInt ∧ k.toInt < t.toInt + l.toInt) : ((f + k) - t).toInt = f.toInt + k.toInt - t.toInt := by
  have e : (f + k).toInt = f.toInt + k.toInt := XT.add32 (by unfold XT.fits32; omega)
  rw [XT.sub32 (by unfold XT.fits32; omega), e]
theorem own_mm3 (x : Int32) : 0 ≤ (x &&& (3 : Int32)).toInt ∧ (x &&& (3 : Int32)).toInt ≤ 3 := by
  rw [Jvm.Kit.i32_mask x 3 (k := 2) (by decide) (by decide)]; omega
theorem own_len (x : Int32) : 0 ≤ ((x &&& (7 : Int32)) % (5 : Int32)).toInt ∧ ((x &&& (7 : Int32)) % (5 : Int32)).toInt ≤ 4 := by
  have h := Jvm.Kit.i32_mask x 7 (k := 3) (by decide) (by decide)
  have e := Jvm.Kit.i32_rem_nonneg (x := x &&& 7) (y := 5) (by omega)
  rw [show (5 : Int32).toInt = 5 from by decide] at e
  omega
theorem own_min4 {a x : Int32} (ha : 0 ≤ a.toInt ∧ a.toInt ≤ 4) (hx : 0 ≤ x.toInt ∧ x.toInt ≤ 4) (hx3 : x.toInt ≤ 3) : 0 ≤ (if ((4 : Int32) - x).toInt < a.toInt then ((4 : Int32) - x) else a).toInt ∧ (if ((4 : Int32) - x).toInt < a.toInt then ((4 : Int32) - x) else a).toInt ≤ a.toInt ∧ (if ((4 : Int32) - x).toInt < a.toInt then ((4 : Int32) - x) else a).toInt ≤ 4 - x.toInt := by
  have e : ((4 : Int32) - x).toInt = 4 - x.toInt := XT.sub32 (x := 4) (by show XT.fits32 (4 - x.toInt); unfold XT.fits32; omega)
  split <;> omega
theorem own_insI {Z : State} {h : Heap} {a : Addr} {C : String} (E : Exa Z h a C) (hI : ∃ c t, Z.vm.findClass C = some c ∧ Z.vm.findClass "[I" = some t ∧ Z.vm.assignable c t = true) : Ins Z h a "[I" true := by
  obtain ⟨c, t, h1, h2, h3⟩ := hI
  obtain ⟨cell, kc, e1, e2, e3, e4, e5⟩ := E
  cases h1.symm.trans e2
  exact ⟨cell, t, e1, h2, by simp [e4, h3]⟩
theorem own_isI {Z : State} {a0 : Array Value} {h : Heap} {a : Addr} (w : (Jvm.Cond.arrayClass .int).before a0 Z = true) (E : Exa Z h a "[Ljava/lang/Object;") : (∃ c t, Z.vm.findClass "[Ljava/lang/Object;" = some c ∧ Z.vm.findClass "[I" = some t ∧ Z.vm.assignable c t = true) ∨ (∃ c t, Z.vm.findClass "[Ljava/lang/Object;" = some c ∧ Z.vm.findClass "[I" = some t ∧ Z.vm.assignable c t = false) := by
  obtain ⟨c, k, comp, h1, h2, h3⟩ := Cond.arrayClass_spec w
  obtain ⟨cell, kc, e1, e2, e3, e4, e5⟩ := E
  cases q : Z.vm.assignable cell.cls c
  · exact Or.inr ⟨_, _, e2, h1, q⟩
  · exact Or.inl ⟨_, _, e2, h1, q⟩
theorem own_sto4 {Z : State} {h : Heap} {b : Addr} {v0 v1 v2 v3 d : Value} (s0 : Sto Z h b v0) (s1 : Sto Z h b v1) (s2 : Sto Z h b v2) (s3 : Sto Z h b v3) : ∀ i, i < 4 → Sto Z h b ([v0, v1, v2, v3].getD i d) := fun i hi => by
  match i, hi with
  | 0, _ => exact s0
  | 1, _ => exact s1
  | 2, _ => exact s2
  | 3, _ => exact s3
theorem own_stoL {Z : State} {h : Heap} {b : Addr} {vs : List Value} {d : Value} {x n : Nat} (hS : ∀ i, i < 4 → Sto Z h b (vs.getD i d)) (hxn : x + n ≤ 4) : StoL Z h b ((List.range n).map fun i => vs.getD (x + i) d) := by
  have key : ∀ l : List Nat, (∀ i ∈ l, x + i < 4) → StoL Z h b (l.map fun i => vs.getD (x + i) d) := fun l => by
    induction l with
    | nil => intro _; exact trivial
    | cons i l ih => intro q; exact ⟨hS _ (q i (List.mem_cons_self ..)), ih fun j hj => q j (List.mem_cons_of_mem _ hj)⟩
  exact key _ fun i hi => by have := List.mem_range.mp hi; omega

def own_Qmet1 (h0 : Heap) (p1 : Int32) (p2 : Int32) (v : Option Value) (h : Heap) (L : List Loc) : Prop := v = some (.int (if p2.toInt < p1.toInt then p2 else p1)) ∧ h = h0 ∧ L = []
set_option maxRecDepth 65536 in
set_option maxHeartbeats 40000000 in
theorem own_met1 (l : Launch) (Z : State) (a0 : Array Value) (hw : ∀ d ∈ tables_1, d.before a0 Z = true) (h0 : Heap) (p1 : Int32) (p2 : Int32)  :
    MetFree l (⟨"java/lang/Math", "min", "(II)I"⟩ : MethodName) (head1 [Jvm.Cond.code (⟨"java/lang/Math", "min", "(II)I"⟩ : MethodName) jdk_29_method_69_code 2 (some .int)] ({ frames := 0, cells := 0, slots := 0, locals := 0 } : Room)) (fun a U => a = #[(.int p1), (.int p2)] ∧ Z.Warmed39 U.vm ∧ U.heap = h0) (fun _ _ _ _ _ => True) (fun _ U o U' => ∃ v L, o = .returned v ∧ (own_Qmet1 h0 p1 p2 ) v U'.heap L ∧ FrameEnd U o U' L ({ frames := 0, cells := 0, slots := 0, locals := 0 } : Room).cells ({ frames := 0, cells := 0, slots := 0, locals := 0 } : Room).slots) := by
  refine OwnK.met (Q := (own_Qmet1 h0 p1 p2 )) (C := ({ frames := 0, cells := 0, slots := 0, locals := 0 } : Room).cells) (N := ({ frames := 0, cells := 0, slots := 0, locals := 0 } : Room).slots) own_pl_1 (own_ef_1 p1 p2) ?_
  intro p e s m below meth c T0 X0 hx hZ hby hml hown hnm hret hlk e0
  refine OwnK.iloadN X0 hx (hb hby own_d1_0) (pc' := 1) rfl (v := p1) rfl ?_
  refine OwnK.iloadN X0 hx (hb hby own_d1_1) (pc' := 2) rfl (v := p2) rfl ?_
  refine OwnK.icmp_gt X0 hx (hb hby own_d1_2) (by decide) (pcT := 9) (by decide) (pc' := 5) rfl (fun (hc1 : p2.toInt < p1.toInt) => ?_) (fun (hc1 : p1.toInt ≤ p2.toInt) => ?_)
  · refine OwnK.iloadN X0 hx (hb hby own_d1_9) (pc' := 10) rfl (v := p2) rfl ?_
    refine OwnK.retI_ X0 hx hret hlk (hb hby own_d1_10) (by decide) (by decide) ?_
    exact ⟨by first | rw [if_pos (by assumption)] | rw [if_neg (by omega)], e0, rfl⟩
  · refine OwnK.iloadN X0 hx (hb hby own_d1_5) (pc' := 6) rfl (v := p1) rfl ?_
    refine OwnK.goto_ X0 hx (hb hby own_d1_6) (by decide) (pc' := 10) (by decide) ?_
    refine OwnK.retI_ X0 hx hret hlk (hb hby own_d1_10) (by decide) (by decide) ?_
    exact ⟨by first | rw [if_pos (by assumption)] | rw [if_neg (by omega)], e0, rfl⟩
def own_Q10 (h0 : Heap) (v : Option Value) (h : Heap) (L : List Loc) : Prop := v = none ∧ h = h0 ∧ L = []
set_option maxRecDepth 65536 in
set_option maxHeartbeats 40000000 in
theorem own_met10 (l : Launch) (Z : State) (a0 : Array Value) (hw : ∀ d ∈ tables_1, d.before a0 Z = true) (h0 : Heap) (p1 : Addr)  :
    MetFree l (⟨"java/lang/Number", "<init>", "()V"⟩ : MethodName) (head1 [Jvm.Cond.code (⟨"java/lang/Number", "<init>", "()V"⟩ : MethodName) jdk_18_method_1_code 1 none] ({ frames := 1, cells := 0, slots := 0, locals := 12 } : Room)) (fun a U => a = #[(.ref p1)] ∧ Z.Warmed39 U.vm ∧ U.heap = h0) (fun _ _ _ _ _ => True) (fun _ U o U' => ∃ v L, o = .returned v ∧ (own_Q10 h0) v U'.heap L ∧ FrameEnd U o U' L ({ frames := 1, cells := 0, slots := 0, locals := 12 } : Room).cells ({ frames := 1, cells := 0, slots := 0, locals := 12 } : Room).slots) := by
  refine OwnK.met (Q := (own_Q10 h0)) (C := ({ frames := 1, cells := 0, slots := 0, locals := 12 } : Room).cells) (N := ({ frames := 1, cells := 0, slots := 0, locals := 12 } : Room).slots) own_pl_10 (own_ef_10 p1) ?_
  intro p e s m below meth c T0 X0 hx hZ hby hml hown hnm hret hlk e0
  refine OwnK.aloadN X0 hx (hb hby own_d10_0) (pc' := 1) rfl (v := (.ref p1)) rfl rfl ?_
  refine OwnK.initO_ X0 hx hZ hown (hw _ (List.mem_of_getElem? (i := 55) rfl)) (hw _ (List.mem_of_getElem? (i := 56) rfl)) (hw _ (List.mem_of_getElem? (i := 57) rfl)) e0 (by rw [hml]; rfl) (hb hby own_d10_1) (pc' := 4) rfl (by decide) (W := 0) (Nat.le_of_eq rfl) (by decide) (fun T1 X1 e1 => ?_)
  refine OwnK.retV_ X1 hx hret hlk (hb hby own_d10_4) (by decide) (by decide) ?_
  exact ⟨rfl, e1, rfl⟩
def own_Qmet9 (Z : State) (h0 : Heap) (n0 : Nat) (p1 : Addr) (p2 : Int32) (v : Option Value) (h : Heap) (L : List Loc) : Prop := v = none ∧ Fr n0 L ∧ Keep h0 h [p1] ∧ Exa Z h p1 "java/lang/Integer"
set_option maxRecDepth 65536 in
set_option maxHeartbeats 40000000 in
theorem own_met9 (l : Launch) (Z : State) (a0 : Array Value) (hw : ∀ d ∈ tables_1, d.before a0 Z = true) (h0 : Heap) (n0 : Nat) (Z0 : n0 ≤ h0.size) (p1 : Addr) (p2 : Int32)  (ge_p1 : n0 ≤ p1) (F0 : Fld Z h0 p1 "java/lang/Integer" "value" "I" (.int (0 : Int32))) (E0 : Exa Z h0 p1 "java/lang/Integer") :
    MetFree l (⟨"java/lang/Integer", "<init>", "(I)V"⟩ : MethodName) (head1 [Jvm.Cond.code (⟨"java/lang/Integer", "<init>", "(I)V"⟩ : MethodName) jdk_33_method_23_code 2 none] ({ frames := 2, cells := 0, slots := 0, locals := 24 } : Room)) (fun a U => a = #[(.ref p1), (.int p2)] ∧ Z.Warmed39 U.vm ∧ U.heap = h0) (fun _ _ _ _ _ => True) (fun _ U o U' => ∃ v L, o = .returned v ∧ (own_Qmet9 Z h0 n0 p1 p2 ) v U'.heap L ∧ FrameEnd U o U' L ({ frames := 2, cells := 0, slots := 0, locals := 24 } : Room).cells ({ frames := 2, cells := 0, slots := 0, locals := 24 } : Room).slots) := by
  refine OwnK.met (Q := (own_Qmet9 Z h0 n0 p1 p2 )) (C := ({ frames := 2, cells := 0, slots := 0, locals := 24 } : Room).cells) (N := ({ frames := 2, cells := 0, slots := 0, locals := 24 } : Room).slots) own_pl_9 (own_ef_9 p1 p2) ?_
  intro p e s m below meth c T0 X0 hx hZ hby hml hown hnm hret hlk e0
  have N0 := Fr.nil n0
  have K0 := Keep.refl h0 [p1]
  refine OwnK.aloadN X0 hx (hb hby own_d9_0) (pc' := 1) rfl (v := (.ref p1)) rfl rfl ?_
  refine OwnK.callI_ X0 hx hZ hown (y := (⟨"java/lang/Number", "<init>", "()V"⟩ : MethodName)) (a := p1) rfl (hw _ (List.mem_of_getElem? (i := 49) rfl)) (hw _ (List.mem_of_getElem? (i := 50) rfl)) (hw _ (List.mem_of_getElem? (i := 53) rfl)) (hw _ (List.mem_of_getElem? (i := 54) rfl)) rfl (by decide) (own_met10 l Z a0 hw h0 p1) (by decide) (W := 0) (by decide) e0 (by rw [hml]; rfl) own_pd_0 (argsL := []) rfl (S := []) rfl (Nat.le_of_eq rfl) (hb hby own_d9_1) (pc' := 4) rfl (by decide) (by decide) (fun T1 v1 L1 X1 hQ1 => ?_)
  obtain ⟨rfl, e1, rfl⟩ := hQ1
  have N2 := Fr.app N0 (Fr.nil n0)
  refine OwnK.aloadN X1 hx (hb hby own_d9_4) (pc' := 5) rfl (v := (.ref p1)) rfl rfl ?_
  refine OwnK.iloadN X1 hx (hb hby own_d9_5) (pc' := 6) rfl (v := p2) rfl ?_
  refine OwnK.putF_ X1 hx hZ hown (hw _ (List.mem_of_getElem? (i := 58) rfl)) Via.refl e1 F0 E0 (Or.inr ⟨(hw _ (List.mem_of_getElem? (i := 59) rfl)), rfl, hnm⟩) (hw _ (List.mem_of_getElem? (i := 44) rfl)) (ty := .int) (by decide) (v' := (.int p2)) rfl rfl (hb hby own_d9_6) (pc' := 9) rfl (fun T3 h3 X3 e3 W3 => ?_)
  have f4 := F0.same W3
  have f5 := E0.wr W3
  have N6 := Fr.snoc X3 N2 ge_p1
  have K7 := K0.wr W3 (Or.inl (List.mem_of_getElem? (i := 0) rfl))
  have z8 : n0 ≤ h3.size := Nat.le_trans Z0 (Keep.of_wr W3).1
  refine OwnK.retV_ X3 hx hret hlk (hb hby own_d9_9) (by decide) (by decide) ?_
  rw [show T3.heap = h3 from e3]
  exact ⟨rfl, N6, K7, f5⟩
def own_Qmet6 (Z : State) (h0 : Heap) (n0 : Nat) (p1 : Int32) (aC : Addr) (kC : ClassId) (vsC : List Value) (v : Option Value) (h : Heap) (L : List Loc) : Prop := ∃ r, v = some (.ref r) ∧ Fr n0 L ∧ Keep h0 h [] ∧ Exa Z h r "java/lang/Integer"
set_option maxRecDepth 65536 in
set_option maxHeartbeats 40000000 in
theorem own_met6 (l : Launch) (Z : State) (a0 : Array Value) (hw : ∀ d ∈ tables_1, d.before a0 Z = true) (h0 : Heap) (n0 : Nat) (Z0 : n0 ≤ h0.size) (p1 : Int32) (aC : Addr) (kC : ClassId) (vsC : List Value) (O0 : Old Z n0 h0) (SH : Sta Z Z.heap "java/lang/Integer$IntegerCache" "high" "I" (.int (127 : Int32))) (SC : Sta Z Z.heap "java/lang/Integer$IntegerCache" "cache" "[Ljava/lang/Integer;" (.ref aC)) (AC : Arv Z Z.heap aC kC (.object "java/lang/Integer") (256 : Int32) vsC .null) (CE : ∀ j, j < 256 → ∃ r, vsC.getD j .null = .ref r ∧ Exa Z Z.heap r "java/lang/Integer") :
    MetFree l (⟨"java/lang/Integer", "valueOf", "(I)Ljava/lang/Integer;"⟩ : MethodName) (head1 [Jvm.Cond.code (⟨"java/lang/Integer", "valueOf", "(I)Ljava/lang/Integer;"⟩ : MethodName) jdk_33_method_22_code 1 (some (.object "java/lang/Integer"))] ({ frames := 3, cells := 1, slots := 1, locals := 38 } : Room)) (fun a U => a = #[(.int p1)] ∧ Z.Warmed39 U.vm ∧ U.heap = h0) (fun _ _ _ _ _ => True) (fun _ U o U' => ∃ v L, o = .returned v ∧ (own_Qmet6 Z h0 n0 p1 aC kC vsC) v U'.heap L ∧ FrameEnd U o U' L ({ frames := 3, cells := 1, slots := 1, locals := 38 } : Room).cells ({ frames := 3, cells := 1, slots := 1, locals := 38 } : Room).slots) := by
  refine OwnK.met (Q := (own_Qmet6 Z h0 n0 p1 aC kC vsC)) (C := ({ frames := 3, cells := 1, slots := 1, locals := 38 } : Room).cells) (N := ({ frames := 3, cells := 1, slots := 1, locals := 38 } : Room).slots) own_pl_6 (own_ef_6 p1) ?_
  intro p e s m below meth c T0 X0 hx hZ hby hml hown hnm hret hlk e0
  have N0 := Fr.nil n0
  have K0 := Keep.refl h0 []
  refine OwnK.iloadN X0 hx (hb hby own_d6_0) (pc' := 1) rfl (v := p1) rfl ?_
  refine OwnK.bipush X0 hx (hb hby own_d6_1) (pc' := 3) rfl (v := (-128 : Int32)) (by decide) ?_
  refine OwnK.icmp_lt X0 hx (hb hby own_d6_3) (by decide) (pcT := 23) (by decide) (pc' := 6) rfl (fun (hc1 : p1.toInt < (-128)) => ?_) (fun (hc1 : (-128) ≤ p1.toInt) => ?_)
  · refine OwnK.new_ X0 hx hZ hown (hw _ (List.mem_of_getElem? (i := 43) rfl)) (hw _ (List.mem_of_getElem? (i := 44) rfl)) (hw _ (List.mem_of_getElem? (i := 27) rfl)) e0 (hb hby own_d6_23) (pc' := 26) rfl (by decide) (by decide) (fun T2 h2 a2 X2 e2 g2 E2 A2 D2 => ?_)
    have q3 : aC ≠ a2 := Nat.ne_of_lt (Nat.lt_of_lt_of_le (AC.ext O0.2).lt (Nat.le_of_eq g2.symm))
    have ge_a2 : n0 ≤ a2 := Nat.le_trans Z0 (Nat.le_of_eq g2.symm)
    have sz_a2 : h0.size ≤ a2 := Nat.le_trans K0.1 (Nat.le_of_eq g2.symm)
    have z4 : n0 ≤ h2.size := Nat.le_trans Z0 E2.1
    have K5 := K0.ext E2
    have f6 := (AC.ext O0.2).ext E2
    have O7 := O0.ext E2
    have f8 : Fld Z h2 a2 "java/lang/Integer" "value" "I" (.int (0 : Int32)) := D2 (Or.inr (hw _ (List.mem_of_getElem? (i := 59) rfl))) (ty := .int) (by decide)
    refine OwnK.dup X2 hx (hb hby own_d6_26) (pc' := 27) rfl rfl ?_
    refine OwnK.iloadN X2 hx (hb hby own_d6_27) (pc' := 28) rfl (v := p1) rfl ?_
    refine OwnK.callI_ X2 hx hZ hown (y := (⟨"java/lang/Integer", "<init>", "(I)V"⟩ : MethodName)) (a := a2) rfl (hw _ (List.mem_of_getElem? (i := 45) rfl)) (hw _ (List.mem_of_getElem? (i := 46) rfl)) (hw _ (List.mem_of_getElem? (i := 27) rfl)) (hw _ (List.mem_of_getElem? (i := 48) rfl)) rfl (by decide) (own_met9 l Z a0 hw h2 n0 z4 a2 p1   ge_a2 f8 A2 ) (by decide) (W := 1) (by decide) e2 (by rw [hml]; rfl) own_pd_2 (argsL := [(.int p1)]) rfl (S := [(.ref a2)]) rfl (Nat.le_of_eq rfl) (hb hby own_d6_28) (pc' := 31) rfl (by decide) (by decide) (fun T9 v9 L9 X9 hQ9 => ?_)
    obtain ⟨rfl, N9q, K9, E9q⟩ := hQ9
    have N10 := Fr.app N0 N9q
    have f11 := f6.keep K9 (ninS q3 nin0)
    have f12 := A2.keep K9
    have z13 : n0 ≤ T9.heap.size := Nat.le_trans z4 K9.1
    have O14 := O7.keep K9 (allS ge_a2 all0)
    have K15 := K5.trans K9 (allS (Or.inr sz_a2) all0)
    refine OwnK.retA_ X9 hx hret rfl rfl hlk (hb hby own_d6_31) (by decide) (by decide) ?_
    exact ⟨_, rfl, N10, K15, E9q⟩
  · refine OwnK.iloadN X0 hx (hb hby own_d6_6) (pc' := 7) rfl (v := p1) rfl ?_
    refine OwnK.getS_ X0 hx hZ hown (host := "") (Or.inl (hw _ (List.mem_of_getElem? (i := 29) rfl))) Via.refl e0 (SH.ext O0.2) (hb hby own_d6_7) (pc' := 10) rfl (fun T16 X16 e16 => ?_)
    refine OwnK.icmp_gt X16 hx (hb hby own_d6_10) (by decide) (pcT := 23) (by decide) (pc' := 13) rfl (fun (hc17 : 127 < p1.toInt) => ?_) (fun (hc17 : p1.toInt ≤ 127) => ?_)
    · refine OwnK.new_ X16 hx hZ hown (hw _ (List.mem_of_getElem? (i := 43) rfl)) (hw _ (List.mem_of_getElem? (i := 44) rfl)) (hw _ (List.mem_of_getElem? (i := 27) rfl)) e16 (hb hby own_d6_23) (pc' := 26) rfl (by decide) (by decide) (fun T18 h18 a18 X18 e18 g18 E18 A18 D18 => ?_)
      have q19 : aC ≠ a18 := Nat.ne_of_lt (Nat.lt_of_lt_of_le (AC.ext O0.2).lt (Nat.le_of_eq g18.symm))
      have ge_a18 : n0 ≤ a18 := Nat.le_trans Z0 (Nat.le_of_eq g18.symm)
      have sz_a18 : h0.size ≤ a18 := Nat.le_trans K0.1 (Nat.le_of_eq g18.symm)
      have z20 : n0 ≤ h18.size := Nat.le_trans Z0 E18.1
      have K21 := K0.ext E18
      have f22 := (AC.ext O0.2).ext E18
      have O23 := O0.ext E18
      have f24 : Fld Z h18 a18 "java/lang/Integer" "value" "I" (.int (0 : Int32)) := D18 (Or.inr (hw _ (List.mem_of_getElem? (i := 59) rfl))) (ty := .int) (by decide)
      refine OwnK.dup X18 hx (hb hby own_d6_26) (pc' := 27) rfl rfl ?_
      refine OwnK.iloadN X18 hx (hb hby own_d6_27) (pc' := 28) rfl (v := p1) rfl ?_
      refine OwnK.callI_ X18 hx hZ hown (y := (⟨"java/lang/Integer", "<init>", "(I)V"⟩ : MethodName)) (a := a18) rfl (hw _ (List.mem_of_getElem? (i := 45) rfl)) (hw _ (List.mem_of_getElem? (i := 46) rfl)) (hw _ (List.mem_of_getElem? (i := 27) rfl)) (hw _ (List.mem_of_getElem? (i := 48) rfl)) rfl (by decide) (own_met9 l Z a0 hw h18 n0 z20 a18 p1   ge_a18 f24 A18 ) (by decide) (W := 1) (by decide) e18 (by rw [hml]; rfl) own_pd_2 (argsL := [(.int p1)]) rfl (S := [(.ref a18)]) rfl (Nat.le_of_eq rfl) (hb hby own_d6_28) (pc' := 31) rfl (by decide) (by decide) (fun T25 v25 L25 X25 hQ25 => ?_)
      obtain ⟨rfl, N25q, K25, E25q⟩ := hQ25
      have N26 := Fr.app N0 N25q
      have f27 := f22.keep K25 (ninS q19 nin0)
      have f28 := A18.keep K25
      have z29 : n0 ≤ T25.heap.size := Nat.le_trans z20 K25.1
      have O30 := O23.keep K25 (allS ge_a18 all0)
      have K31 := K21.trans K25 (allS (Or.inr sz_a18) all0)
      refine OwnK.retA_ X25 hx hret rfl rfl hlk (hb hby own_d6_31) (by decide) (by decide) ?_
      exact ⟨_, rfl, N26, K31, E25q⟩
    · refine OwnK.getS_ X16 hx hZ hown (host := "") (Or.inl (hw _ (List.mem_of_getElem? (i := 31) rfl))) Via.refl e16 (SC.ext O0.2) (hb hby own_d6_13) (pc' := 16) rfl (fun T32 X32 e32 => ?_)
      refine OwnK.iloadN X32 hx (hb hby own_d6_16) (pc' := 17) rfl (v := p1) rfl ?_
      refine OwnK.sipush X32 hx (hb hby own_d6_17) (pc' := 20) rfl (v := (128 : Int32)) (by decide) ?_
      refine OwnK.iadd X32 hx (hb hby own_d6_20) (pc' := 21) rfl ?_
      have hj := own_add128 (p := p1) (by omega) (by omega)
      have hjn : (p1 + (128 : Int32)).toNatClampNeg < 256 := by have := OwnK.jnat (j := p1 + (128 : Int32)) (i := (p1.toInt + 128).toNat) (by omega); omega
      obtain ⟨r, hr, Er⟩ := CE _ hjn
      refine OwnK.aaload X32 hx hZ e32 (AC.ext O0.2) rfl (by omega) (by show _ < (256 : Int); omega) (v := (.ref r)) hr (hb hby own_d6_21) (pc' := 22) rfl ?_
      refine OwnK.retA_ X32 hx hret rfl rfl hlk (hb hby own_d6_22) (by decide) (by decide) ?_
      rw [show T32.heap = h0 from e32]
      exact ⟨_, rfl, N0, K0, (Er.ext O0.2)⟩
def own_Qmet4 (h0 : Heap) (p1 : Int32) (p2 : Int32) (p3 : Int32) (v : Option Value) (h : Heap) (L : List Loc) : Prop := v = some (.int (if p2.toInt ≤ p1.toInt ∧ p1.toInt < p2.toInt + p3.toInt then 1 else 0)) ∧ h = h0 ∧ L = []
set_option maxRecDepth 65536 in
set_option maxHeartbeats 40000000 in
theorem own_met4 (l : Launch) (Z : State) (a0 : Array Value) (hw : ∀ d ∈ tables_1, d.before a0 Z = true) (h0 : Heap) (p1 : Int32) (p2 : Int32) (p3 : Int32)  (hk : 0 ≤ p1.toInt ∧ p1.toInt < 4) (ht : 0 ≤ p2.toInt ∧ p2.toInt ≤ 4) (hl : 0 ≤ p3.toInt ∧ p3.toInt ≤ 4) :
    MetFree l (⟨"com/example/redbark/redbark/KeyArraysCopyPinLaw", "inRange", "(III)Z"⟩ : MethodName) (head1 [Jvm.Cond.code (⟨"com/example/redbark/redbark/KeyArraysCopyPinLaw", "inRange", "(III)Z"⟩ : MethodName) method_4_code 3 (some .boolean)] ({ frames := 0, cells := 0, slots := 0, locals := 0 } : Room)) (fun a U => a = #[(.int p1), (.int p2), (.int p3)] ∧ Z.Warmed39 U.vm ∧ U.heap = h0) (fun _ _ _ _ _ => True) (fun _ U o U' => ∃ v L, o = .returned v ∧ (own_Qmet4 h0 p1 p2 p3 ) v U'.heap L ∧ FrameEnd U o U' L ({ frames := 0, cells := 0, slots := 0, locals := 0 } : Room).cells ({ frames := 0, cells := 0, slots := 0, locals := 0 } : Room).slots) := by
  refine OwnK.met (Q := (own_Qmet4 h0 p1 p2 p3 )) (C := ({ frames := 0, cells := 0, slots := 0, locals := 0 } : Room).cells) (N := ({ frames := 0, cells := 0, slots := 0, locals := 0 } : Room).slots) own_pl_4 (own_ef_4 p1 p2 p3) ?_
  intro p e s m below meth c T0 X0 hx hZ hby hml hown hnm hret hlk e0
  have ha := own_add4 ht hl
  refine OwnK.iloadN X0 hx (hb hby own_d4_0) (pc' := 1) rfl (v := p1) rfl ?_
  refine OwnK.iloadN X0 hx (hb hby own_d4_1) (pc' := 2) rfl (v := p2) rfl ?_
  refine OwnK.icmp_lt X0 hx (hb hby own_d4_2) (by decide) (pcT := 16) (by decide) (pc' := 5) rfl (fun (hc1 : p1.toInt < p2.toInt) => ?_) (fun (hc1 : p2.toInt ≤ p1.toInt) => ?_)
  · refine OwnK.iconst X0 hx (hb hby own_d4_16) (pc' := 17) rfl (v := (0 : Int32)) (by decide) ?_
    refine OwnK.retN_ X0 hx hret (by simp) hlk (hb hby own_d4_17) (by decide) (by decide) ?_
    exact ⟨by first | rw [if_pos (by omega), own_nar1] | rw [if_neg (by omega), own_nar0], e0, rfl⟩
  · refine OwnK.iloadN X0 hx (hb hby own_d4_5) (pc' := 6) rfl (v := p1) rfl ?_
    refine OwnK.iloadN X0 hx (hb hby own_d4_6) (pc' := 7) rfl (v := p2) rfl ?_
    refine OwnK.iloadN X0 hx (hb hby own_d4_7) (pc' := 8) rfl (v := p3) rfl ?_
    refine OwnK.iadd X0 hx (hb hby own_d4_8) (pc' := 9) rfl ?_
    refine OwnK.icmp_ge X0 hx (hb hby own_d4_9) (by decide) (pcT := 16) (by decide) (pc' := 12) rfl (fun (hc2 : (p2 + p3).toInt ≤ p1.toInt) => ?_) (fun (hc2 : p1.toInt < (p2 + p3).toInt) => ?_)
    · refine OwnK.iconst X0 hx (hb hby own_d4_16) (pc' := 17) rfl (v := (0 : Int32)) (by decide) ?_
      refine OwnK.retN_ X0 hx hret (by simp) hlk (hb hby own_d4_17) (by decide) (by decide) ?_
      exact ⟨by first | rw [if_pos (by omega), own_nar1] | rw [if_neg (by omega), own_nar0], e0, rfl⟩
    · refine OwnK.iconst X0 hx (hb hby own_d4_12) (pc' := 13) rfl (v := (1 : Int32)) (by decide) ?_
      refine OwnK.goto_ X0 hx (hb hby own_d4_13) (by decide) (pc' := 17) (by decide) ?_
      refine OwnK.retN_ X0 hx hret (by simp) hlk (hb hby own_d4_17) (by decide) (by decide) ?_
      exact ⟨by first | rw [if_pos (by omega), own_nar1] | rw [if_neg (by omega), own_nar0], e0, rfl⟩
def own_Qmet5 (h0 : Heap) (p1 : Int32) (p2 : Int32) (p3 : Int32) (p4 : Int32) (p5 : Int32) (v : Option Value) (h : Heap) (L : List Loc) : Prop := v = some (.int (own_at p1.toInt p2 p3 p4 p5)) ∧ h = h0 ∧ L = []
set_option maxRecDepth 65536 in
set_option maxHeartbeats 40000000 in
theorem own_met5 (l : Launch) (Z : State) (a0 : Array Value) (hw : ∀ d ∈ tables_1, d.before a0 Z = true) (h0 : Heap) (p1 : Int32) (p2 : Int32) (p3 : Int32) (p4 : Int32) (p5 : Int32)  :
    MetFree l (⟨"com/example/redbark/redbark/KeyArraysCopyPinLaw", "atI", "(IIIII)I"⟩ : MethodName) (head1 [Jvm.Cond.code (⟨"com/example/redbark/redbark/KeyArraysCopyPinLaw", "atI", "(IIIII)I"⟩ : MethodName) method_2_code 5 (some .int)] ({ frames := 0, cells := 0, slots := 0, locals := 0 } : Room)) (fun a U => a = #[(.int p1), (.int p2), (.int p3), (.int p4), (.int p5)] ∧ Z.Warmed39 U.vm ∧ U.heap = h0) (fun _ _ _ _ _ => True) (fun _ U o U' => ∃ v L, o = .returned v ∧ (own_Qmet5 h0 p1 p2 p3 p4 p5 ) v U'.heap L ∧ FrameEnd U o U' L ({ frames := 0, cells := 0, slots := 0, locals := 0 } : Room).cells ({ frames := 0, cells := 0, slots := 0, locals := 0 } : Room).slots) := by
  refine OwnK.met (Q := (own_Qmet5 h0 p1 p2 p3 p4 p5 )) (C := ({ frames := 0, cells := 0, slots := 0, locals := 0 } : Room).cells) (N := ({ frames := 0, cells := 0, slots := 0, locals := 0 } : Room).slots) own_pl_5 (own_ef_5 p1 p2 p3 p4 p5) ?_
  intro p e s m below meth c T0 X0 hx hZ hby hml hown hnm hret hlk e0
  refine OwnK.iloadN X0 hx (hb hby own_d5_0) (pc' := 1) rfl (v := p1) rfl ?_
  refine OwnK.if_ne X0 hx (hb hby own_d5_1) (by decide) (pcT := 6) (by decide) (pc' := 4) rfl (fun (hc1 : ¬ p1.toInt = 0) => ?_) (fun (hc1 : p1.toInt = 0) => ?_)
  · refine OwnK.iloadN X0 hx (hb hby own_d5_6) (pc' := 7) rfl (v := p1) rfl ?_
    refine OwnK.iconst X0 hx (hb hby own_d5_7) (pc' := 8) rfl (v := (1 : Int32)) (by decide) ?_
    refine OwnK.icmp_ne X0 hx (hb hby own_d5_8) (by decide) (pcT := 13) (by decide) (pc' := 11) rfl (fun (hc2 : ¬ p1.toInt = 1) => ?_) (fun (hc2 : p1.toInt = 1) => ?_)
    · refine OwnK.iloadN X0 hx (hb hby own_d5_13) (pc' := 14) rfl (v := p1) rfl ?_
      refine OwnK.iconst X0 hx (hb hby own_d5_14) (pc' := 15) rfl (v := (2 : Int32)) (by decide) ?_
      refine OwnK.icmp_ne X0 hx (hb hby own_d5_15) (by decide) (pcT := 20) (by decide) (pc' := 18) rfl (fun (hc3 : ¬ p1.toInt = 2) => ?_) (fun (hc3 : p1.toInt = 2) => ?_)
      · refine OwnK.iload X0 hx (hb hby own_d5_20) (pc' := 22) rfl (v := p5) rfl ?_
        refine OwnK.retI_ X0 hx hret hlk (hb hby own_d5_22) (by decide) (by decide) ?_
        exact ⟨by unfold own_at; simp_all, e0, rfl⟩
      · refine OwnK.iloadN X0 hx (hb hby own_d5_18) (pc' := 19) rfl (v := p4) rfl ?_
        refine OwnK.retI_ X0 hx hret hlk (hb hby own_d5_19) (by decide) (by decide) ?_
        exact ⟨by unfold own_at; simp_all, e0, rfl⟩
    · refine OwnK.iloadN X0 hx (hb hby own_d5_11) (pc' := 12) rfl (v := p3) rfl ?_
      refine OwnK.retI_ X0 hx hret hlk (hb hby own_d5_12) (by decide) (by decide) ?_
      exact ⟨by unfold own_at; simp_all, e0, rfl⟩
  · refine OwnK.iloadN X0 hx (hb hby own_d5_4) (pc' := 5) rfl (v := p2) rfl ?_
    refine OwnK.retI_ X0 hx hret hlk (hb hby own_d5_5) (by decide) (by decide) ?_
    exact ⟨by unfold own_at; simp_all, e0, rfl⟩
def own_Qmet8 (h0 : Heap) (p1 : Int32) (p2 : Addr) (p3 : Addr) (p4 : Addr) (p5 : Addr) (v : Option Value) (h : Heap) (L : List Loc) : Prop := v = some (.ref (own_at p1.toInt p2 p3 p4 p5)) ∧ h = h0 ∧ L = []
set_option maxRecDepth 65536 in
set_option maxHeartbeats 40000000 in
theorem own_met8 (l : Launch) (Z : State) (a0 : Array Value) (hw : ∀ d ∈ tables_1, d.before a0 Z = true) (h0 : Heap) (p1 : Int32) (p2 : Addr) (p3 : Addr) (p4 : Addr) (p5 : Addr)  :
    MetFree l (⟨"com/example/redbark/redbark/KeyArraysCopyPinLaw", "atO", "(ILjava/lang/Object;Ljava/lang/Object;Ljava/lang/Object;Ljava/lang/Object;)Ljava/lang/Object;"⟩ : MethodName) (head1 [Jvm.Cond.code (⟨"com/example/redbark/redbark/KeyArraysCopyPinLaw", "atO", "(ILjava/lang/Object;Ljava/lang/Object;Ljava/lang/Object;Ljava/lang/Object;)Ljava/lang/Object;"⟩ : MethodName) method_3_code 5 (some (.object "java/lang/Object"))] ({ frames := 0, cells := 0, slots := 0, locals := 0 } : Room)) (fun a U => a = #[(.int p1), (.ref p2), (.ref p3), (.ref p4), (.ref p5)] ∧ Z.Warmed39 U.vm ∧ U.heap = h0) (fun _ _ _ _ _ => True) (fun _ U o U' => ∃ v L, o = .returned v ∧ (own_Qmet8 h0 p1 p2 p3 p4 p5 ) v U'.heap L ∧ FrameEnd U o U' L ({ frames := 0, cells := 0, slots := 0, locals := 0 } : Room).cells ({ frames := 0, cells := 0, slots := 0, locals := 0 } : Room).slots) := by
  refine OwnK.met (Q := (own_Qmet8 h0 p1 p2 p3 p4 p5 )) (C := ({ frames := 0, cells := 0, slots := 0, locals := 0 } : Room).cells) (N := ({ frames := 0, cells := 0, slots := 0, locals := 0 } : Room).slots) own_pl_8 (own_ef_8 p1 p2 p3 p4 p5) ?_
  intro p e s m below meth c T0 X0 hx hZ hby hml hown hnm hret hlk e0
  refine OwnK.iloadN X0 hx (hb hby own_d8_0) (pc' := 1) rfl (v := p1) rfl ?_
  refine OwnK.if_ne X0 hx (hb hby own_d8_1) (by decide) (pcT := 6) (by decide) (pc' := 4) rfl (fun (hc1 : ¬ p1.toInt = 0) => ?_) (fun (hc1 : p1.toInt = 0) => ?_)
  · refine OwnK.iloadN X0 hx (hb hby own_d8_6) (pc' := 7) rfl (v := p1) rfl ?_
    refine OwnK.iconst X0 hx (hb hby own_d8_7) (pc' := 8) rfl (v := (1 : Int32)) (by decide) ?_
    refine OwnK.icmp_ne X0 hx (hb hby own_d8_8) (by decide) (pcT := 13) (by decide) (pc' := 11) rfl (fun (hc2 : ¬ p1.toInt = 1) => ?_) (fun (hc2 : p1.toInt = 1) => ?_)
    · refine OwnK.iloadN X0 hx (hb hby own_d8_13) (pc' := 14) rfl (v := p1) rfl ?_
      refine OwnK.iconst X0 hx (hb hby own_d8_14) (pc' := 15) rfl (v := (2 : Int32)) (by decide) ?_
      refine OwnK.icmp_ne X0 hx (hb hby own_d8_15) (by decide) (pcT := 20) (by decide) (pc' := 18) rfl (fun (hc3 : ¬ p1.toInt = 2) => ?_) (fun (hc3 : p1.toInt = 2) => ?_)
      · refine OwnK.aload X0 hx (hb hby own_d8_20) (pc' := 22) rfl (v := (.ref p5)) rfl rfl ?_
        refine OwnK.retA_ X0 hx hret rfl rfl hlk (hb hby own_d8_22) (by decide) (by decide) ?_
        exact ⟨by unfold own_at; simp_all, e0, rfl⟩
      · refine OwnK.aloadN X0 hx (hb hby own_d8_18) (pc' := 19) rfl (v := (.ref p4)) rfl rfl ?_
        refine OwnK.retA_ X0 hx hret rfl rfl hlk (hb hby own_d8_19) (by decide) (by decide) ?_
        exact ⟨by unfold own_at; simp_all, e0, rfl⟩
    · refine OwnK.aloadN X0 hx (hb hby own_d8_11) (pc' := 12) rfl (v := (.ref p3)) rfl rfl ?_
      refine OwnK.retA_ X0 hx hret rfl rfl hlk (hb hby own_d8_12) (by decide) (by decide) ?_
      exact ⟨by unfold own_at; simp_all, e0, rfl⟩
  · refine OwnK.aloadN X0 hx (hb hby own_d8_4) (pc' := 5) rfl (v := (.ref p2)) rfl rfl ?_
    refine OwnK.retA_ X0 hx hret rfl rfl hlk (hb hby own_d8_5) (by decide) (by decide) ?_
    exact ⟨by unfold own_at; simp_all, e0, rfl⟩
def own_Qmet3 (h0 : Heap) (p1 : Int32) (p2 : Int32) (p3 : Int32) (p4 : Int32) (p5 : Int32) (p6 : Int32) (p7 : Int32) (p8 : Int32) (p9 : Int32) (p10 : Int32) (p11 : Int32) (p12 : Int32) (v : Option Value) (h : Heap) (L : List Loc) : Prop := v = some (.int (own_exp p1.toInt p2.toInt p3.toInt p4.toInt p5 p6 p7 p8 p9 p10 p11 p12)) ∧ h = h0 ∧ L = []
set_option maxRecDepth 65536 in
set_option maxHeartbeats 40000000 in
theorem own_met3 (l : Launch) (Z : State) (a0 : Array Value) (hw : ∀ d ∈ tables_1, d.before a0 Z = true) (h0 : Heap) (p1 : Int32) (p2 : Int32) (p3 : Int32) (p4 : Int32) (p5 : Int32) (p6 : Int32) (p7 : Int32) (p8 : Int32) (p9 : Int32) (p10 : Int32) (p11 : Int32) (p12 : Int32)  (hk : 0 ≤ p1.toInt ∧ p1.toInt < 4) (hf : 0 ≤ p2.toInt ∧ p2.toInt ≤ 4) (ht : 0 ≤ p3.toInt ∧ p3.toInt ≤ 4) (hl : 0 ≤ p4.toInt ∧ p4.toInt ≤ 4) :
    MetFree l (⟨"com/example/redbark/redbark/KeyArraysCopyPinLaw", "expI", "(IIIIIIIIIIII)I"⟩ : MethodName) (head1 [Jvm.Cond.code (⟨"com/example/redbark/redbark/KeyArraysCopyPinLaw", "expI", "(IIIIIIIIIIII)I"⟩ : MethodName) method_5_code 12 (some .int)] ({ frames := 1, cells := 0, slots := 0, locals := 16 } : Room)) (fun a U => a = #[(.int p1), (.int p2), (.int p3), (.int p4), (.int p5), (.int p6), (.int p7), (.int p8), (.int p9), (.int p10), (.int p11), (.int p12)] ∧ Z.Warmed39 U.vm ∧ U.heap = h0) (fun _ _ _ _ _ => True) (fun _ U o U' => ∃ v L, o = .returned v ∧ (own_Qmet3 h0 p1 p2 p3 p4 p5 p6 p7 p8 p9 p10 p11 p12 ) v U'.heap L ∧ FrameEnd U o U' L ({ frames := 1, cells := 0, slots := 0, locals := 16 } : Room).cells ({ frames := 1, cells := 0, slots := 0, locals := 16 } : Room).slots) := by
  refine OwnK.met (Q := (own_Qmet3 h0 p1 p2 p3 p4 p5 p6 p7 p8 p9 p10 p11 p12 )) (C := ({ frames := 1, cells := 0, slots := 0, locals := 16 } : Room).cells) (N := ({ frames := 1, cells := 0, slots := 0, locals := 16 } : Room).slots) own_pl_3 (own_ef_3 p1 p2 p3 p4 p5 p6 p7 p8 p9 p10 p11 p12) ?_
  intro p e s m below meth c T0 X0 hx hZ hby hml hown hnm hret hlk e0
  refine OwnK.iloadN X0 hx (hb hby own_d3_0) (pc' := 1) rfl (v := p1) rfl ?_
  refine OwnK.iloadN X0 hx (hb hby own_d3_1) (pc' := 2) rfl (v := p3) rfl ?_
  refine OwnK.iloadN X0 hx (hb hby own_d3_2) (pc' := 3) rfl (v := p4) rfl ?_
  refine OwnK.callS_ X0 hx hZ hown (y := (⟨"com/example/redbark/redbark/KeyArraysCopyPinLaw", "inRange", "(III)Z"⟩ : MethodName)) (hw _ (List.mem_of_getElem? (i := 19) rfl)) (hw _ (List.mem_of_getElem? (i := 20) rfl)) (hw _ (List.mem_of_getElem? (i := 17) rfl)) (hw _ (List.mem_of_getElem? (i := 21) rfl)) (by decide) (own_met4 l Z a0 hw h0 p1 p3 p4 hk ht hl ) (by decide) (W := 0) (by decide) e0 (by rw [hml]; rfl) own_pd_4 (argsL := [(.int p1), (.int p3), (.int p4)]) rfl (S := []) rfl (Nat.le_of_eq rfl) (hb hby own_d3_3) (pc' := 6) rfl (by decide) (by decide) (fun T1 v1 L1 X1 hQ1 => ?_)
  obtain ⟨hv1, e1, rfl⟩ := hQ1
  by_cases hc1 : p3.toInt ≤ p1.toInt ∧ p1.toInt < p3.toInt + p4.toInt
  · obtain rfl : v1 = some (.int (1 : Int32)) := hv1.trans (by rw [if_pos hc1])
    refine OwnK.if_eq X1 hx (hb hby own_d3_6) (by decide) (pcT := 26) (by decide) (pc' := 9) rfl (fun (hc6 : 1 = 0) => absurd hc6 (by decide)) (fun hc6 => ?_)
    refine OwnK.iloadN X1 hx (hb hby own_d3_9) (pc' := 10) rfl (v := p2) rfl ?_
    refine OwnK.iloadN X1 hx (hb hby own_d3_10) (pc' := 11) rfl (v := p1) rfl ?_
    refine OwnK.iadd X1 hx (hb hby own_d3_11) (pc' := 12) rfl ?_
    refine OwnK.iloadN X1 hx (hb hby own_d3_12) (pc' := 13) rfl (v := p3) rfl ?_
    refine OwnK.isub X1 hx (hb hby own_d3_13) (pc' := 14) rfl ?_
    refine OwnK.iload X1 hx (hb hby own_d3_14) (pc' := 16) rfl (v := p5) rfl ?_
    refine OwnK.iload X1 hx (hb hby own_d3_16) (pc' := 18) rfl (v := p6) rfl ?_
    refine OwnK.iload X1 hx (hb hby own_d3_18) (pc' := 20) rfl (v := p7) rfl ?_
    refine OwnK.iload X1 hx (hb hby own_d3_20) (pc' := 22) rfl (v := p8) rfl ?_
    refine OwnK.callS_ X1 hx hZ hown (y := (⟨"com/example/redbark/redbark/KeyArraysCopyPinLaw", "atI", "(IIIII)I"⟩ : MethodName)) (hw _ (List.mem_of_getElem? (i := 22) rfl)) (hw _ (List.mem_of_getElem? (i := 23) rfl)) (hw _ (List.mem_of_getElem? (i := 17) rfl)) (hw _ (List.mem_of_getElem? (i := 24) rfl)) (by decide) (own_met5 l Z a0 hw h0 ((p2 + p1) - p3) p5 p6 p7 p8  ) (by decide) (W := 0) (by decide) e1 (by rw [hml]; rfl) own_pd_5 (argsL := [(.int ((p2 + p1) - p3)), (.int p5), (.int p6), (.int p7), (.int p8)]) rfl (S := []) rfl (Nat.le_of_eq rfl) (hb hby own_d3_22) (pc' := 25) rfl (by decide) (by decide) (fun T2 v2 L2 X2 hQ2 => ?_)
    obtain ⟨rfl, e2, rfl⟩ := hQ2
    refine OwnK.retI_ X2 hx hret hlk (hb hby own_d3_25) (by decide) (by decide) ?_
    exact ⟨by unfold own_exp; rw [if_pos hc1, own_idx hk hf ht hc1], e2, rfl⟩
  · obtain rfl : v1 = some (.int (0 : Int32)) := hv1.trans (by rw [if_neg hc1])
    refine OwnK.if_eq X1 hx (hb hby own_d3_6) (by decide) (pcT := 26) (by decide) (pc' := 9) rfl (fun hc6 => ?_) (fun (hc6 : ¬ 0 = 0) => absurd hc6 (by decide))
    refine OwnK.iloadN X1 hx (hb hby own_d3_26) (pc' := 27) rfl (v := p1) rfl ?_
    refine OwnK.iload X1 hx (hb hby own_d3_27) (pc' := 29) rfl (v := p9) rfl ?_
    refine OwnK.iload X1 hx (hb hby own_d3_29) (pc' := 31) rfl (v := p10) rfl ?_
    refine OwnK.iload X1 hx (hb hby own_d3_31) (pc' := 33) rfl (v := p11) rfl ?_
    refine OwnK.iload X1 hx (hb hby own_d3_33) (pc' := 35) rfl (v := p12) rfl ?_
    refine OwnK.callS_ X1 hx hZ hown (y := (⟨"com/example/redbark/redbark/KeyArraysCopyPinLaw", "atI", "(IIIII)I"⟩ : MethodName)) (hw _ (List.mem_of_getElem? (i := 22) rfl)) (hw _ (List.mem_of_getElem? (i := 23) rfl)) (hw _ (List.mem_of_getElem? (i := 17) rfl)) (hw _ (List.mem_of_getElem? (i := 24) rfl)) (by decide) (own_met5 l Z a0 hw h0 p1 p9 p10 p11 p12  ) (by decide) (W := 0) (by decide) e1 (by rw [hml]; rfl) own_pd_5 (argsL := [(.int p1), (.int p9), (.int p10), (.int p11), (.int p12)]) rfl (S := []) rfl (Nat.le_of_eq rfl) (hb hby own_d3_35) (pc' := 38) rfl (by decide) (by decide) (fun T4 v4 L4 X4 hQ4 => ?_)
    obtain ⟨rfl, e4, rfl⟩ := hQ4
    refine OwnK.retI_ X4 hx hret hlk (hb hby own_d3_38) (by decide) (by decide) ?_
    exact ⟨by unfold own_exp; rw [if_neg hc1], e4, rfl⟩
def own_Qmet7 (h0 : Heap) (p1 : Int32) (p2 : Int32) (p3 : Int32) (p4 : Int32) (p5 : Addr) (p6 : Addr) (p7 : Addr) (p8 : Addr) (p9 : Addr) (p10 : Addr) (p11 : Addr) (p12 : Addr) (v : Option Value) (h : Heap) (L : List Loc) : Prop := v = some (.ref (own_exp p1.toInt p2.toInt p3.toInt p4.toInt p5 p6 p7 p8 p9 p10 p11 p12)) ∧ h = h0 ∧ L = []
set_option maxRecDepth 65536 in
set_option maxHeartbeats 40000000 in
theorem own_met7 (l : Launch) (Z : State) (a0 : Array Value) (hw : ∀ d ∈ tables_1, d.before a0 Z = true) (h0 : Heap) (p1 : Int32) (p2 : Int32) (p3 : Int32) (p4 : Int32) (p5 : Addr) (p6 : Addr) (p7 : Addr) (p8 : Addr) (p9 : Addr) (p10 : Addr) (p11 : Addr) (p12 : Addr)  (hk : 0 ≤ p1.toInt ∧ p1.toInt < 4) (hf : 0 ≤ p2.toInt ∧ p2.toInt ≤ 4) (ht : 0 ≤ p3.toInt ∧ p3.toInt ≤ 4) (hl : 0 ≤ p4.toInt ∧ p4.toInt ≤ 4) :
    MetFree l (⟨"com/example/redbark/redbark/KeyArraysCopyPinLaw", "expO", "(IIIILjava/lang/Object;Ljava/lang/Object;Ljava/lang/Object;Ljava/lang/Object;Ljava/lang/Object;Ljava/lang/Object;Ljava/lang/Object;Ljava/lang/Object;)Ljava/lang/Object;"⟩ : MethodName) (head1 [Jvm.Cond.code (⟨"com/example/redbark/redbark/KeyArraysCopyPinLaw", "expO", "(IIIILjava/lang/Object;Ljava/lang/Object;Ljava/lang/Object;Ljava/lang/Object;Ljava/lang/Object;Ljava/lang/Object;Ljava/lang/Object;Ljava/lang/Object;)Ljava/lang/Object;"⟩ : MethodName) method_6_code 12 (some (.object "java/lang/Object"))] ({ frames := 1, cells := 0, slots := 0, locals := 16 } : Room)) (fun a U => a = #[(.int p1), (.int p2), (.int p3), (.int p4), (.ref p5), (.ref p6), (.ref p7), (.ref p8), (.ref p9), (.ref p10), (.ref p11), (.ref p12)] ∧ Z.Warmed39 U.vm ∧ U.heap = h0) (fun _ _ _ _ _ => True) (fun _ U o U' => ∃ v L, o = .returned v ∧ (own_Qmet7 h0 p1 p2 p3 p4 p5 p6 p7 p8 p9 p10 p11 p12 ) v U'.heap L ∧ FrameEnd U o U' L ({ frames := 1, cells := 0, slots := 0, locals := 16 } : Room).cells ({ frames := 1, cells := 0, slots := 0, locals := 16 } : Room).slots) := by
  refine OwnK.met (Q := (own_Qmet7 h0 p1 p2 p3 p4 p5 p6 p7 p8 p9 p10 p11 p12 )) (C := ({ frames := 1, cells := 0, slots := 0, locals := 16 } : Room).cells) (N := ({ frames := 1, cells := 0, slots := 0, locals := 16 } : Room).slots) own_pl_7 (own_ef_7 p1 p2 p3 p4 p5 p6 p7 p8 p9 p10 p11 p12) ?_
  intro p e s m below meth c T0 X0 hx hZ hby hml hown hnm hret hlk e0
  refine OwnK.iloadN X0 hx (hb hby own_d7_0) (pc' := 1) rfl (v := p1) rfl ?_
  refine OwnK.iloadN X0 hx (hb hby own_d7_1) (pc' := 2) rfl (v := p3) rfl ?_
  refine OwnK.iloadN X0 hx (hb hby own_d7_2) (pc' := 3) rfl (v := p4) rfl ?_
  refine OwnK.callS_ X0 hx hZ hown (y := (⟨"com/example/redbark/redbark/KeyArraysCopyPinLaw", "inRange", "(III)Z"⟩ : MethodName)) (hw _ (List.mem_of_getElem? (i := 19) rfl)) (hw _ (List.mem_of_getElem? (i := 20) rfl)) (hw _ (List.mem_of_getElem? (i := 17) rfl)) (hw _ (List.mem_of_getElem? (i := 21) rfl)) (by decide) (own_met4 l Z a0 hw h0 p1 p3 p4 hk ht hl ) (by decide) (W := 0) (by decide) e0 (by rw [hml]; rfl) own_pd_4 (argsL := [(.int p1), (.int p3), (.int p4)]) rfl (S := []) rfl (Nat.le_of_eq rfl) (hb hby own_d7_3) (pc' := 6) rfl (by decide) (by decide) (fun T1 v1 L1 X1 hQ1 => ?_)
  obtain ⟨hv1, e1, rfl⟩ := hQ1
  by_cases hc1 : p3.toInt ≤ p1.toInt ∧ p1.toInt < p3.toInt + p4.toInt
  · obtain rfl : v1 = some (.int (1 : Int32)) := hv1.trans (by rw [if_pos hc1])
    refine OwnK.if_eq X1 hx (hb hby own_d7_6) (by decide) (pcT := 26) (by decide) (pc' := 9) rfl (fun (hc6 : 1 = 0) => absurd hc6 (by decide)) (fun hc6 => ?_)
    refine OwnK.iloadN X1 hx (hb hby own_d7_9) (pc' := 10) rfl (v := p2) rfl ?_
    refine OwnK.iloadN X1 hx (hb hby own_d7_10) (pc' := 11) rfl (v := p1) rfl ?_
    refine OwnK.iadd X1 hx (hb hby own_d7_11) (pc' := 12) rfl ?_
    refine OwnK.iloadN X1 hx (hb hby own_d7_12) (pc' := 13) rfl (v := p3) rfl ?_
    refine OwnK.isub X1 hx (hb hby own_d7_13) (pc' := 14) rfl ?_
    refine OwnK.aload X1 hx (hb hby own_d7_14) (pc' := 16) rfl (v := (.ref p5)) rfl rfl ?_
    refine OwnK.aload X1 hx (hb hby own_d7_16) (pc' := 18) rfl (v := (.ref p6)) rfl rfl ?_
    refine OwnK.aload X1 hx (hb hby own_d7_18) (pc' := 20) rfl (v := (.ref p7)) rfl rfl ?_
    refine OwnK.aload X1 hx (hb hby own_d7_20) (pc' := 22) rfl (v := (.ref p8)) rfl rfl ?_
    refine OwnK.callS_ X1 hx hZ hown (y := (⟨"com/example/redbark/redbark/KeyArraysCopyPinLaw", "atO", "(ILjava/lang/Object;Ljava/lang/Object;Ljava/lang/Object;Ljava/lang/Object;)Ljava/lang/Object;"⟩ : MethodName)) (hw _ (List.mem_of_getElem? (i := 40) rfl)) (hw _ (List.mem_of_getElem? (i := 41) rfl)) (hw _ (List.mem_of_getElem? (i := 17) rfl)) (hw _ (List.mem_of_getElem? (i := 42) rfl)) (by decide) (own_met8 l Z a0 hw h0 ((p2 + p1) - p3) p5 p6 p7 p8  ) (by decide) (W := 0) (by decide) e1 (by rw [hml]; rfl) own_pd_8 (argsL := [(.int ((p2 + p1) - p3)), (.ref p5), (.ref p6), (.ref p7), (.ref p8)]) rfl (S := []) rfl (Nat.le_of_eq rfl) (hb hby own_d7_22) (pc' := 25) rfl (by decide) (by decide) (fun T2 v2 L2 X2 hQ2 => ?_)
    obtain ⟨rfl, e2, rfl⟩ := hQ2
    refine OwnK.retA_ X2 hx hret rfl rfl hlk (hb hby own_d7_25) (by decide) (by decide) ?_
    exact ⟨by unfold own_exp; rw [if_pos hc1, own_idx hk hf ht hc1], e2, rfl⟩
  · obtain rfl : v1 = some (.int (0 : Int32)) := hv1.trans (by rw [if_neg hc1])
    refine OwnK.if_eq X1 hx (hb hby own_d7_6) (by decide) (pcT := 26) (by decide) (pc' := 9) rfl (fun hc6 => ?_) (fun (hc6 : ¬ 0 = 0) => absurd hc6 (by decide))
    refine OwnK.iloadN X1 hx (hb hby own_d7_26) (pc' := 27) rfl (v := p1) rfl ?_
    refine OwnK.aload X1 hx (hb hby own_d7_27) (pc' := 29) rfl (v := (.ref p9)) rfl rfl ?_
    refine OwnK.aload X1 hx (hb hby own_d7_29) (pc' := 31) rfl (v := (.ref p10)) rfl rfl ?_
    refine OwnK.aload X1 hx (hb hby own_d7_31) (pc' := 33) rfl (v := (.ref p11)) rfl rfl ?_
    refine OwnK.aload X1 hx (hb hby own_d7_33) (pc' := 35) rfl (v := (.ref p12)) rfl rfl ?_
    refine OwnK.callS_ X1 hx hZ hown (y := (⟨"com/example/redbark/redbark/KeyArraysCopyPinLaw", "atO", "(ILjava/lang/Object;Ljava/lang/Object;Ljava/lang/Object;Ljava/lang/Object;)Ljava/lang/Object;"⟩ : MethodName)) (hw _ (List.mem_of_getElem? (i := 40) rfl)) (hw _ (List.mem_of_getElem? (i := 41) rfl)) (hw _ (List.mem_of_getElem? (i := 17) rfl)) (hw _ (List.mem_of_getElem? (i := 42) rfl)) (by decide) (own_met8 l Z a0 hw h0 p1 p9 p10 p11 p12  ) (by decide) (W := 0) (by decide) e1 (by rw [hml]; rfl) own_pd_8 (argsL := [(.int p1), (.ref p9), (.ref p10), (.ref p11), (.ref p12)]) rfl (S := []) rfl (Nat.le_of_eq rfl) (hb hby own_d7_35) (pc' := 38) rfl (by decide) (by decide) (fun T4 v4 L4 X4 hQ4 => ?_)
    obtain ⟨rfl, e4, rfl⟩ := hQ4
    refine OwnK.retA_ X4 hx hret rfl rfl hlk (hb hby own_d7_38) (by decide) (by decide) ?_
    exact ⟨by unfold own_exp; rw [if_neg hc1], e4, rfl⟩
def own_QcopyI (Z : State) (h0 : Heap) (n0 : Nat) (p1 : Addr) (p2 : Int32) (p3 : Addr) (p4 : Int32) (p5 : Int32) (k1 k3 : ClassId) (vs vd : List Value) (d1 d3 : Value) (x y n : Nat) (v : Option Value) (h : Heap) (L : List Loc) : Prop := v = none ∧ Fr n0 L ∧ Keep h0 h [p3] ∧ Arv Z h p3 k3 .int (4 : Int32) (vd.take y ++ ((List.range n).map fun i => vs.getD (x + i) d1) ++ vd.drop (y + n)) d3
set_option maxRecDepth 65536 in
set_option maxHeartbeats 40000000 in
theorem own_copyI (l : Launch) (Z : State) (a0 : Array Value) (hw : ∀ d ∈ tables_1, d.before a0 Z = true) (h0 : Heap) (n0 : Nat) (Z0 : n0 ≤ h0.size) (p1 : Addr) (p2 : Int32) (p3 : Addr) (p4 : Int32) (p5 : Int32) (k1 k3 : ClassId) (vs vd : List Value) (d1 d3 : Value) (x y n : Nat) (ge_p3 : n0 ≤ p3) (A1 : Arv Z h0 p1 k1 .int (4 : Int32) vs d1) (B1 : Arv Z h0 p3 k3 .int (4 : Int32) vd d3) (E1 : Exa Z h0 p1 "[I") (E3 : Exa Z h0 p3 "[I") (hx1 : p2.toInt = (x : Nat)) (hy1 : p4.toInt = (y : Nat)) (hn1 : p5.toInt = (n : Nat)) (hxn : x + n ≤ 4) (hyn : y + n ≤ 4) (hvl : vd.length = 4) :
    MetFree l (⟨"com/example/redbark/redbark/KeyArrays", "copy", "(Ljava/lang/Object;ILjava/lang/Object;II)V"⟩ : MethodName) (head1 [Jvm.Cond.code (⟨"com/example/redbark/redbark/KeyArrays", "copy", "(Ljava/lang/Object;ILjava/lang/Object;II)V"⟩ : MethodName) prog_10_method_9_code 6 none] ({ frames := 1, cells := 0, slots := 0, locals := 40 } : Room)) (fun a U => a = #[(.ref p1), (.int p2), (.ref p3), (.int p4), (.int p5)] ∧ Z.Warmed39 U.vm ∧ U.heap = h0) (fun _ _ _ _ _ => True) (fun _ U o U' => ∃ v L, o = .returned v ∧ (own_QcopyI Z h0 n0 p1 p2 p3 p4 p5 k1 k3 vs vd d1 d3 x y n) v U'.heap L ∧ FrameEnd U o U' L ({ frames := 1, cells := 0, slots := 0, locals := 40 } : Room).cells ({ frames := 1, cells := 0, slots := 0, locals := 40 } : Room).slots) := by
  refine OwnK.met (Q := (own_QcopyI Z h0 n0 p1 p2 p3 p4 p5 k1 k3 vs vd d1 d3 x y n)) (C := ({ frames := 1, cells := 0, slots := 0, locals := 40 } : Room).cells) (N := ({ frames := 1, cells := 0, slots := 0, locals := 40 } : Room).slots) own_pl_2 (own_ef_2 p1 p2 p3 p4 p5) ?_
  intro p e s m below meth c T0 X0 hx hZ hby hml hown hnm hret hlk e0
  have N0 := Fr.nil n0
  have K0 := Keep.refl h0 [p3]
  refine OwnK.aloadN X0 hx (hb hby own_d2_0) (pc' := 1) rfl (v := (.ref p1)) rfl rfl ?_
  refine OwnK.instYes X0 hx hZ hown (hw _ (List.mem_of_getElem? (i := 9) rfl)) e0 (Ins.self E1) (hb hby own_d2_1) (pc' := 4) rfl (fun T1 X1 e1 => ?_)
  refine OwnK.if_eq X1 hx (hb hby own_d2_4) (by decide) (pcT := 29) (by decide) (pc' := 7) rfl (fun (hc4 : 1 = 0) => absurd hc4 (by decide)) (fun hc4 => ?_)
  refine OwnK.aloadN X1 hx (hb hby own_d2_7) (pc' := 8) rfl (v := (.ref p1)) rfl rfl ?_
  refine OwnK.cast_ X1 hx hZ hown (hw _ (List.mem_of_getElem? (i := 9) rfl)) e1 (Ins.self E1) (hb hby own_d2_8) (pc' := 11) rfl (fun T2 X2 e2 => ?_)
  refine OwnK.astore X2 hx (hb hby own_d2_11) (pc' := 13) rfl rfl (Ls' := #[.val (.ref p1), .val (.int p2), .val (.ref p3), .val (.int p4), .val (.int p5), .val (.ref p1)]) rfl ?_
  refine OwnK.aload X2 hx (hb hby own_d2_13) (pc' := 15) rfl (v := (.ref p1)) rfl rfl ?_
  refine OwnK.iloadN X2 hx (hb hby own_d2_15) (pc' := 16) rfl (v := p2) rfl ?_
  refine OwnK.aloadN X2 hx (hb hby own_d2_16) (pc' := 17) rfl (v := (.ref p3)) rfl rfl ?_
  refine OwnK.cast_ X2 hx hZ hown (hw _ (List.mem_of_getElem? (i := 9) rfl)) e2 (Ins.self E3) (hb hby own_d2_17) (pc' := 20) rfl (fun T3 X3 e3 => ?_)
  refine OwnK.iloadN X3 hx (hb hby own_d2_20) (pc' := 21) rfl (v := p4) rfl ?_
  refine OwnK.iload X3 hx (hb hby own_d2_21) (pc' := 23) rfl (v := p5) rfl ?_
  refine OwnK.arraycopy_ X3 hx hZ hown (hw _ (List.mem_of_getElem? (i := 11) rfl)) (hw _ (List.mem_of_getElem? (i := 14) rfl)) (hw _ (List.mem_of_getElem? (i := 12) rfl)) (hw _ (List.mem_of_getElem? (i := 13) rfl)) e3 A1 B1 (Or.inl ⟨rfl, rfl⟩) hx1 hy1 hn1 (by show _ ≤ (4 : Int); omega) (by show _ ≤ (4 : Int); omega) rfl (by omega) N0 ge_p3 (by rw [hml]; rfl) (hb hby own_d2_23) (pc' := 26) rfl (by decide) (W := 0) (Nat.le_of_eq rfl) (by decide) (fun T5 h5 L5 X5 e5 N5 K5 V5 => ?_)
  have K6 := K0.trans K5 (allS (Or.inl (List.mem_of_getElem? (i := 0) rfl)) all0)
  refine OwnK.goto_ X5 hx (hb hby own_d2_26) (by decide) (pc' := 44) (by decide) ?_
  refine OwnK.retV_ X5 hx hret hlk (hb hby own_d2_44) (by decide) (by decide) ?_
  rw [show T5.heap = h5 from e5]
  exact ⟨rfl, N5, K6, V5⟩
def own_QcopyO (Z : State) (h0 : Heap) (n0 : Nat) (p1 : Addr) (p2 : Int32) (p3 : Addr) (p4 : Int32) (p5 : Int32) (k1 k3 : ClassId) (vs vd : List Value) (d1 d3 : Value) (x y n : Nat) (v : Option Value) (h : Heap) (L : List Loc) : Prop := v = none ∧ Fr n0 L ∧ Keep h0 h [p3] ∧ Arv Z h p3 k3 (.object "java/lang/Object") (4 : Int32) (vd.take y ++ ((List.range n).map fun i => vs.getD (x + i) d1) ++ vd.drop (y + n)) d3
set_option maxRecDepth 65536 in
set_option maxHeartbeats 40000000 in
theorem own_copyO (l : Launch) (Z : State) (a0 : Array Value) (hw : ∀ d ∈ tables_1, d.before a0 Z = true) (h0 : Heap) (n0 : Nat) (Z0 : n0 ≤ h0.size) (p1 : Addr) (p2 : Int32) (p3 : Addr) (p4 : Int32) (p5 : Int32) (k1 k3 : ClassId) (vs vd : List Value) (d1 d3 : Value) (x y n : Nat) (ge_p3 : n0 ≤ p3) (A1 : Arv Z h0 p1 k1 (.object "java/lang/Object") (4 : Int32) vs d1) (B1 : Arv Z h0 p3 k3 (.object "java/lang/Object") (4 : Int32) vd d3) (E1 : Exa Z h0 p1 "[Ljava/lang/Object;") (E3 : Exa Z h0 p3 "[Ljava/lang/Object;") (hx1 : p2.toInt = (x : Nat)) (hy1 : p4.toInt = (y : Nat)) (hn1 : p5.toInt = (n : Nat)) (hxn : x + n ≤ 4) (hyn : y + n ≤ 4) (hvl : vd.length = 4) (hIs : (∃ c t, Z.vm.findClass "[Ljava/lang/Object;" = some c ∧ Z.vm.findClass "[I" = some t ∧ Z.vm.assignable c t = true) ∨ (∃ c t, Z.vm.findClass "[Ljava/lang/Object;" = some c ∧ Z.vm.findClass "[I" = some t ∧ Z.vm.assignable c t = false)) (hS : ∀ i, i < 4 → Sto Z h0 p3 (vs.getD i d1)) :
    MetFree l (⟨"com/example/redbark/redbark/KeyArrays", "copy", "(Ljava/lang/Object;ILjava/lang/Object;II)V"⟩ : MethodName) (head1 [Jvm.Cond.code (⟨"com/example/redbark/redbark/KeyArrays", "copy", "(Ljava/lang/Object;ILjava/lang/Object;II)V"⟩ : MethodName) prog_10_method_9_code 6 none] ({ frames := 1, cells := 0, slots := 0, locals := 40 } : Room)) (fun a U => a = #[(.ref p1), (.int p2), (.ref p3), (.int p4), (.int p5)] ∧ Z.Warmed39 U.vm ∧ U.heap = h0) (fun _ _ _ _ _ => True) (fun _ U o U' => ∃ v L, o = .returned v ∧ (own_QcopyO Z h0 n0 p1 p2 p3 p4 p5 k1 k3 vs vd d1 d3 x y n) v U'.heap L ∧ FrameEnd U o U' L ({ frames := 1, cells := 0, slots := 0, locals := 40 } : Room).cells ({ frames := 1, cells := 0, slots := 0, locals := 40 } : Room).slots) := by
  refine OwnK.met (Q := (own_QcopyO Z h0 n0 p1 p2 p3 p4 p5 k1 k3 vs vd d1 d3 x y n)) (C := ({ frames := 1, cells := 0, slots := 0, locals := 40 } : Room).cells) (N := ({ frames := 1, cells := 0, slots := 0, locals := 40 } : Room).slots) own_pl_2 (own_ef_2 p1 p2 p3 p4 p5) ?_
  intro p e s m below meth c T0 X0 hx hZ hby hml hown hnm hret hlk e0
  have N0 := Fr.nil n0
  have K0 := Keep.refl h0 [p3]
  refine OwnK.aloadN X0 hx (hb hby own_d2_0) (pc' := 1) rfl (v := (.ref p1)) rfl rfl ?_
  rcases hIs with hI | hI
  · refine OwnK.instYes X0 hx hZ hown (hw _ (List.mem_of_getElem? (i := 9) rfl)) e0 (own_insI E1 hI) (hb hby own_d2_1) (pc' := 4) rfl (fun T1 X1 e1 => ?_)
    refine OwnK.if_eq X1 hx (hb hby own_d2_4) (by decide) (pcT := 29) (by decide) (pc' := 7) rfl (fun (hc4 : 1 = 0) => absurd hc4 (by decide)) (fun hc4 => ?_)
    refine OwnK.aloadN X1 hx (hb hby own_d2_7) (pc' := 8) rfl (v := (.ref p1)) rfl rfl ?_
    refine OwnK.cast_ X1 hx hZ hown (hw _ (List.mem_of_getElem? (i := 9) rfl)) e1 (own_insI E1 hI) (hb hby own_d2_8) (pc' := 11) rfl (fun T2 X2 e2 => ?_)
    refine OwnK.astore X2 hx (hb hby own_d2_11) (pc' := 13) rfl rfl (Ls' := #[.val (.ref p1), .val (.int p2), .val (.ref p3), .val (.int p4), .val (.int p5), .val (.ref p1)]) rfl ?_
    refine OwnK.aload X2 hx (hb hby own_d2_13) (pc' := 15) rfl (v := (.ref p1)) rfl rfl ?_
    refine OwnK.iloadN X2 hx (hb hby own_d2_15) (pc' := 16) rfl (v := p2) rfl ?_
    refine OwnK.aloadN X2 hx (hb hby own_d2_16) (pc' := 17) rfl (v := (.ref p3)) rfl rfl ?_
    refine OwnK.cast_ X2 hx hZ hown (hw _ (List.mem_of_getElem? (i := 9) rfl)) e2 (own_insI E3 hI) (hb hby own_d2_17) (pc' := 20) rfl (fun T3 X3 e3 => ?_)
    refine OwnK.iloadN X3 hx (hb hby own_d2_20) (pc' := 21) rfl (v := p4) rfl ?_
    refine OwnK.iload X3 hx (hb hby own_d2_21) (pc' := 23) rfl (v := p5) rfl ?_
    refine OwnK.arraycopy_ X3 hx hZ hown (hw _ (List.mem_of_getElem? (i := 11) rfl)) (hw _ (List.mem_of_getElem? (i := 14) rfl)) (hw _ (List.mem_of_getElem? (i := 12) rfl)) (hw _ (List.mem_of_getElem? (i := 13) rfl)) e3 A1 B1 (Or.inr ⟨rfl, rfl, own_stoL hS hxn⟩) hx1 hy1 hn1 (by show _ ≤ (4 : Int); omega) (by show _ ≤ (4 : Int); omega) rfl (by omega) N0 ge_p3 (by rw [hml]; rfl) (hb hby own_d2_23) (pc' := 26) rfl (by decide) (W := 0) (Nat.le_of_eq rfl) (by decide) (fun T5 h5 L5 X5 e5 N5 K5 V5 => ?_)
    have K6 := K0.trans K5 (allS (Or.inl (List.mem_of_getElem? (i := 0) rfl)) all0)
    refine OwnK.goto_ X5 hx (hb hby own_d2_26) (by decide) (pc' := 44) (by decide) ?_
    refine OwnK.retV_ X5 hx hret hlk (hb hby own_d2_44) (by decide) (by decide) ?_
    rw [show T5.heap = h5 from e5]
    exact ⟨rfl, N5, K6, V5⟩
  · refine OwnK.instNo_ X0 hx hZ hown (hw _ (List.mem_of_getElem? (i := 9) rfl)) e0 E1 hI (hb hby own_d2_1) (pc' := 4) rfl (fun T7 X7 e7 => ?_)
    refine OwnK.if_eq X7 hx (hb hby own_d2_4) (by decide) (pcT := 29) (by decide) (pc' := 7) rfl (fun hc4 => ?_) (fun (hc4 : ¬ 0 = 0) => absurd hc4 (by decide))
    refine OwnK.aloadN X7 hx (hb hby own_d2_29) (pc' := 30) rfl (v := (.ref p1)) rfl rfl ?_
    refine OwnK.cast_ X7 hx hZ hown (hw _ (List.mem_of_getElem? (i := 35) rfl)) e7 (Ins.self E1) (hb hby own_d2_30) (pc' := 33) rfl (fun T8 X8 e8 => ?_)
    refine OwnK.iloadN X8 hx (hb hby own_d2_33) (pc' := 34) rfl (v := p2) rfl ?_
    refine OwnK.aloadN X8 hx (hb hby own_d2_34) (pc' := 35) rfl (v := (.ref p3)) rfl rfl ?_
    refine OwnK.cast_ X8 hx hZ hown (hw _ (List.mem_of_getElem? (i := 35) rfl)) e8 (Ins.self E3) (hb hby own_d2_35) (pc' := 38) rfl (fun T9 X9 e9 => ?_)
    refine OwnK.iloadN X9 hx (hb hby own_d2_38) (pc' := 39) rfl (v := p4) rfl ?_
    refine OwnK.iload X9 hx (hb hby own_d2_39) (pc' := 41) rfl (v := p5) rfl ?_
    refine OwnK.arraycopy_ X9 hx hZ hown (hw _ (List.mem_of_getElem? (i := 11) rfl)) (hw _ (List.mem_of_getElem? (i := 14) rfl)) (hw _ (List.mem_of_getElem? (i := 12) rfl)) (hw _ (List.mem_of_getElem? (i := 13) rfl)) e9 A1 B1 (Or.inr ⟨rfl, rfl, own_stoL hS hxn⟩) hx1 hy1 hn1 (by show _ ≤ (4 : Int); omega) (by show _ ≤ (4 : Int); omega) rfl (by omega) N0 ge_p3 (by rw [hml]; rfl) (hb hby own_d2_41) (pc' := 44) rfl (by decide) (W := 0) (Nat.le_of_eq rfl) (by decide) (fun T11 h11 L11 X11 e11 N11 K11 V11 => ?_)
    have K12 := K0.trans K11 (allS (Or.inl (List.mem_of_getElem? (i := 0) rfl)) all0)
    refine OwnK.retV_ X11 hx hret hlk (hb hby own_d2_44) (by decide) (by decide) ?_
    rw [show T11.heap = h11 from e11]
    exact ⟨rfl, N11, K12, V11⟩
set_option maxRecDepth 65536 in
set_option maxHeartbeats 40000000 in
theorem own_law (l : Launch) (Z : State) (a0 : Array Value) (hw : ∀ d ∈ tables_1, d.before a0 Z = true) (ws : List Jvm.Cond) (h0 : Heap) (n0 : Nat) (Z0 : n0 ≤ h0.size) (p0 : Int32) (p1 : Int32) (p2 : Int32) (p3 : Int32) (p4 : Int32) (p5 : Int32) (aC : Addr) (kC : ClassId) (vsC : List Value) (O0 : Old Z n0 h0) (SH : Sta Z Z.heap "java/lang/Integer$IntegerCache" "high" "I" (.int (127 : Int32))) (SC : Sta Z Z.heap "java/lang/Integer$IntegerCache" "cache" "[Ljava/lang/Integer;" (.ref aC)) (AC : Arv Z Z.heap aC kC (.object "java/lang/Integer") (256 : Int32) vsC .null) (CE : ∀ j, j < 256 → ∃ r, vsC.getD j .null = .ref r ∧ Exa Z Z.heap r "java/lang/Integer") :
    MetFree l x (head1 (Jvm.Cond.code x code maxLocals ret :: ws) room_1) (fun a U => a = #[(.int p0), (.int p1), (.int p2), (.int p3), (.int p4), (.int p5)] ∧ Z.Warmed39 U.vm ∧ U.heap = h0) (fun _ _ _ _ _ => True) (fun _ U o U' => ∃ v L, o = .returned v ∧ (fun (v : Option Value) (_ : Heap) (L : List Loc) => v = some (.int (1 : Int32)) ∧ Fr n0 L) v U'.heap L ∧ FrameEnd U o U' L 10 16) := by
  refine OwnK.met (Q := (fun (v : Option Value) (_ : Heap) (L : List Loc) => v = some (.int (1 : Int32)) ∧ Fr n0 L)) (C := 10) (N := 16) own_pl_0 (own_ef_0 p0 p1 p2 p3 p4 p5) ?_
  intro p e s m below meth c T0 X0 hx hZ hby hml hown hnm hret hlk e0
  have N0 := Fr.nil n0
  refine OwnK.iload X0 hx (hb hby at_0) (pc' := 2) rfl (v := p5) rfl ?_
  refine OwnK.iconst X0 hx (hb hby at_2) (pc' := 3) rfl (v := (1 : Int32)) (by decide) ?_
  refine OwnK.iand X0 hx (hb hby at_3) (pc' := 4) rfl ?_
  refine OwnK.if_eq X0 hx (hb hby at_4) (by decide) (pcT := 11) (by decide) (pc' := 7) rfl (fun (hc1 : (p5 &&& (1 : Int32)).toInt = 0) => ?_) (fun (hc1 : ¬ (p5 &&& (1 : Int32)).toInt = 0) => ?_)
  · refine OwnK.iconst X0 hx (hb hby at_11) (pc' := 12) rfl (v := (0 : Int32)) (by decide) ?_
    refine OwnK.istore X0 hx (hb hby at_12) (pc' := 14) rfl (Ls' := #[.val (.int p0), .val (.int p1), .val (.int p2), .val (.int p3), .val (.int p4), .val (.int p5), .val (.int (0 : Int32)), .unset, .unset, .unset, .unset, .unset, .unset, .unset, .unset, .unset, .unset, .unset, .unset, .unset, .unset, .unset, .unset, .unset, .unset, .unset, .unset, .unset, .unset, .unset]) rfl ?_
    refine OwnK.iload X0 hx (hb hby at_14) (pc' := 16) rfl (v := p5) rfl ?_
    refine OwnK.iconst X0 hx (hb hby at_16) (pc' := 17) rfl (v := (2 : Int32)) (by decide) ?_
    refine OwnK.iand X0 hx (hb hby at_17) (pc' := 18) rfl ?_
    refine OwnK.if_eq X0 hx (hb hby at_18) (by decide) (pcT := 25) (by decide) (pc' := 21) rfl (fun (hc2 : (p5 &&& (2 : Int32)).toInt = 0) => ?_) (fun (hc2 : ¬ (p5 &&& (2 : Int32)).toInt = 0) => ?_)
    · refine OwnK.iconst X0 hx (hb hby at_25) (pc' := 26) rfl (v := (0 : Int32)) (by decide) ?_
      refine OwnK.istore X0 hx (hb hby at_26) (pc' := 28) rfl (Ls' := #[.val (.int p0), .val (.int p1), .val (.int p2), .val (.int p3), .val (.int p4), .val (.int p5), .val (.int (0 : Int32)), .val (.int (0 : Int32)), .unset, .unset, .unset, .unset, .unset, .unset, .unset, .unset, .unset, .unset, .unset, .unset, .unset, .unset, .unset, .unset, .unset, .unset, .unset, .unset, .unset, .unset]) rfl ?_
      refine OwnK.iloadN X0 hx (hb hby at_28) (pc' := 29) rfl (v := p2) rfl ?_
      refine OwnK.iconst X0 hx (hb hby at_29) (pc' := 30) rfl (v := (3 : Int32)) (by decide) ?_
      refine OwnK.iand X0 hx (hb hby at_30) (pc' := 31) rfl ?_
      refine OwnK.istoreG X0 hx (hb hby at_31) (pc' := 33) rfl (Ls' := fun u => #[.val (.int p0), .val (.int p1), .val (.int p2), .val (.int p3), .val (.int p4), .val (.int p5), .val (.int (0 : Int32)), .val (.int (0 : Int32)), .val (.int u), .unset, .unset, .unset, .unset, .unset, .unset, .unset, .unset, .unset, .unset, .unset, .unset, .unset, .unset, .unset, .unset, .unset, .unset, .unset, .unset, .unset]) (fun u => rfl) (fun u3 (hu3 : u3 = (p2 &&& (3 : Int32))) => ?_)
      have b_u3 : 0 ≤ u3.toInt ∧ u3.toInt ≤ 3 := by rw [hu3]; exact own_mm3 _
      have b1_u3 : u3.toInt = ((u3.toInt.toNat : Nat) : Int) := by omega
      have b_u3 : 0 ≤ u3.toInt ∧ u3.toInt ≤ 4 := by omega
      have b2_u3 : u3.toInt ≤ 3 := by rw [hu3]; exact (own_mm3 _).2
      refine OwnK.iloadN X0 hx (hb hby at_33) (pc' := 34) rfl (v := p3) rfl ?_
      refine OwnK.iconst X0 hx (hb hby at_34) (pc' := 35) rfl (v := (3 : Int32)) (by decide) ?_
      refine OwnK.iand X0 hx (hb hby at_35) (pc' := 36) rfl ?_
      refine OwnK.istoreG X0 hx (hb hby at_36) (pc' := 38) rfl (Ls' := fun u => #[.val (.int p0), .val (.int p1), .val (.int p2), .val (.int p3), .val (.int p4), .val (.int p5), .val (.int (0 : Int32)), .val (.int (0 : Int32)), .val (.int u3), .val (.int u), .unset, .unset, .unset, .unset, .unset, .unset, .unset, .unset, .unset, .unset, .unset, .unset, .unset, .unset, .unset, .unset, .unset, .unset, .unset, .unset]) (fun u => rfl) (fun u4 (hu4 : u4 = (p3 &&& (3 : Int32))) => ?_)
      have b_u4 : 0 ≤ u4.toInt ∧ u4.toInt ≤ 3 := by rw [hu4]; exact own_mm3 _
      have b1_u4 : u4.toInt = ((u4.toInt.toNat : Nat) : Int) := by omega
      have b_u4 : 0 ≤ u4.toInt ∧ u4.toInt ≤ 4 := by omega
      have b2_u4 : u4.toInt ≤ 3 := by rw [hu4]; exact (own_mm3 _).2
      refine OwnK.iload X0 hx (hb hby at_38) (pc' := 40) rfl (v := p4) rfl ?_
      refine OwnK.bipush X0 hx (hb hby at_40) (pc' := 42) rfl (v := (7 : Int32)) (by decide) ?_
      refine OwnK.iand X0 hx (hb hby at_42) (pc' := 43) rfl ?_
      refine OwnK.iconst X0 hx (hb hby at_43) (pc' := 44) rfl (v := (5 : Int32)) (by decide) ?_
      refine OwnK.irem X0 hx (hb hby at_44) (pc' := 45) rfl (by decide) ?_
      refine OwnK.istoreG X0 hx (hb hby at_45) (pc' := 47) rfl (Ls' := fun u => #[.val (.int p0), .val (.int p1), .val (.int p2), .val (.int p3), .val (.int p4), .val (.int p5), .val (.int (0 : Int32)), .val (.int (0 : Int32)), .val (.int u3), .val (.int u4), .val (.int u), .unset, .unset, .unset, .unset, .unset, .unset, .unset, .unset, .unset, .unset, .unset, .unset, .unset, .unset, .unset, .unset, .unset, .unset, .unset]) (fun u => rfl) (fun u5 (hu5 : u5 = ((p4 &&& (7 : Int32)) % (5 : Int32))) => ?_)
      have b_u5 : 0 ≤ u5.toInt ∧ u5.toInt ≤ 4 := by rw [hu5]; exact own_len _
      refine OwnK.iload X0 hx (hb hby at_47) (pc' := 49) rfl (v := u5) rfl ?_
      refine OwnK.iconst X0 hx (hb hby at_49) (pc' := 50) rfl (v := (4 : Int32)) (by decide) ?_
      refine OwnK.iload X0 hx (hb hby at_50) (pc' := 52) rfl (v := u3) rfl ?_
      refine OwnK.isub X0 hx (hb hby at_52) (pc' := 53) rfl ?_
      refine OwnK.callS_ X0 hx hZ hown (y := (⟨"java/lang/Math", "min", "(II)I"⟩ : MethodName)) (hw _ (List.mem_of_getElem? (i := 0) rfl)) (hw _ (List.mem_of_getElem? (i := 1) rfl)) (hw _ (List.mem_of_getElem? (i := 2) rfl)) (hw _ (List.mem_of_getElem? (i := 3) rfl)) (by decide) (own_met1 l Z a0 hw h0 u5 ((4 : Int32) - u3)  ) (by decide) (W := 0) (by decide) e0 (by rw [hml]; rfl) own_pd_3 (argsL := [(.int u5), (.int ((4 : Int32) - u3))]) rfl (S := []) rfl (Nat.le_of_eq rfl) (hb hby at_53) (pc' := 56) rfl (by decide) (by decide) (fun T6 v6 L6 X6 hQ6 => ?_)
      obtain ⟨rfl, e6, rfl⟩ := hQ6
      have N7 := Fr.app N0 (Fr.nil n0)
      refine OwnK.istoreG X6 hx (hb hby at_56) (pc' := 58) rfl (Ls' := fun u => #[.val (.int p0), .val (.int p1), .val (.int p2), .val (.int p3), .val (.int p4), .val (.int p5), .val (.int (0 : Int32)), .val (.int (0 : Int32)), .val (.int u3), .val (.int u4), .val (.int u), .unset, .unset, .unset, .unset, .unset, .unset, .unset, .unset, .unset, .unset, .unset, .unset, .unset, .unset, .unset, .unset, .unset, .unset, .unset]) (fun u => rfl) (fun u8 (hu8 : u8 = (if ((4 : Int32) - u3).toInt < u5.toInt then ((4 : Int32) - u3) else u5)) => ?_)
      have c_u8 : 0 ≤ u8.toInt ∧ u8.toInt ≤ u5.toInt ∧ u8.toInt ≤ 4 - u3.toInt := by rw [hu8]; exact own_min4 b_u5 b_u3 b2_u3
      have b_u8 : 0 ≤ u8.toInt ∧ u8.toInt ≤ 4 := by omega
      refine OwnK.iload X6 hx (hb hby at_58) (pc' := 60) rfl (v := u8) rfl ?_
      refine OwnK.iconst X6 hx (hb hby at_60) (pc' := 61) rfl (v := (4 : Int32)) (by decide) ?_
      refine OwnK.iload X6 hx (hb hby at_61) (pc' := 63) rfl (v := u4) rfl ?_
      refine OwnK.isub X6 hx (hb hby at_63) (pc' := 64) rfl ?_
      refine OwnK.callS_ X6 hx hZ hown (y := (⟨"java/lang/Math", "min", "(II)I"⟩ : MethodName)) (hw _ (List.mem_of_getElem? (i := 0) rfl)) (hw _ (List.mem_of_getElem? (i := 1) rfl)) (hw _ (List.mem_of_getElem? (i := 2) rfl)) (hw _ (List.mem_of_getElem? (i := 3) rfl)) (by decide) (own_met1 l Z a0 hw h0 u8 ((4 : Int32) - u4)  ) (by decide) (W := 0) (by decide) e6 (by rw [hml]; rfl) own_pd_3 (argsL := [(.int u8), (.int ((4 : Int32) - u4))]) rfl (S := []) rfl (Nat.le_of_eq rfl) (hb hby at_64) (pc' := 67) rfl (by decide) (by decide) (fun T9 v9 L9 X9 hQ9 => ?_)
      obtain ⟨rfl, e9, rfl⟩ := hQ9
      have N10 := Fr.app N7 (Fr.nil n0)
      refine OwnK.istoreG X9 hx (hb hby at_67) (pc' := 69) rfl (Ls' := fun u => #[.val (.int p0), .val (.int p1), .val (.int p2), .val (.int p3), .val (.int p4), .val (.int p5), .val (.int (0 : Int32)), .val (.int (0 : Int32)), .val (.int u3), .val (.int u4), .val (.int u), .unset, .unset, .unset, .unset, .unset, .unset, .unset, .unset, .unset, .unset, .unset, .unset, .unset, .unset, .unset, .unset, .unset, .unset, .unset]) (fun u => rfl) (fun u11 (hu11 : u11 = (if ((4 : Int32) - u4).toInt < u8.toInt then ((4 : Int32) - u4) else u8)) => ?_)
      have c_u11 : 0 ≤ u11.toInt ∧ u11.toInt ≤ u8.toInt ∧ u11.toInt ≤ 4 - u4.toInt := by rw [hu11]; exact own_min4 b_u8 b_u4 b2_u4
      have b_u11 : 0 ≤ u11.toInt ∧ u11.toInt ≤ 4 := by omega
      have b1_u11 : u11.toInt = ((u11.toInt.toNat : Nat) : Int) := by omega
      refine OwnK.iloadN X9 hx (hb hby at_69) (pc' := 70) rfl (v := p0) rfl ?_
      refine OwnK.istore X9 hx (hb hby at_70) (pc' := 72) rfl (Ls' := #[.val (.int p0), .val (.int p1), .val (.int p2), .val (.int p3), .val (.int p4), .val (.int p5), .val (.int (0 : Int32)), .val (.int (0 : Int32)), .val (.int u3), .val (.int u4), .val (.int u11), .val (.int p0), .unset, .unset, .unset, .unset, .unset, .unset, .unset, .unset, .unset, .unset, .unset, .unset, .unset, .unset, .unset, .unset, .unset, .unset]) rfl ?_
      refine OwnK.iloadN X9 hx (hb hby at_72) (pc' := 73) rfl (v := p1) rfl ?_
      refine OwnK.istore X9 hx (hb hby at_73) (pc' := 75) rfl (Ls' := #[.val (.int p0), .val (.int p1), .val (.int p2), .val (.int p3), .val (.int p4), .val (.int p5), .val (.int (0 : Int32)), .val (.int (0 : Int32)), .val (.int u3), .val (.int u4), .val (.int u11), .val (.int p0), .val (.int p1), .unset, .unset, .unset, .unset, .unset, .unset, .unset, .unset, .unset, .unset, .unset, .unset, .unset, .unset, .unset, .unset, .unset]) rfl ?_
      refine OwnK.iloadN X9 hx (hb hby at_75) (pc' := 76) rfl (v := p0) rfl ?_
      refine OwnK.iloadN X9 hx (hb hby at_76) (pc' := 77) rfl (v := p1) rfl ?_
      refine OwnK.ixor X9 hx (hb hby at_77) (pc' := 78) rfl ?_
      refine OwnK.istore X9 hx (hb hby at_78) (pc' := 80) rfl (Ls' := #[.val (.int p0), .val (.int p1), .val (.int p2), .val (.int p3), .val (.int p4), .val (.int p5), .val (.int (0 : Int32)), .val (.int (0 : Int32)), .val (.int u3), .val (.int u4), .val (.int u11), .val (.int p0), .val (.int p1), .val (.int (p0 ^^^ p1)), .unset, .unset, .unset, .unset, .unset, .unset, .unset, .unset, .unset, .unset, .unset, .unset, .unset, .unset, .unset, .unset]) rfl ?_
      refine OwnK.iloadN X9 hx (hb hby at_80) (pc' := 81) rfl (v := p0) rfl ?_
      refine OwnK.iconst X9 hx (hb hby at_81) (pc' := 82) rfl (v := (-1 : Int32)) (by decide) ?_
      refine OwnK.ixor X9 hx (hb hby at_82) (pc' := 83) rfl ?_
      refine OwnK.istore X9 hx (hb hby at_83) (pc' := 85) rfl (Ls' := #[.val (.int p0), .val (.int p1), .val (.int p2), .val (.int p3), .val (.int p4), .val (.int p5), .val (.int (0 : Int32)), .val (.int (0 : Int32)), .val (.int u3), .val (.int u4), .val (.int u11), .val (.int p0), .val (.int p1), .val (.int (p0 ^^^ p1)), .val (.int (p0 ^^^ (-1 : Int32))), .unset, .unset, .unset, .unset, .unset, .unset, .unset, .unset, .unset, .unset, .unset, .unset, .unset, .unset, .unset]) rfl ?_
      refine OwnK.iload X9 hx (hb hby at_85) (pc' := 87) rfl (v := (0 : Int32)) rfl ?_
      refine OwnK.if_eq X9 hx (hb hby at_87) (by decide) (pcT := 95) (by decide) (pc' := 90) rfl (fun hc87 => ?_) (fun (hc87 : ¬ 0 = 0) => absurd hc87 (by decide))
      refine OwnK.iloadN X9 hx (hb hby at_95) (pc' := 96) rfl (v := p1) rfl ?_
      refine OwnK.istore X9 hx (hb hby at_96) (pc' := 98) rfl (Ls' := #[.val (.int p0), .val (.int p1), .val (.int p2), .val (.int p3), .val (.int p4), .val (.int p5), .val (.int (0 : Int32)), .val (.int (0 : Int32)), .val (.int u3), .val (.int u4), .val (.int u11), .val (.int p0), .val (.int p1), .val (.int (p0 ^^^ p1)), .val (.int (p0 ^^^ (-1 : Int32))), .val (.int p1), .unset, .unset, .unset, .unset, .unset, .unset, .unset, .unset, .unset, .unset, .unset, .unset, .unset, .unset]) rfl ?_
      refine OwnK.iload X9 hx (hb hby at_98) (pc' := 100) rfl (v := (0 : Int32)) rfl ?_
      refine OwnK.if_eq X9 hx (hb hby at_100) (by decide) (pcT := 108) (by decide) (pc' := 103) rfl (fun hc100 => ?_) (fun (hc100 : ¬ 0 = 0) => absurd hc100 (by decide))
      refine OwnK.iloadN X9 hx (hb hby at_108) (pc' := 109) rfl (v := p1) rfl ?_
      refine OwnK.iconst X9 hx (hb hby at_109) (pc' := 110) rfl (v := (-1 : Int32)) (by decide) ?_
      refine OwnK.ixor X9 hx (hb hby at_110) (pc' := 111) rfl ?_
      refine OwnK.istore X9 hx (hb hby at_111) (pc' := 113) rfl (Ls' := #[.val (.int p0), .val (.int p1), .val (.int p2), .val (.int p3), .val (.int p4), .val (.int p5), .val (.int (0 : Int32)), .val (.int (0 : Int32)), .val (.int u3), .val (.int u4), .val (.int u11), .val (.int p0), .val (.int p1), .val (.int (p0 ^^^ p1)), .val (.int (p0 ^^^ (-1 : Int32))), .val (.int p1), .val (.int (p1 ^^^ (-1 : Int32))), .unset, .unset, .unset, .unset, .unset, .unset, .unset, .unset, .unset, .unset, .unset, .unset, .unset]) rfl ?_
      refine OwnK.iload X9 hx (hb hby at_113) (pc' := 115) rfl (v := (0 : Int32)) rfl ?_
      refine OwnK.if_eq X9 hx (hb hby at_115) (by decide) (pcT := 123) (by decide) (pc' := 118) rfl (fun hc115 => ?_) (fun (hc115 : ¬ 0 = 0) => absurd hc115 (by decide))
      refine OwnK.iloadN X9 hx (hb hby at_123) (pc' := 124) rfl (v := p0) rfl ?_
      refine OwnK.iloadN X9 hx (hb hby at_124) (pc' := 125) rfl (v := p1) rfl ?_
      refine OwnK.iadd X9 hx (hb hby at_125) (pc' := 126) rfl ?_
      refine OwnK.istore X9 hx (hb hby at_126) (pc' := 128) rfl (Ls' := #[.val (.int p0), .val (.int p1), .val (.int p2), .val (.int p3), .val (.int p4), .val (.int p5), .val (.int (0 : Int32)), .val (.int (0 : Int32)), .val (.int u3), .val (.int u4), .val (.int u11), .val (.int p0), .val (.int p1), .val (.int (p0 ^^^ p1)), .val (.int (p0 ^^^ (-1 : Int32))), .val (.int p1), .val (.int (p1 ^^^ (-1 : Int32))), .val (.int (p0 + p1)), .unset, .unset, .unset, .unset, .unset, .unset, .unset, .unset, .unset, .unset, .unset, .unset]) rfl ?_
      refine OwnK.iload X9 hx (hb hby at_128) (pc' := 130) rfl (v := (0 : Int32)) rfl ?_
      refine OwnK.if_eq X9 hx (hb hby at_130) (by decide) (pcT := 138) (by decide) (pc' := 133) rfl (fun hc130 => ?_) (fun (hc130 : ¬ 0 = 0) => absurd hc130 (by decide))
      refine OwnK.iloadN X9 hx (hb hby at_138) (pc' := 139) rfl (v := p0) rfl ?_
      refine OwnK.ineg X9 hx (hb hby at_139) (pc' := 140) rfl ?_
      refine OwnK.istore X9 hx (hb hby at_140) (pc' := 142) rfl (Ls' := #[.val (.int p0), .val (.int p1), .val (.int p2), .val (.int p3), .val (.int p4), .val (.int p5), .val (.int (0 : Int32)), .val (.int (0 : Int32)), .val (.int u3), .val (.int u4), .val (.int u11), .val (.int p0), .val (.int p1), .val (.int (p0 ^^^ p1)), .val (.int (p0 ^^^ (-1 : Int32))), .val (.int p1), .val (.int (p1 ^^^ (-1 : Int32))), .val (.int (p0 + p1)), .val (.int (-p0)), .unset, .unset, .unset, .unset, .unset, .unset, .unset, .unset, .unset, .unset, .unset]) rfl ?_
      refine OwnK.iload X9 hx (hb hby at_142) (pc' := 144) rfl (v := (0 : Int32)) rfl ?_
      refine OwnK.if_eq X9 hx (hb hby at_144) (by decide) (pcT := 415) (by decide) (pc' := 147) rfl (fun hc144 => ?_) (fun (hc144 : ¬ 0 = 0) => absurd hc144 (by decide))
      refine OwnK.iload X9 hx (hb hby at_415) (pc' := 417) rfl (v := p0) rfl ?_
      refine OwnK.callS_ X9 hx hZ hown (y := (⟨"java/lang/Integer", "valueOf", "(I)Ljava/lang/Integer;"⟩ : MethodName)) (hw _ (List.mem_of_getElem? (i := 25) rfl)) (hw _ (List.mem_of_getElem? (i := 26) rfl)) (hw _ (List.mem_of_getElem? (i := 27) rfl)) (hw _ (List.mem_of_getElem? (i := 28) rfl)) (by decide) (own_met6 l Z a0 hw h0 n0 Z0 p0 aC kC vsC O0  SH SC AC CE ) (by decide) (W := 0) (by decide) e9 (by rw [hml]; rfl) own_pd_1 (argsL := [(.int p0)]) rfl (S := []) rfl (Nat.le_of_eq rfl) (hb hby at_417) (pc' := 420) rfl (by decide) (by decide) (fun T12 v12 L12 X12 hQ12 => ?_)
      obtain ⟨r12, rfl, N12q, K12, E12q⟩ := hQ12
      have N13 := Fr.app N10 N12q
      have z14 : n0 ≤ T12.heap.size := Nat.le_trans Z0 K12.1
      have O15 := O0.keep K12 all0
      refine OwnK.astore X12 hx (hb hby at_420) (pc' := 422) rfl rfl (Ls' := #[.val (.int p0), .val (.int p1), .val (.int p2), .val (.int p3), .val (.int p4), .val (.int p5), .val (.int (0 : Int32)), .val (.int (0 : Int32)), .val (.int u3), .val (.int u4), .val (.int u11), .val (.int p0), .val (.int p1), .val (.int (p0 ^^^ p1)), .val (.int (p0 ^^^ (-1 : Int32))), .val (.int p1), .val (.int (p1 ^^^ (-1 : Int32))), .val (.int (p0 + p1)), .val (.int (-p0)), .val (.ref r12), .unset, .unset, .unset, .unset, .unset, .unset, .unset, .unset, .unset, .unset]) rfl ?_
      refine OwnK.iload X12 hx (hb hby at_422) (pc' := 424) rfl (v := p1) rfl ?_
      refine OwnK.callS_ X12 hx hZ hown (y := (⟨"java/lang/Integer", "valueOf", "(I)Ljava/lang/Integer;"⟩ : MethodName)) (hw _ (List.mem_of_getElem? (i := 25) rfl)) (hw _ (List.mem_of_getElem? (i := 26) rfl)) (hw _ (List.mem_of_getElem? (i := 27) rfl)) (hw _ (List.mem_of_getElem? (i := 28) rfl)) (by decide) (own_met6 l Z a0 hw T12.heap n0 z14 p1 aC kC vsC O15  SH SC AC CE ) (by decide) (W := 0) (by decide) rfl (by rw [hml]; rfl) own_pd_1 (argsL := [(.int p1)]) rfl (S := []) rfl (Nat.le_of_eq rfl) (hb hby at_424) (pc' := 427) rfl (by decide) (by decide) (fun T16 v16 L16 X16 hQ16 => ?_)
      obtain ⟨r16, rfl, N16q, K16, E16q⟩ := hQ16
      have N17 := Fr.app N13 N16q
      have f18 := E12q.keep K16
      have z19 : n0 ≤ T16.heap.size := Nat.le_trans z14 K16.1
      have O20 := O15.keep K16 all0
      refine OwnK.astore X16 hx (hb hby at_427) (pc' := 429) rfl rfl (Ls' := #[.val (.int p0), .val (.int p1), .val (.int p2), .val (.int p3), .val (.int p4), .val (.int p5), .val (.int (0 : Int32)), .val (.int (0 : Int32)), .val (.int u3), .val (.int u4), .val (.int u11), .val (.int p0), .val (.int p1), .val (.int (p0 ^^^ p1)), .val (.int (p0 ^^^ (-1 : Int32))), .val (.int p1), .val (.int (p1 ^^^ (-1 : Int32))), .val (.int (p0 + p1)), .val (.int (-p0)), .val (.ref r12), .val (.ref r16), .unset, .unset, .unset, .unset, .unset, .unset, .unset, .unset, .unset]) rfl ?_
      refine OwnK.iload X16 hx (hb hby at_429) (pc' := 431) rfl (v := (p0 ^^^ p1)) rfl ?_
      refine OwnK.callS_ X16 hx hZ hown (y := (⟨"java/lang/Integer", "valueOf", "(I)Ljava/lang/Integer;"⟩ : MethodName)) (hw _ (List.mem_of_getElem? (i := 25) rfl)) (hw _ (List.mem_of_getElem? (i := 26) rfl)) (hw _ (List.mem_of_getElem? (i := 27) rfl)) (hw _ (List.mem_of_getElem? (i := 28) rfl)) (by decide) (own_met6 l Z a0 hw T16.heap n0 z19 (p0 ^^^ p1) aC kC vsC O20  SH SC AC CE ) (by decide) (W := 0) (by decide) rfl (by rw [hml]; rfl) own_pd_1 (argsL := [(.int (p0 ^^^ p1))]) rfl (S := []) rfl (Nat.le_of_eq rfl) (hb hby at_431) (pc' := 434) rfl (by decide) (by decide) (fun T21 v21 L21 X21 hQ21 => ?_)
      obtain ⟨r21, rfl, N21q, K21, E21q⟩ := hQ21
      have N22 := Fr.app N17 N21q
      have f23 := f18.keep K21
      have f24 := E16q.keep K21
      have z25 : n0 ≤ T21.heap.size := Nat.le_trans z19 K21.1
      have O26 := O20.keep K21 all0
      refine OwnK.astore X21 hx (hb hby at_434) (pc' := 436) rfl rfl (Ls' := #[.val (.int p0), .val (.int p1), .val (.int p2), .val (.int p3), .val (.int p4), .val (.int p5), .val (.int (0 : Int32)), .val (.int (0 : Int32)), .val (.int u3), .val (.int u4), .val (.int u11), .val (.int p0), .val (.int p1), .val (.int (p0 ^^^ p1)), .val (.int (p0 ^^^ (-1 : Int32))), .val (.int p1), .val (.int (p1 ^^^ (-1 : Int32))), .val (.int (p0 + p1)), .val (.int (-p0)), .val (.ref r12), .val (.ref r16), .val (.ref r21), .unset, .unset, .unset, .unset, .unset, .unset, .unset, .unset]) rfl ?_
      refine OwnK.iload X21 hx (hb hby at_436) (pc' := 438) rfl (v := (p0 ^^^ (-1 : Int32))) rfl ?_
      refine OwnK.callS_ X21 hx hZ hown (y := (⟨"java/lang/Integer", "valueOf", "(I)Ljava/lang/Integer;"⟩ : MethodName)) (hw _ (List.mem_of_getElem? (i := 25) rfl)) (hw _ (List.mem_of_getElem? (i := 26) rfl)) (hw _ (List.mem_of_getElem? (i := 27) rfl)) (hw _ (List.mem_of_getElem? (i := 28) rfl)) (by decide) (own_met6 l Z a0 hw T21.heap n0 z25 (p0 ^^^ (-1 : Int32)) aC kC vsC O26  SH SC AC CE ) (by decide) (W := 0) (by decide) rfl (by rw [hml]; rfl) own_pd_1 (argsL := [(.int (p0 ^^^ (-1 : Int32)))]) rfl (S := []) rfl (Nat.le_of_eq rfl) (hb hby at_438) (pc' := 441) rfl (by decide) (by decide) (fun T27 v27 L27 X27 hQ27 => ?_)
      obtain ⟨r27, rfl, N27q, K27, E27q⟩ := hQ27
      have N28 := Fr.app N22 N27q
      have f29 := f23.keep K27
      have f30 := f24.keep K27
      have f31 := E21q.keep K27
      have z32 : n0 ≤ T27.heap.size := Nat.le_trans z25 K27.1
      have O33 := O26.keep K27 all0
      refine OwnK.astore X27 hx (hb hby at_441) (pc' := 443) rfl rfl (Ls' := #[.val (.int p0), .val (.int p1), .val (.int p2), .val (.int p3), .val (.int p4), .val (.int p5), .val (.int (0 : Int32)), .val (.int (0 : Int32)), .val (.int u3), .val (.int u4), .val (.int u11), .val (.int p0), .val (.int p1), .val (.int (p0 ^^^ p1)), .val (.int (p0 ^^^ (-1 : Int32))), .val (.int p1), .val (.int (p1 ^^^ (-1 : Int32))), .val (.int (p0 + p1)), .val (.int (-p0)), .val (.ref r12), .val (.ref r16), .val (.ref r21), .val (.ref r27), .unset, .unset, .unset, .unset, .unset, .unset, .unset]) rfl ?_
      refine OwnK.iload X27 hx (hb hby at_443) (pc' := 445) rfl (v := (0 : Int32)) rfl ?_
      refine OwnK.if_eq X27 hx (hb hby at_445) (by decide) (pcT := 453) (by decide) (pc' := 448) rfl (fun hc445 => ?_) (fun (hc445 : ¬ 0 = 0) => absurd hc445 (by decide))
      refine OwnK.iload X27 hx (hb hby at_453) (pc' := 455) rfl (v := p1) rfl ?_
      refine OwnK.callS_ X27 hx hZ hown (y := (⟨"java/lang/Integer", "valueOf", "(I)Ljava/lang/Integer;"⟩ : MethodName)) (hw _ (List.mem_of_getElem? (i := 25) rfl)) (hw _ (List.mem_of_getElem? (i := 26) rfl)) (hw _ (List.mem_of_getElem? (i := 27) rfl)) (hw _ (List.mem_of_getElem? (i := 28) rfl)) (by decide) (own_met6 l Z a0 hw T27.heap n0 z32 p1 aC kC vsC O33  SH SC AC CE ) (by decide) (W := 0) (by decide) rfl (by rw [hml]; rfl) own_pd_1 (argsL := [(.int p1)]) rfl (S := []) rfl (Nat.le_of_eq rfl) (hb hby at_455) (pc' := 458) rfl (by decide) (by decide) (fun T34 v34 L34 X34 hQ34 => ?_)
      obtain ⟨r34, rfl, N34q, K34, E34q⟩ := hQ34
      have N35 := Fr.app N28 N34q
      have f36 := f29.keep K34
      have f37 := f30.keep K34
      have f38 := f31.keep K34
      have f39 := E27q.keep K34
      have z40 : n0 ≤ T34.heap.size := Nat.le_trans z32 K34.1
      have O41 := O33.keep K34 all0
      refine OwnK.astore X34 hx (hb hby at_458) (pc' := 460) rfl rfl (Ls' := #[.val (.int p0), .val (.int p1), .val (.int p2), .val (.int p3), .val (.int p4), .val (.int p5), .val (.int (0 : Int32)), .val (.int (0 : Int32)), .val (.int u3), .val (.int u4), .val (.int u11), .val (.int p0), .val (.int p1), .val (.int (p0 ^^^ p1)), .val (.int (p0 ^^^ (-1 : Int32))), .val (.int p1), .val (.int (p1 ^^^ (-1 : Int32))), .val (.int (p0 + p1)), .val (.int (-p0)), .val (.ref r12), .val (.ref r16), .val (.ref r21), .val (.ref r27), .val (.ref r34), .unset, .unset, .unset, .unset, .unset, .unset]) rfl ?_
      refine OwnK.iload X34 hx (hb hby at_460) (pc' := 462) rfl (v := (0 : Int32)) rfl ?_
      refine OwnK.if_eq X34 hx (hb hby at_462) (by decide) (pcT := 470) (by decide) (pc' := 465) rfl (fun hc462 => ?_) (fun (hc462 : ¬ 0 = 0) => absurd hc462 (by decide))
      refine OwnK.iload X34 hx (hb hby at_470) (pc' := 472) rfl (v := (p1 ^^^ (-1 : Int32))) rfl ?_
      refine OwnK.callS_ X34 hx hZ hown (y := (⟨"java/lang/Integer", "valueOf", "(I)Ljava/lang/Integer;"⟩ : MethodName)) (hw _ (List.mem_of_getElem? (i := 25) rfl)) (hw _ (List.mem_of_getElem? (i := 26) rfl)) (hw _ (List.mem_of_getElem? (i := 27) rfl)) (hw _ (List.mem_of_getElem? (i := 28) rfl)) (by decide) (own_met6 l Z a0 hw T34.heap n0 z40 (p1 ^^^ (-1 : Int32)) aC kC vsC O41  SH SC AC CE ) (by decide) (W := 0) (by decide) rfl (by rw [hml]; rfl) own_pd_1 (argsL := [(.int (p1 ^^^ (-1 : Int32)))]) rfl (S := []) rfl (Nat.le_of_eq rfl) (hb hby at_472) (pc' := 475) rfl (by decide) (by decide) (fun T42 v42 L42 X42 hQ42 => ?_)
      obtain ⟨r42, rfl, N42q, K42, E42q⟩ := hQ42
      have N43 := Fr.app N35 N42q
      have f44 := f36.keep K42
      have f45 := f37.keep K42
      have f46 := f38.keep K42
      have f47 := f39.keep K42
      have f48 := E34q.keep K42
      have z49 : n0 ≤ T42.heap.size := Nat.le_trans z40 K42.1
      have O50 := O41.keep K42 all0
      refine OwnK.astore X42 hx (hb hby at_475) (pc' := 477) rfl rfl (Ls' := #[.val (.int p0), .val (.int p1), .val (.int p2), .val (.int p3), .val (.int p4), .val (.int p5), .val (.int (0 : Int32)), .val (.int (0 : Int32)), .val (.int u3), .val (.int u4), .val (.int u11), .val (.int p0), .val (.int p1), .val (.int (p0 ^^^ p1)), .val (.int (p0 ^^^ (-1 : Int32))), .val (.int p1), .val (.int (p1 ^^^ (-1 : Int32))), .val (.int (p0 + p1)), .val (.int (-p0)), .val (.ref r12), .val (.ref r16), .val (.ref r21), .val (.ref r27), .val (.ref r34), .val (.ref r42), .unset, .unset, .unset, .unset, .unset]) rfl ?_
      refine OwnK.iload X42 hx (hb hby at_477) (pc' := 479) rfl (v := (0 : Int32)) rfl ?_
      refine OwnK.if_eq X42 hx (hb hby at_479) (by decide) (pcT := 487) (by decide) (pc' := 482) rfl (fun hc479 => ?_) (fun (hc479 : ¬ 0 = 0) => absurd hc479 (by decide))
      refine OwnK.iload X42 hx (hb hby at_487) (pc' := 489) rfl (v := (p0 + p1)) rfl ?_
      refine OwnK.callS_ X42 hx hZ hown (y := (⟨"java/lang/Integer", "valueOf", "(I)Ljava/lang/Integer;"⟩ : MethodName)) (hw _ (List.mem_of_getElem? (i := 25) rfl)) (hw _ (List.mem_of_getElem? (i := 26) rfl)) (hw _ (List.mem_of_getElem? (i := 27) rfl)) (hw _ (List.mem_of_getElem? (i := 28) rfl)) (by decide) (own_met6 l Z a0 hw T42.heap n0 z49 (p0 + p1) aC kC vsC O50  SH SC AC CE ) (by decide) (W := 0) (by decide) rfl (by rw [hml]; rfl) own_pd_1 (argsL := [(.int (p0 + p1))]) rfl (S := []) rfl (Nat.le_of_eq rfl) (hb hby at_489) (pc' := 492) rfl (by decide) (by decide) (fun T51 v51 L51 X51 hQ51 => ?_)
      obtain ⟨r51, rfl, N51q, K51, E51q⟩ := hQ51
      have N52 := Fr.app N43 N51q
      have f53 := f44.keep K51
      have f54 := f45.keep K51
      have f55 := f46.keep K51
      have f56 := f47.keep K51
      have f57 := f48.keep K51
      have f58 := E42q.keep K51
      have z59 : n0 ≤ T51.heap.size := Nat.le_trans z49 K51.1
      have O60 := O50.keep K51 all0
      refine OwnK.astore X51 hx (hb hby at_492) (pc' := 494) rfl rfl (Ls' := #[.val (.int p0), .val (.int p1), .val (.int p2), .val (.int p3), .val (.int p4), .val (.int p5), .val (.int (0 : Int32)), .val (.int (0 : Int32)), .val (.int u3), .val (.int u4), .val (.int u11), .val (.int p0), .val (.int p1), .val (.int (p0 ^^^ p1)), .val (.int (p0 ^^^ (-1 : Int32))), .val (.int p1), .val (.int (p1 ^^^ (-1 : Int32))), .val (.int (p0 + p1)), .val (.int (-p0)), .val (.ref r12), .val (.ref r16), .val (.ref r21), .val (.ref r27), .val (.ref r34), .val (.ref r42), .val (.ref r51), .unset, .unset, .unset, .unset]) rfl ?_
      refine OwnK.iload X51 hx (hb hby at_494) (pc' := 496) rfl (v := (0 : Int32)) rfl ?_
      refine OwnK.if_eq X51 hx (hb hby at_496) (by decide) (pcT := 504) (by decide) (pc' := 499) rfl (fun hc496 => ?_) (fun (hc496 : ¬ 0 = 0) => absurd hc496 (by decide))
      refine OwnK.iload X51 hx (hb hby at_504) (pc' := 506) rfl (v := (-p0)) rfl ?_
      refine OwnK.callS_ X51 hx hZ hown (y := (⟨"java/lang/Integer", "valueOf", "(I)Ljava/lang/Integer;"⟩ : MethodName)) (hw _ (List.mem_of_getElem? (i := 25) rfl)) (hw _ (List.mem_of_getElem? (i := 26) rfl)) (hw _ (List.mem_of_getElem? (i := 27) rfl)) (hw _ (List.mem_of_getElem? (i := 28) rfl)) (by decide) (own_met6 l Z a0 hw T51.heap n0 z59 (-p0) aC kC vsC O60  SH SC AC CE ) (by decide) (W := 0) (by decide) rfl (by rw [hml]; rfl) own_pd_1 (argsL := [(.int (-p0))]) rfl (S := []) rfl (Nat.le_of_eq rfl) (hb hby at_506) (pc' := 509) rfl (by decide) (by decide) (fun T61 v61 L61 X61 hQ61 => ?_)
      obtain ⟨r61, rfl, N61q, K61, E61q⟩ := hQ61
      have N62 := Fr.app N52 N61q
      have f63 := f53.keep K61
      have f64 := f54.keep K61
      have f65 := f55.keep K61
      have f66 := f56.keep K61
      have f67 := f57.keep K61
      have f68 := f58.keep K61
      have f69 := E51q.keep K61
      have z70 : n0 ≤ T61.heap.size := Nat.le_trans z59 K61.1
      have O71 := O60.keep K61 all0
      refine OwnK.astore X61 hx (hb hby at_509) (pc' := 511) rfl rfl (Ls' := #[.val (.int p0), .val (.int p1), .val (.int p2), .val (.int p3), .val (.int p4), .val (.int p5), .val (.int (0 : Int32)), .val (.int (0 : Int32)), .val (.int u3), .val (.int u4), .val (.int u11), .val (.int p0), .val (.int p1), .val (.int (p0 ^^^ p1)), .val (.int (p0 ^^^ (-1 : Int32))), .val (.int p1), .val (.int (p1 ^^^ (-1 : Int32))), .val (.int (p0 + p1)), .val (.int (-p0)), .val (.ref r12), .val (.ref r16), .val (.ref r21), .val (.ref r27), .val (.ref r34), .val (.ref r42), .val (.ref r51), .val (.ref r61), .unset, .unset, .unset]) rfl ?_
      refine OwnK.iconst X61 hx (hb hby at_511) (pc' := 512) rfl (v := (4 : Int32)) (by decide) ?_
      refine OwnK.newR_ X61 hx hZ hown (hw _ (List.mem_of_getElem? (i := 32) rfl)) (hw _ (List.mem_of_getElem? (i := 33) rfl)) rfl (hb hby at_512) (pc' := 515) rfl (n := (4 : Int32)) (by decide) (cap := 4) (by decide) (by decide) (by decide) (by decide) (ad := "[Ljava/lang/Object;") (by decide) (fun T72 h72 a72 k72 X72 e72 g72 E72 V72 Q72 O72 => ?_)
      have q73 : r12 ≠ a72 := Nat.ne_of_lt (Nat.lt_of_lt_of_le f63.lt (Nat.le_of_eq g72.symm))
      have q74 : r16 ≠ a72 := Nat.ne_of_lt (Nat.lt_of_lt_of_le f64.lt (Nat.le_of_eq g72.symm))
      have q75 : r21 ≠ a72 := Nat.ne_of_lt (Nat.lt_of_lt_of_le f65.lt (Nat.le_of_eq g72.symm))
      have q76 : r27 ≠ a72 := Nat.ne_of_lt (Nat.lt_of_lt_of_le f66.lt (Nat.le_of_eq g72.symm))
      have q77 : r34 ≠ a72 := Nat.ne_of_lt (Nat.lt_of_lt_of_le f67.lt (Nat.le_of_eq g72.symm))
      have q78 : r42 ≠ a72 := Nat.ne_of_lt (Nat.lt_of_lt_of_le f68.lt (Nat.le_of_eq g72.symm))
      have q79 : r51 ≠ a72 := Nat.ne_of_lt (Nat.lt_of_lt_of_le f69.lt (Nat.le_of_eq g72.symm))
      have q80 : r61 ≠ a72 := Nat.ne_of_lt (Nat.lt_of_lt_of_le E61q.lt (Nat.le_of_eq g72.symm))
      have ge_a72 : n0 ≤ a72 := Nat.le_trans z70 (Nat.le_of_eq g72.symm)
      have z81 : n0 ≤ h72.size := Nat.le_trans z70 E72.1
      have f82 := f63.ext E72
      have f83 := f64.ext E72
      have f84 := f65.ext E72
      have f85 := f66.ext E72
      have f86 := f67.ext E72
      have f87 := f68.ext E72
      have f88 := f69.ext E72
      have f89 := E61q.ext E72
      have O90 := O71.ext E72
      have f91 : Arv Z h72 a72 k72 (.object "java/lang/Object") (4 : Int32) [.null, .null, .null, .null] .null := V72.pad (pad_rep [] .null 4)
      refine OwnK.dup X72 hx (hb hby at_515) (pc' := 516) rfl rfl ?_
      refine OwnK.iconst X72 hx (hb hby at_516) (pc' := 517) rfl (v := (0 : Int32)) (by decide) ?_
      refine OwnK.aload X72 hx (hb hby at_517) (pc' := 519) rfl (v := (.ref r12)) rfl rfl ?_
      refine OwnK.aastore X72 hx hZ e72 f91 rfl rfl (OwnK.stoOf f91 O72 (Ins.of_exa f82 (hw _ (List.mem_of_getElem? (i := 34) rfl)))) (i := 0) (by decide) (by first | decide | omega) (Nat.le_of_ble_eq_true rfl) (hb hby at_519) (pc' := 520) rfl (fun T92 h92 X92 e92 W92 V92 => ?_)
      have f93 := f82.wr W92
      have f94 := f83.wr W92
      have f95 := f84.wr W92
      have f96 := f85.wr W92
      have f97 := f86.wr W92
      have f98 := f87.wr W92
      have f99 := f88.wr W92
      have f100 := f89.wr W92
      have f101 := Q72.wr W92
      have f102 : Arv Z h92 a72 _ (.object "java/lang/Object") (4 : Int32) [(.ref r12), .null, .null, .null] .null := V92
      have N103 := Fr.snoc X92 N62 ge_a72
      have O104 := O90.wr W92 ge_a72
      have z105 : n0 ≤ h92.size := Nat.le_trans z81 (Keep.of_wr W92).1
      refine OwnK.dup X92 hx (hb hby at_520) (pc' := 521) rfl rfl ?_
      refine OwnK.iconst X92 hx (hb hby at_521) (pc' := 522) rfl (v := (1 : Int32)) (by decide) ?_
      refine OwnK.aload X92 hx (hb hby at_522) (pc' := 524) rfl (v := (.ref r16)) rfl rfl ?_
      refine OwnK.aastore X92 hx hZ e92 f102 rfl rfl (OwnK.stoOf f102 O72 (Ins.of_exa f94 (hw _ (List.mem_of_getElem? (i := 34) rfl)))) (i := 1) (by decide) (by first | decide | omega) (Nat.le_of_ble_eq_true rfl) (hb hby at_524) (pc' := 525) rfl (fun T106 h106 X106 e106 W106 V106 => ?_)
      have f107 := f93.wr W106
      have f108 := f94.wr W106
      have f109 := f95.wr W106
      have f110 := f96.wr W106
      have f111 := f97.wr W106
      have f112 := f98.wr W106
      have f113 := f99.wr W106
      have f114 := f100.wr W106
      have f115 := f101.wr W106
      have f116 : Arv Z h106 a72 _ (.object "java/lang/Object") (4 : Int32) [(.ref r12), (.ref r16), .null, .null] .null := V106
      have N117 := Fr.snoc X106 N103 ge_a72
      have O118 := O104.wr W106 ge_a72
      have z119 : n0 ≤ h106.size := Nat.le_trans z105 (Keep.of_wr W106).1
      refine OwnK.dup X106 hx (hb hby at_525) (pc' := 526) rfl rfl ?_
      refine OwnK.iconst X106 hx (hb hby at_526) (pc' := 527) rfl (v := (2 : Int32)) (by decide) ?_
      refine OwnK.aload X106 hx (hb hby at_527) (pc' := 529) rfl (v := (.ref r21)) rfl rfl ?_
      refine OwnK.aastore X106 hx hZ e106 f116 rfl rfl (OwnK.stoOf f116 O72 (Ins.of_exa f109 (hw _ (List.mem_of_getElem? (i := 34) rfl)))) (i := 2) (by decide) (by first | decide | omega) (Nat.le_of_ble_eq_true rfl) (hb hby at_529) (pc' := 530) rfl (fun T120 h120 X120 e120 W120 V120 => ?_)
      have f121 := f107.wr W120
      have f122 := f108.wr W120
      have f123 := f109.wr W120
      have f124 := f110.wr W120
      have f125 := f111.wr W120
      have f126 := f112.wr W120
      have f127 := f113.wr W120
      have f128 := f114.wr W120
      have f129 := f115.wr W120
      have f130 : Arv Z h120 a72 _ (.object "java/lang/Object") (4 : Int32) [(.ref r12), (.ref r16), (.ref r21), .null] .null := V120
      have N131 := Fr.snoc X120 N117 ge_a72
      have O132 := O118.wr W120 ge_a72
      have z133 : n0 ≤ h120.size := Nat.le_trans z119 (Keep.of_wr W120).1
      refine OwnK.dup X120 hx (hb hby at_530) (pc' := 531) rfl rfl ?_
      refine OwnK.iconst X120 hx (hb hby at_531) (pc' := 532) rfl (v := (3 : Int32)) (by decide) ?_
      refine OwnK.aload X120 hx (hb hby at_532) (pc' := 534) rfl (v := (.ref r27)) rfl rfl ?_
      refine OwnK.aastore X120 hx hZ e120 f130 rfl rfl (OwnK.stoOf f130 O72 (Ins.of_exa f124 (hw _ (List.mem_of_getElem? (i := 34) rfl)))) (i := 3) (by decide) (by first | decide | omega) (Nat.le_of_ble_eq_true rfl) (hb hby at_534) (pc' := 535) rfl (fun T134 h134 X134 e134 W134 V134 => ?_)
      have f135 := f121.wr W134
      have f136 := f122.wr W134
      have f137 := f123.wr W134
      have f138 := f124.wr W134
      have f139 := f125.wr W134
      have f140 := f126.wr W134
      have f141 := f127.wr W134
      have f142 := f128.wr W134
      have f143 := f129.wr W134
      have f144 : Arv Z h134 a72 _ (.object "java/lang/Object") (4 : Int32) [(.ref r12), (.ref r16), (.ref r21), (.ref r27)] .null := V134
      have N145 := Fr.snoc X134 N131 ge_a72
      have O146 := O132.wr W134 ge_a72
      have z147 : n0 ≤ h134.size := Nat.le_trans z133 (Keep.of_wr W134).1
      refine OwnK.astore X134 hx (hb hby at_535) (pc' := 537) rfl rfl (Ls' := #[.val (.int p0), .val (.int p1), .val (.int p2), .val (.int p3), .val (.int p4), .val (.int p5), .val (.int (0 : Int32)), .val (.int (0 : Int32)), .val (.int u3), .val (.int u4), .val (.int u11), .val (.int p0), .val (.int p1), .val (.int (p0 ^^^ p1)), .val (.int (p0 ^^^ (-1 : Int32))), .val (.int p1), .val (.int (p1 ^^^ (-1 : Int32))), .val (.int (p0 + p1)), .val (.int (-p0)), .val (.ref r12), .val (.ref r16), .val (.ref r21), .val (.ref r27), .val (.ref r34), .val (.ref r42), .val (.ref r51), .val (.ref r61), .val (.ref a72), .unset, .unset]) rfl ?_
      refine OwnK.iload X134 hx (hb hby at_537) (pc' := 539) rfl (v := (0 : Int32)) rfl ?_
      refine OwnK.if_eq X134 hx (hb hby at_539) (by decide) (pcT := 547) (by decide) (pc' := 542) rfl (fun hc539 => ?_) (fun (hc539 : ¬ 0 = 0) => absurd hc539 (by decide))
      refine OwnK.iconst X134 hx (hb hby at_547) (pc' := 548) rfl (v := (4 : Int32)) (by decide) ?_
      refine OwnK.newR_ X134 hx hZ hown (hw _ (List.mem_of_getElem? (i := 32) rfl)) (hw _ (List.mem_of_getElem? (i := 33) rfl)) e134 (hb hby at_548) (pc' := 551) rfl (n := (4 : Int32)) (by decide) (cap := 4) (by decide) (by decide) (by decide) (by decide) (ad := "[Ljava/lang/Object;") (by decide) (fun T148 h148 a148 k148 X148 e148 g148 E148 V148 Q148 O148 => ?_)
      have q149 : a72 ≠ a148 := Nat.ne_of_lt (Nat.lt_of_lt_of_le f144.lt (Nat.le_of_eq g148.symm))
      have q150 : r12 ≠ a148 := Nat.ne_of_lt (Nat.lt_of_lt_of_le f135.lt (Nat.le_of_eq g148.symm))
      have q151 : r16 ≠ a148 := Nat.ne_of_lt (Nat.lt_of_lt_of_le f136.lt (Nat.le_of_eq g148.symm))
      have q152 : r21 ≠ a148 := Nat.ne_of_lt (Nat.lt_of_lt_of_le f137.lt (Nat.le_of_eq g148.symm))
      have q153 : r27 ≠ a148 := Nat.ne_of_lt (Nat.lt_of_lt_of_le f138.lt (Nat.le_of_eq g148.symm))
      have q154 : r34 ≠ a148 := Nat.ne_of_lt (Nat.lt_of_lt_of_le f139.lt (Nat.le_of_eq g148.symm))
      have q155 : r42 ≠ a148 := Nat.ne_of_lt (Nat.lt_of_lt_of_le f140.lt (Nat.le_of_eq g148.symm))
      have q156 : r51 ≠ a148 := Nat.ne_of_lt (Nat.lt_of_lt_of_le f141.lt (Nat.le_of_eq g148.symm))
      have q157 : r61 ≠ a148 := Nat.ne_of_lt (Nat.lt_of_lt_of_le f142.lt (Nat.le_of_eq g148.symm))
      have ge_a148 : n0 ≤ a148 := Nat.le_trans z147 (Nat.le_of_eq g148.symm)
      have z158 : n0 ≤ h148.size := Nat.le_trans z147 E148.1
      have f159 := f135.ext E148
      have f160 := f136.ext E148
      have f161 := f137.ext E148
      have f162 := f138.ext E148
      have f163 := f139.ext E148
      have f164 := f140.ext E148
      have f165 := f141.ext E148
      have f166 := f142.ext E148
      have f167 := f144.ext E148
      have f168 := f143.ext E148
      have O169 := O146.ext E148
      have f170 : Arv Z h148 a148 k148 (.object "java/lang/Object") (4 : Int32) [.null, .null, .null, .null] .null := V148.pad (pad_rep [] .null 4)
      refine OwnK.dup X148 hx (hb hby at_551) (pc' := 552) rfl rfl ?_
      refine OwnK.iconst X148 hx (hb hby at_552) (pc' := 553) rfl (v := (0 : Int32)) (by decide) ?_
      refine OwnK.aload X148 hx (hb hby at_553) (pc' := 555) rfl (v := (.ref r34)) rfl rfl ?_
      refine OwnK.aastore X148 hx hZ e148 f170 rfl rfl (OwnK.stoOf f170 O148 (Ins.of_exa f163 (hw _ (List.mem_of_getElem? (i := 34) rfl)))) (i := 0) (by decide) (by first | decide | omega) (Nat.le_of_ble_eq_true rfl) (hb hby at_555) (pc' := 556) rfl (fun T171 h171 X171 e171 W171 V171 => ?_)
      have f172 := f159.wr W171
      have f173 := f160.wr W171
      have f174 := f161.wr W171
      have f175 := f162.wr W171
      have f176 := f163.wr W171
      have f177 := f164.wr W171
      have f178 := f165.wr W171
      have f179 := f166.wr W171
      have f180 := f167.other W171 q149
      have f181 := f168.wr W171
      have f182 := Q148.wr W171
      have f183 : Arv Z h171 a148 _ (.object "java/lang/Object") (4 : Int32) [(.ref r34), .null, .null, .null] .null := V171
      have N184 := Fr.snoc X171 N145 ge_a148
      have O185 := O169.wr W171 ge_a148
      have z186 : n0 ≤ h171.size := Nat.le_trans z158 (Keep.of_wr W171).1
      refine OwnK.dup X171 hx (hb hby at_556) (pc' := 557) rfl rfl ?_
      refine OwnK.iconst X171 hx (hb hby at_557) (pc' := 558) rfl (v := (1 : Int32)) (by decide) ?_
      refine OwnK.aload X171 hx (hb hby at_558) (pc' := 560) rfl (v := (.ref r42)) rfl rfl ?_
      refine OwnK.aastore X171 hx hZ e171 f183 rfl rfl (OwnK.stoOf f183 O148 (Ins.of_exa f177 (hw _ (List.mem_of_getElem? (i := 34) rfl)))) (i := 1) (by decide) (by first | decide | omega) (Nat.le_of_ble_eq_true rfl) (hb hby at_560) (pc' := 561) rfl (fun T187 h187 X187 e187 W187 V187 => ?_)
      have f188 := f172.wr W187
      have f189 := f173.wr W187
      have f190 := f174.wr W187
      have f191 := f175.wr W187
      have f192 := f176.wr W187
      have f193 := f177.wr W187
      have f194 := f178.wr W187
      have f195 := f179.wr W187
      have f196 := f180.other W187 q149
      have f197 := f181.wr W187
      have f198 := f182.wr W187
      have f199 : Arv Z h187 a148 _ (.object "java/lang/Object") (4 : Int32) [(.ref r34), (.ref r42), .null, .null] .null := V187
      have N200 := Fr.snoc X187 N184 ge_a148
      have O201 := O185.wr W187 ge_a148
      have z202 : n0 ≤ h187.size := Nat.le_trans z186 (Keep.of_wr W187).1
      refine OwnK.dup X187 hx (hb hby at_561) (pc' := 562) rfl rfl ?_
      refine OwnK.iconst X187 hx (hb hby at_562) (pc' := 563) rfl (v := (2 : Int32)) (by decide) ?_
      refine OwnK.aload X187 hx (hb hby at_563) (pc' := 565) rfl (v := (.ref r51)) rfl rfl ?_
      refine OwnK.aastore X187 hx hZ e187 f199 rfl rfl (OwnK.stoOf f199 O148 (Ins.of_exa f194 (hw _ (List.mem_of_getElem? (i := 34) rfl)))) (i := 2) (by decide) (by first | decide | omega) (Nat.le_of_ble_eq_true rfl) (hb hby at_565) (pc' := 566) rfl (fun T203 h203 X203 e203 W203 V203 => ?_)
      have f204 := f188.wr W203
      have f205 := f189.wr W203
      have f206 := f190.wr W203
      have f207 := f191.wr W203
      have f208 := f192.wr W203
      have f209 := f193.wr W203
      have f210 := f194.wr W203
      have f211 := f195.wr W203
      have f212 := f196.other W203 q149
      have f213 := f197.wr W203
      have f214 := f198.wr W203
      have f215 : Arv Z h203 a148 _ (.object "java/lang/Object") (4 : Int32) [(.ref r34), (.ref r42), (.ref r51), .null] .null := V203
      have N216 := Fr.snoc X203 N200 ge_a148
      have O217 := O201.wr W203 ge_a148
      have z218 : n0 ≤ h203.size := Nat.le_trans z202 (Keep.of_wr W203).1
      refine OwnK.dup X203 hx (hb hby at_566) (pc' := 567) rfl rfl ?_
      refine OwnK.iconst X203 hx (hb hby at_567) (pc' := 568) rfl (v := (3 : Int32)) (by decide) ?_
      refine OwnK.aload X203 hx (hb hby at_568) (pc' := 570) rfl (v := (.ref r61)) rfl rfl ?_
      refine OwnK.aastore X203 hx hZ e203 f215 rfl rfl (OwnK.stoOf f215 O148 (Ins.of_exa f211 (hw _ (List.mem_of_getElem? (i := 34) rfl)))) (i := 3) (by decide) (by first | decide | omega) (Nat.le_of_ble_eq_true rfl) (hb hby at_570) (pc' := 571) rfl (fun T219 h219 X219 e219 W219 V219 => ?_)
      have f220 := f204.wr W219
      have f221 := f205.wr W219
      have f222 := f206.wr W219
      have f223 := f207.wr W219
      have f224 := f208.wr W219
      have f225 := f209.wr W219
      have f226 := f210.wr W219
      have f227 := f211.wr W219
      have f228 := f212.other W219 q149
      have f229 := f213.wr W219
      have f230 := f214.wr W219
      have f231 : Arv Z h219 a148 _ (.object "java/lang/Object") (4 : Int32) [(.ref r34), (.ref r42), (.ref r51), (.ref r61)] .null := V219
      have N232 := Fr.snoc X219 N216 ge_a148
      have O233 := O217.wr W219 ge_a148
      have z234 : n0 ≤ h219.size := Nat.le_trans z218 (Keep.of_wr W219).1
      refine OwnK.astore X219 hx (hb hby at_571) (pc' := 573) rfl rfl (Ls' := #[.val (.int p0), .val (.int p1), .val (.int p2), .val (.int p3), .val (.int p4), .val (.int p5), .val (.int (0 : Int32)), .val (.int (0 : Int32)), .val (.int u3), .val (.int u4), .val (.int u11), .val (.int p0), .val (.int p1), .val (.int (p0 ^^^ p1)), .val (.int (p0 ^^^ (-1 : Int32))), .val (.int p1), .val (.int (p1 ^^^ (-1 : Int32))), .val (.int (p0 + p1)), .val (.int (-p0)), .val (.ref r12), .val (.ref r16), .val (.ref r21), .val (.ref r27), .val (.ref r34), .val (.ref r42), .val (.ref r51), .val (.ref r61), .val (.ref a72), .val (.ref a148), .unset]) rfl ?_
      refine OwnK.aload X219 hx (hb hby at_573) (pc' := 575) rfl (v := (.ref a72)) rfl rfl ?_
      refine OwnK.iload X219 hx (hb hby at_575) (pc' := 577) rfl (v := u3) rfl ?_
      refine OwnK.aload X219 hx (hb hby at_577) (pc' := 579) rfl (v := (.ref a148)) rfl rfl ?_
      refine OwnK.iload X219 hx (hb hby at_579) (pc' := 581) rfl (v := u4) rfl ?_
      refine OwnK.iload X219 hx (hb hby at_581) (pc' := 583) rfl (v := u11) rfl ?_
      refine OwnK.callS_ X219 hx hZ hown (y := (⟨"com/example/redbark/redbark/KeyArrays", "copy", "(Ljava/lang/Object;ILjava/lang/Object;II)V"⟩ : MethodName)) (hw _ (List.mem_of_getElem? (i := 5) rfl)) (hw _ (List.mem_of_getElem? (i := 6) rfl)) (hw _ (List.mem_of_getElem? (i := 7) rfl)) (hw _ (List.mem_of_getElem? (i := 8) rfl)) (by decide) (own_copyO l Z a0 hw h219 n0 z234 a72 u3 a148 u4 u11 _ _ _ _ _ _ _ _ _  ge_a148 f228 f231 f229 f230 b1_u3 b1_u4 b1_u11 (by omega) (by omega) rfl (own_isI (hw _ (List.mem_of_getElem? (i := 4) rfl)) f229) (own_sto4 (OwnK.stoOf f231 O148 (Ins.of_exa f220 (hw _ (List.mem_of_getElem? (i := 34) rfl)))) (OwnK.stoOf f231 O148 (Ins.of_exa f221 (hw _ (List.mem_of_getElem? (i := 34) rfl)))) (OwnK.stoOf f231 O148 (Ins.of_exa f222 (hw _ (List.mem_of_getElem? (i := 34) rfl)))) (OwnK.stoOf f231 O148 (Ins.of_exa f223 (hw _ (List.mem_of_getElem? (i := 34) rfl))))) ) (by decide) (W := 0) (by decide) e219 (by rw [hml]; rfl) own_pd_9 (argsL := [(.ref a72), (.int u3), (.ref a148), (.int u4), (.int u11)]) rfl (S := []) rfl (Nat.le_of_eq rfl) (hb hby at_583) (pc' := 586) rfl (by decide) (by decide) (fun T235 v235 L235 X235 hQ235 => ?_)
      obtain ⟨rfl, N235q, K235, V235⟩ := hQ235
      have N236 := Fr.app N232 N235q
      have f237 := f220.keep K235
      have f238 := f221.keep K235
      have f239 := f222.keep K235
      have f240 := f223.keep K235
      have f241 := f224.keep K235
      have f242 := f225.keep K235
      have f243 := f226.keep K235
      have f244 := f227.keep K235
      have f245 := f228.keep K235 (ninS q149 nin0)
      have f246 := f229.keep K235
      have f247 := f230.keep K235
      have z248 : n0 ≤ T235.heap.size := Nat.le_trans z234 K235.1
      have O249 := O233.keep K235 (allS ge_a148 all0)
      refine OwnK.aload X235 hx (hb hby at_586) (pc' := 588) rfl (v := (.ref a148)) rfl rfl ?_
      refine OwnK.iconst X235 hx (hb hby at_588) (pc' := 589) rfl (v := (0 : Int32)) (by decide) ?_
      refine OwnK.aaload X235 hx hZ rfl V235 rfl (by decide) (by decide) (v := (.ref (own_exp (0 : Int32).toInt u3.toInt u4.toInt u11.toInt r12 r16 r21 r27 r34 r42 r51 r61))) (own_cpk Value.ref _ _ r12 r16 r21 r27 r34 r42 r51 r61 (k := 0) (by omega) (by omega) (by decide) b1_u3 b1_u4 b1_u11 (by decide)) (hb hby at_589) (pc' := 590) rfl ?_
      refine OwnK.iconst X235 hx (hb hby at_590) (pc' := 591) rfl (v := (0 : Int32)) (by decide) ?_
      refine OwnK.iload X235 hx (hb hby at_591) (pc' := 593) rfl (v := u3) rfl ?_
      refine OwnK.iload X235 hx (hb hby at_593) (pc' := 595) rfl (v := u4) rfl ?_
      refine OwnK.iload X235 hx (hb hby at_595) (pc' := 597) rfl (v := u11) rfl ?_
      refine OwnK.aload X235 hx (hb hby at_597) (pc' := 599) rfl (v := (.ref r12)) rfl rfl ?_
      refine OwnK.aload X235 hx (hb hby at_599) (pc' := 601) rfl (v := (.ref r16)) rfl rfl ?_
      refine OwnK.aload X235 hx (hb hby at_601) (pc' := 603) rfl (v := (.ref r21)) rfl rfl ?_
      refine OwnK.aload X235 hx (hb hby at_603) (pc' := 605) rfl (v := (.ref r27)) rfl rfl ?_
      refine OwnK.aload X235 hx (hb hby at_605) (pc' := 607) rfl (v := (.ref r34)) rfl rfl ?_
      refine OwnK.aload X235 hx (hb hby at_607) (pc' := 609) rfl (v := (.ref r42)) rfl rfl ?_
      refine OwnK.aload X235 hx (hb hby at_609) (pc' := 611) rfl (v := (.ref r51)) rfl rfl ?_
      refine OwnK.aload X235 hx (hb hby at_611) (pc' := 613) rfl (v := (.ref r61)) rfl rfl ?_
      refine OwnK.callS_ X235 hx hZ hown (y := (⟨"com/example/redbark/redbark/KeyArraysCopyPinLaw", "expO", "(IIIILjava/lang/Object;Ljava/lang/Object;Ljava/lang/Object;Ljava/lang/Object;Ljava/lang/Object;Ljava/lang/Object;Ljava/lang/Object;Ljava/lang/Object;)Ljava/lang/Object;"⟩ : MethodName)) (hw _ (List.mem_of_getElem? (i := 37) rfl)) (hw _ (List.mem_of_getElem? (i := 38) rfl)) (hw _ (List.mem_of_getElem? (i := 17) rfl)) (hw _ (List.mem_of_getElem? (i := 39) rfl)) (by decide) (own_met7 l Z a0 hw T235.heap (0 : Int32) u3 u4 u11 r12 r16 r21 r27 r34 r42 r51 r61 (by decide) b_u3 b_u4 b_u11 ) (by decide) (W := 1) (by decide) rfl (by rw [hml]; rfl) own_pd_7 (argsL := [(.int (0 : Int32)), (.int u3), (.int u4), (.int u11), (.ref r12), (.ref r16), (.ref r21), (.ref r27), (.ref r34), (.ref r42), (.ref r51), (.ref r61)]) rfl (S := [(.ref (own_exp (0 : Int32).toInt u3.toInt u4.toInt u11.toInt r12 r16 r21 r27 r34 r42 r51 r61))]) rfl (Nat.le_of_eq rfl) (hb hby at_613) (pc' := 616) rfl (by decide) (by decide) (fun T250 v250 L250 X250 hQ250 => ?_)
      obtain ⟨rfl, e250, rfl⟩ := hQ250
      have N251 := Fr.app N236 (Fr.nil n0)
      refine OwnK.acmp_ne X250 hx (hb hby at_616) rfl rfl (by decide) (pcT := 722) (by decide) (pc' := 619) rfl (fun (hc616 : ¬ ((.ref (own_exp (0 : Int32).toInt u3.toInt u4.toInt u11.toInt r12 r16 r21 r27 r34 r42 r51 r61)) : Value) = (.ref (own_exp (0 : Int32).toInt u3.toInt u4.toInt u11.toInt r12 r16 r21 r27 r34 r42 r51 r61))) => absurd rfl hc616) (fun hc616 => ?_)
      refine OwnK.aload X250 hx (hb hby at_619) (pc' := 621) rfl (v := (.ref a148)) rfl rfl ?_
      refine OwnK.iconst X250 hx (hb hby at_621) (pc' := 622) rfl (v := (1 : Int32)) (by decide) ?_
      refine OwnK.aaload X250 hx hZ e250 V235 rfl (by decide) (by decide) (v := (.ref (own_exp (1 : Int32).toInt u3.toInt u4.toInt u11.toInt r12 r16 r21 r27 r34 r42 r51 r61))) (own_cpk Value.ref _ _ r12 r16 r21 r27 r34 r42 r51 r61 (k := 1) (by omega) (by omega) (by decide) b1_u3 b1_u4 b1_u11 (by decide)) (hb hby at_622) (pc' := 623) rfl ?_
      refine OwnK.iconst X250 hx (hb hby at_623) (pc' := 624) rfl (v := (1 : Int32)) (by decide) ?_
      refine OwnK.iload X250 hx (hb hby at_624) (pc' := 626) rfl (v := u3) rfl ?_
      refine OwnK.iload X250 hx (hb hby at_626) (pc' := 628) rfl (v := u4) rfl ?_
      refine OwnK.iload X250 hx (hb hby at_628) (pc' := 630) rfl (v := u11) rfl ?_
      refine OwnK.aload X250 hx (hb hby at_630) (pc' := 632) rfl (v := (.ref r12)) rfl rfl ?_
      refine OwnK.aload X250 hx (hb hby at_632) (pc' := 634) rfl (v := (.ref r16)) rfl rfl ?_
      refine OwnK.aload X250 hx (hb hby at_634) (pc' := 636) rfl (v := (.ref r21)) rfl rfl ?_
      refine OwnK.aload X250 hx (hb hby at_636) (pc' := 638) rfl (v := (.ref r27)) rfl rfl ?_
      refine OwnK.aload X250 hx (hb hby at_638) (pc' := 640) rfl (v := (.ref r34)) rfl rfl ?_
      refine OwnK.aload X250 hx (hb hby at_640) (pc' := 642) rfl (v := (.ref r42)) rfl rfl ?_
      refine OwnK.aload X250 hx (hb hby at_642) (pc' := 644) rfl (v := (.ref r51)) rfl rfl ?_
      refine OwnK.aload X250 hx (hb hby at_644) (pc' := 646) rfl (v := (.ref r61)) rfl rfl ?_
      refine OwnK.callS_ X250 hx hZ hown (y := (⟨"com/example/redbark/redbark/KeyArraysCopyPinLaw", "expO", "(IIIILjava/lang/Object;Ljava/lang/Object;Ljava/lang/Object;Ljava/lang/Object;Ljava/lang/Object;Ljava/lang/Object;Ljava/lang/Object;Ljava/lang/Object;)Ljava/lang/Object;"⟩ : MethodName)) (hw _ (List.mem_of_getElem? (i := 37) rfl)) (hw _ (List.mem_of_getElem? (i := 38) rfl)) (hw _ (List.mem_of_getElem? (i := 17) rfl)) (hw _ (List.mem_of_getElem? (i := 39) rfl)) (by decide) (own_met7 l Z a0 hw T235.heap (1 : Int32) u3 u4 u11 r12 r16 r21 r27 r34 r42 r51 r61 (by decide) b_u3 b_u4 b_u11 ) (by decide) (W := 1) (by decide) e250 (by rw [hml]; rfl) own_pd_7 (argsL := [(.int (1 : Int32)), (.int u3), (.int u4), (.int u11), (.ref r12), (.ref r16), (.ref r21), (.ref r27), (.ref r34), (.ref r42), (.ref r51), (.ref r61)]) rfl (S := [(.ref (own_exp (1 : Int32).toInt u3.toInt u4.toInt u11.toInt r12 r16 r21 r27 r34 r42 r51 r61))]) rfl (Nat.le_of_eq rfl) (hb hby at_646) (pc' := 649) rfl (by decide) (by decide) (fun T252 v252 L252 X252 hQ252 => ?_)
      obtain ⟨rfl, e252, rfl⟩ := hQ252
      have N253 := Fr.app N251 (Fr.nil n0)
      refine OwnK.acmp_ne X252 hx (hb hby at_649) rfl rfl (by decide) (pcT := 722) (by decide) (pc' := 652) rfl (fun (hc649 : ¬ ((.ref (own_exp (1 : Int32).toInt u3.toInt u4.toInt u11.toInt r12 r16 r21 r27 r34 r42 r51 r61)) : Value) = (.ref (own_exp (1 : Int32).toInt u3.toInt u4.toInt u11.toInt r12 r16 r21 r27 r34 r42 r51 r61))) => absurd rfl hc649) (fun hc649 => ?_)
      refine OwnK.aload X252 hx (hb hby at_652) (pc' := 654) rfl (v := (.ref a148)) rfl rfl ?_
      refine OwnK.iconst X252 hx (hb hby at_654) (pc' := 655) rfl (v := (2 : Int32)) (by decide) ?_
      refine OwnK.aaload X252 hx hZ e252 V235 rfl (by decide) (by decide) (v := (.ref (own_exp (2 : Int32).toInt u3.toInt u4.toInt u11.toInt r12 r16 r21 r27 r34 r42 r51 r61))) (own_cpk Value.ref _ _ r12 r16 r21 r27 r34 r42 r51 r61 (k := 2) (by omega) (by omega) (by decide) b1_u3 b1_u4 b1_u11 (by decide)) (hb hby at_655) (pc' := 656) rfl ?_
      refine OwnK.iconst X252 hx (hb hby at_656) (pc' := 657) rfl (v := (2 : Int32)) (by decide) ?_
      refine OwnK.iload X252 hx (hb hby at_657) (pc' := 659) rfl (v := u3) rfl ?_
      refine OwnK.iload X252 hx (hb hby at_659) (pc' := 661) rfl (v := u4) rfl ?_
      refine OwnK.iload X252 hx (hb hby at_661) (pc' := 663) rfl (v := u11) rfl ?_
      refine OwnK.aload X252 hx (hb hby at_663) (pc' := 665) rfl (v := (.ref r12)) rfl rfl ?_
      refine OwnK.aload X252 hx (hb hby at_665) (pc' := 667) rfl (v := (.ref r16)) rfl rfl ?_
      refine OwnK.aload X252 hx (hb hby at_667) (pc' := 669) rfl (v := (.ref r21)) rfl rfl ?_
      refine OwnK.aload X252 hx (hb hby at_669) (pc' := 671) rfl (v := (.ref r27)) rfl rfl ?_
      refine OwnK.aload X252 hx (hb hby at_671) (pc' := 673) rfl (v := (.ref r34)) rfl rfl ?_
      refine OwnK.aload X252 hx (hb hby at_673) (pc' := 675) rfl (v := (.ref r42)) rfl rfl ?_
      refine OwnK.aload X252 hx (hb hby at_675) (pc' := 677) rfl (v := (.ref r51)) rfl rfl ?_
      refine OwnK.aload X252 hx (hb hby at_677) (pc' := 679) rfl (v := (.ref r61)) rfl rfl ?_
      refine OwnK.callS_ X252 hx hZ hown (y := (⟨"com/example/redbark/redbark/KeyArraysCopyPinLaw", "expO", "(IIIILjava/lang/Object;Ljava/lang/Object;Ljava/lang/Object;Ljava/lang/Object;Ljava/lang/Object;Ljava/lang/Object;Ljava/lang/Object;Ljava/lang/Object;)Ljava/lang/Object;"⟩ : MethodName)) (hw _ (List.mem_of_getElem? (i := 37) rfl)) (hw _ (List.mem_of_getElem? (i := 38) rfl)) (hw _ (List.mem_of_getElem? (i := 17) rfl)) (hw _ (List.mem_of_getElem? (i := 39) rfl)) (by decide) (own_met7 l Z a0 hw T235.heap (2 : Int32) u3 u4 u11 r12 r16 r21 r27 r34 r42 r51 r61 (by decide) b_u3 b_u4 b_u11 ) (by decide) (W := 1) (by decide) e252 (by rw [hml]; rfl) own_pd_7 (argsL := [(.int (2 : Int32)), (.int u3), (.int u4), (.int u11), (.ref r12), (.ref r16), (.ref r21), (.ref r27), (.ref r34), (.ref r42), (.ref r51), (.ref r61)]) rfl (S := [(.ref (own_exp (2 : Int32).toInt u3.toInt u4.toInt u11.toInt r12 r16 r21 r27 r34 r42 r51 r61))]) rfl (Nat.le_of_eq rfl) (hb hby at_679) (pc' := 682) rfl (by decide) (by decide) (fun T254 v254 L254 X254 hQ254 => ?_)
      obtain ⟨rfl, e254, rfl⟩ := hQ254
      have N255 := Fr.app N253 (Fr.nil n0)
      refine OwnK.acmp_ne X254 hx (hb hby at_682) rfl rfl (by decide) (pcT := 722) (by decide) (pc' := 685) rfl (fun (hc682 : ¬ ((.ref (own_exp (2 : Int32).toInt u3.toInt u4.toInt u11.toInt r12 r16 r21 r27 r34 r42 r51 r61)) : Value) = (.ref (own_exp (2 : Int32).toInt u3.toInt u4.toInt u11.toInt r12 r16 r21 r27 r34 r42 r51 r61))) => absurd rfl hc682) (fun hc682 => ?_)
      refine OwnK.aload X254 hx (hb hby at_685) (pc' := 687) rfl (v := (.ref a148)) rfl rfl ?_
      refine OwnK.iconst X254 hx (hb hby at_687) (pc' := 688) rfl (v := (3 : Int32)) (by decide) ?_
      refine OwnK.aaload X254 hx hZ e254 V235 rfl (by decide) (by decide) (v := (.ref (own_exp (3 : Int32).toInt u3.toInt u4.toInt u11.toInt r12 r16 r21 r27 r34 r42 r51 r61))) (own_cpk Value.ref _ _ r12 r16 r21 r27 r34 r42 r51 r61 (k := 3) (by omega) (by omega) (by decide) b1_u3 b1_u4 b1_u11 (by decide)) (hb hby at_688) (pc' := 689) rfl ?_
      refine OwnK.iconst X254 hx (hb hby at_689) (pc' := 690) rfl (v := (3 : Int32)) (by decide) ?_
      refine OwnK.iload X254 hx (hb hby at_690) (pc' := 692) rfl (v := u3) rfl ?_
      refine OwnK.iload X254 hx (hb hby at_692) (pc' := 694) rfl (v := u4) rfl ?_
      refine OwnK.iload X254 hx (hb hby at_694) (pc' := 696) rfl (v := u11) rfl ?_
      refine OwnK.aload X254 hx (hb hby at_696) (pc' := 698) rfl (v := (.ref r12)) rfl rfl ?_
      refine OwnK.aload X254 hx (hb hby at_698) (pc' := 700) rfl (v := (.ref r16)) rfl rfl ?_
      refine OwnK.aload X254 hx (hb hby at_700) (pc' := 702) rfl (v := (.ref r21)) rfl rfl ?_
      refine OwnK.aload X254 hx (hb hby at_702) (pc' := 704) rfl (v := (.ref r27)) rfl rfl ?_
      refine OwnK.aload X254 hx (hb hby at_704) (pc' := 706) rfl (v := (.ref r34)) rfl rfl ?_
      refine OwnK.aload X254 hx (hb hby at_706) (pc' := 708) rfl (v := (.ref r42)) rfl rfl ?_
      refine OwnK.aload X254 hx (hb hby at_708) (pc' := 710) rfl (v := (.ref r51)) rfl rfl ?_
      refine OwnK.aload X254 hx (hb hby at_710) (pc' := 712) rfl (v := (.ref r61)) rfl rfl ?_
      refine OwnK.callS_ X254 hx hZ hown (y := (⟨"com/example/redbark/redbark/KeyArraysCopyPinLaw", "expO", "(IIIILjava/lang/Object;Ljava/lang/Object;Ljava/lang/Object;Ljava/lang/Object;Ljava/lang/Object;Ljava/lang/Object;Ljava/lang/Object;Ljava/lang/Object;)Ljava/lang/Object;"⟩ : MethodName)) (hw _ (List.mem_of_getElem? (i := 37) rfl)) (hw _ (List.mem_of_getElem? (i := 38) rfl)) (hw _ (List.mem_of_getElem? (i := 17) rfl)) (hw _ (List.mem_of_getElem? (i := 39) rfl)) (by decide) (own_met7 l Z a0 hw T235.heap (3 : Int32) u3 u4 u11 r12 r16 r21 r27 r34 r42 r51 r61 (by decide) b_u3 b_u4 b_u11 ) (by decide) (W := 1) (by decide) e254 (by rw [hml]; rfl) own_pd_7 (argsL := [(.int (3 : Int32)), (.int u3), (.int u4), (.int u11), (.ref r12), (.ref r16), (.ref r21), (.ref r27), (.ref r34), (.ref r42), (.ref r51), (.ref r61)]) rfl (S := [(.ref (own_exp (3 : Int32).toInt u3.toInt u4.toInt u11.toInt r12 r16 r21 r27 r34 r42 r51 r61))]) rfl (Nat.le_of_eq rfl) (hb hby at_712) (pc' := 715) rfl (by decide) (by decide) (fun T256 v256 L256 X256 hQ256 => ?_)
      obtain ⟨rfl, e256, rfl⟩ := hQ256
      have N257 := Fr.app N255 (Fr.nil n0)
      refine OwnK.acmp_ne X256 hx (hb hby at_715) rfl rfl (by decide) (pcT := 722) (by decide) (pc' := 718) rfl (fun (hc715 : ¬ ((.ref (own_exp (3 : Int32).toInt u3.toInt u4.toInt u11.toInt r12 r16 r21 r27 r34 r42 r51 r61)) : Value) = (.ref (own_exp (3 : Int32).toInt u3.toInt u4.toInt u11.toInt r12 r16 r21 r27 r34 r42 r51 r61))) => absurd rfl hc715) (fun hc715 => ?_)
      refine OwnK.iconst X256 hx (hb hby at_718) (pc' := 719) rfl (v := (1 : Int32)) (by decide) ?_
      refine OwnK.goto_ X256 hx (hb hby at_719) (by decide) (pc' := 723) (by decide) ?_
      refine OwnK.istore X256 hx (hb hby at_723) (pc' := 725) rfl (Ls' := #[.val (.int p0), .val (.int p1), .val (.int p2), .val (.int p3), .val (.int p4), .val (.int p5), .val (.int (0 : Int32)), .val (.int (0 : Int32)), .val (.int u3), .val (.int u4), .val (.int u11), .val (.int p0), .val (.int p1), .val (.int (p0 ^^^ p1)), .val (.int (p0 ^^^ (-1 : Int32))), .val (.int p1), .val (.int (p1 ^^^ (-1 : Int32))), .val (.int (p0 + p1)), .val (.int (-p0)), .val (.ref r12), .val (.ref r16), .val (.ref r21), .val (.ref r27), .val (.ref r34), .val (.ref r42), .val (.ref r51), .val (.ref r61), .val (.ref a72), .val (.ref a148), .val (.int (1 : Int32))]) rfl ?_
      refine OwnK.iload X256 hx (hb hby at_725) (pc' := 727) rfl (v := (0 : Int32)) rfl ?_
      refine OwnK.if_ne X256 hx (hb hby at_727) (by decide) (pcT := 778) (by decide) (pc' := 730) rfl (fun (hc727 : ¬ 0 = 0) => absurd hc727 (by decide)) (fun hc727 => ?_)
      refine OwnK.iload X256 hx (hb hby at_730) (pc' := 732) rfl (v := (1 : Int32)) rfl ?_
      refine OwnK.if_eq X256 hx (hb hby at_732) (by decide) (pcT := 775) (by decide) (pc' := 735) rfl (fun (hc732 : 1 = 0) => absurd hc732 (by decide)) (fun hc732 => ?_)
      refine OwnK.aload X256 hx (hb hby at_735) (pc' := 737) rfl (v := (.ref a72)) rfl rfl ?_
      refine OwnK.iconst X256 hx (hb hby at_737) (pc' := 738) rfl (v := (0 : Int32)) (by decide) ?_
      refine OwnK.aaload X256 hx hZ e256 f245 rfl (by decide) (by first | decide | omega) (v := (.ref r12)) rfl (hb hby at_738) (pc' := 739) rfl ?_
      refine OwnK.aload X256 hx (hb hby at_739) (pc' := 741) rfl (v := (.ref r12)) rfl rfl ?_
      refine OwnK.acmp_ne X256 hx (hb hby at_741) rfl rfl (by decide) (pcT := 775) (by decide) (pc' := 744) rfl (fun (hc741 : ¬ ((.ref r12) : Value) = (.ref r12)) => absurd rfl hc741) (fun hc741 => ?_)
      refine OwnK.aload X256 hx (hb hby at_744) (pc' := 746) rfl (v := (.ref a72)) rfl rfl ?_
      refine OwnK.iconst X256 hx (hb hby at_746) (pc' := 747) rfl (v := (1 : Int32)) (by decide) ?_
      refine OwnK.aaload X256 hx hZ e256 f245 rfl (by decide) (by first | decide | omega) (v := (.ref r16)) rfl (hb hby at_747) (pc' := 748) rfl ?_
      refine OwnK.aload X256 hx (hb hby at_748) (pc' := 750) rfl (v := (.ref r16)) rfl rfl ?_
      refine OwnK.acmp_ne X256 hx (hb hby at_750) rfl rfl (by decide) (pcT := 775) (by decide) (pc' := 753) rfl (fun (hc750 : ¬ ((.ref r16) : Value) = (.ref r16)) => absurd rfl hc750) (fun hc750 => ?_)
      refine OwnK.aload X256 hx (hb hby at_753) (pc' := 755) rfl (v := (.ref a72)) rfl rfl ?_
      refine OwnK.iconst X256 hx (hb hby at_755) (pc' := 756) rfl (v := (2 : Int32)) (by decide) ?_
      refine OwnK.aaload X256 hx hZ e256 f245 rfl (by decide) (by first | decide | omega) (v := (.ref r21)) rfl (hb hby at_756) (pc' := 757) rfl ?_
      refine OwnK.aload X256 hx (hb hby at_757) (pc' := 759) rfl (v := (.ref r21)) rfl rfl ?_
      refine OwnK.acmp_ne X256 hx (hb hby at_759) rfl rfl (by decide) (pcT := 775) (by decide) (pc' := 762) rfl (fun (hc759 : ¬ ((.ref r21) : Value) = (.ref r21)) => absurd rfl hc759) (fun hc759 => ?_)
      refine OwnK.aload X256 hx (hb hby at_762) (pc' := 764) rfl (v := (.ref a72)) rfl rfl ?_
      refine OwnK.iconst X256 hx (hb hby at_764) (pc' := 765) rfl (v := (3 : Int32)) (by decide) ?_
      refine OwnK.aaload X256 hx hZ e256 f245 rfl (by decide) (by first | decide | omega) (v := (.ref r27)) rfl (hb hby at_765) (pc' := 766) rfl ?_
      refine OwnK.aload X256 hx (hb hby at_766) (pc' := 768) rfl (v := (.ref r27)) rfl rfl ?_
      refine OwnK.acmp_ne X256 hx (hb hby at_768) rfl rfl (by decide) (pcT := 775) (by decide) (pc' := 771) rfl (fun (hc768 : ¬ ((.ref r27) : Value) = (.ref r27)) => absurd rfl hc768) (fun hc768 => ?_)
      refine OwnK.iconst X256 hx (hb hby at_771) (pc' := 772) rfl (v := (1 : Int32)) (by decide) ?_
      refine OwnK.goto_ X256 hx (hb hby at_772) (by decide) (pc' := 776) (by decide) ?_
      refine OwnK.istore X256 hx (hb hby at_776) (pc' := 778) rfl (Ls' := #[.val (.int p0), .val (.int p1), .val (.int p2), .val (.int p3), .val (.int p4), .val (.int p5), .val (.int (0 : Int32)), .val (.int (0 : Int32)), .val (.int u3), .val (.int u4), .val (.int u11), .val (.int p0), .val (.int p1), .val (.int (p0 ^^^ p1)), .val (.int (p0 ^^^ (-1 : Int32))), .val (.int p1), .val (.int (p1 ^^^ (-1 : Int32))), .val (.int (p0 + p1)), .val (.int (-p0)), .val (.ref r12), .val (.ref r16), .val (.ref r21), .val (.ref r27), .val (.ref r34), .val (.ref r42), .val (.ref r51), .val (.ref r61), .val (.ref a72), .val (.ref a148), .val (.int (1 : Int32))]) rfl ?_
      refine OwnK.iload X256 hx (hb hby at_778) (pc' := 780) rfl (v := (1 : Int32)) rfl ?_
      refine OwnK.retN_ X256 hx hret (by simp) hlk (hb hby at_780) (by decide) (by decide) ?_
      exact ⟨rfl, N257⟩
    · refine OwnK.iconst X0 hx (hb hby at_21) (pc' := 22) rfl (v := (1 : Int32)) (by decide) ?_
      refine OwnK.goto_ X0 hx (hb hby at_22) (by decide) (pc' := 26) (by decide) ?_
      refine OwnK.istore X0 hx (hb hby at_26) (pc' := 28) rfl (Ls' := #[.val (.int p0), .val (.int p1), .val (.int p2), .val (.int p3), .val (.int p4), .val (.int p5), .val (.int (0 : Int32)), .val (.int (1 : Int32)), .unset, .unset, .unset, .unset, .unset, .unset, .unset, .unset, .unset, .unset, .unset, .unset, .unset, .unset, .unset, .unset, .unset, .unset, .unset, .unset, .unset, .unset]) rfl ?_
      refine OwnK.iloadN X0 hx (hb hby at_28) (pc' := 29) rfl (v := p2) rfl ?_
      refine OwnK.iconst X0 hx (hb hby at_29) (pc' := 30) rfl (v := (3 : Int32)) (by decide) ?_
      refine OwnK.iand X0 hx (hb hby at_30) (pc' := 31) rfl ?_
      refine OwnK.istoreG X0 hx (hb hby at_31) (pc' := 33) rfl (Ls' := fun u => #[.val (.int p0), .val (.int p1), .val (.int p2), .val (.int p3), .val (.int p4), .val (.int p5), .val (.int (0 : Int32)), .val (.int (1 : Int32)), .val (.int u), .unset, .unset, .unset, .unset, .unset, .unset, .unset, .unset, .unset, .unset, .unset, .unset, .unset, .unset, .unset, .unset, .unset, .unset, .unset, .unset, .unset]) (fun u => rfl) (fun u258 (hu258 : u258 = (p2 &&& (3 : Int32))) => ?_)
      have b_u258 : 0 ≤ u258.toInt ∧ u258.toInt ≤ 3 := by rw [hu258]; exact own_mm3 _
      have b1_u258 : u258.toInt = ((u258.toInt.toNat : Nat) : Int) := by omega
      have b_u258 : 0 ≤ u258.toInt ∧ u258.toInt ≤ 4 := by omega
      have b2_u258 : u258.toInt ≤ 3 := by rw [hu258]; exact (own_mm3 _).2
      refine OwnK.iloadN X0 hx (hb hby at_33) (pc' := 34) rfl (v := p3) rfl ?_
      refine OwnK.iconst X0 hx (hb hby at_34) (pc' := 35) rfl (v := (3 : Int32)) (by decide) ?_
      refine OwnK.iand X0 hx (hb hby at_35) (pc' := 36) rfl ?_
      refine OwnK.istoreG X0 hx (hb hby at_36) (pc' := 38) rfl (Ls' := fun u => #[.val (.int p0), .val (.int p1), .val (.int p2), .val (.int p3), .val (.int p4), .val (.int p5), .val (.int (0 : Int32)), .val (.int (1 : Int32)), .val (.int u258), .val (.int u), .unset, .unset, .unset, .unset, .unset, .unset, .unset, .unset, .unset, .unset, .unset, .unset, .unset, .unset, .unset, .unset, .unset, .unset, .unset, .unset]) (fun u => rfl) (fun u259 (hu259 : u259 = (p3 &&& (3 : Int32))) => ?_)
      have b_u259 : 0 ≤ u259.toInt ∧ u259.toInt ≤ 3 := by rw [hu259]; exact own_mm3 _
      have b1_u259 : u259.toInt = ((u259.toInt.toNat : Nat) : Int) := by omega
      have b_u259 : 0 ≤ u259.toInt ∧ u259.toInt ≤ 4 := by omega
      have b2_u259 : u259.toInt ≤ 3 := by rw [hu259]; exact (own_mm3 _).2
      refine OwnK.iload X0 hx (hb hby at_38) (pc' := 40) rfl (v := p4) rfl ?_
      refine OwnK.bipush X0 hx (hb hby at_40) (pc' := 42) rfl (v := (7 : Int32)) (by decide) ?_
      refine OwnK.iand X0 hx (hb hby at_42) (pc' := 43) rfl ?_
      refine OwnK.iconst X0 hx (hb hby at_43) (pc' := 44) rfl (v := (5 : Int32)) (by decide) ?_
      refine OwnK.irem X0 hx (hb hby at_44) (pc' := 45) rfl (by decide) ?_
      refine OwnK.istoreG X0 hx (hb hby at_45) (pc' := 47) rfl (Ls' := fun u => #[.val (.int p0), .val (.int p1), .val (.int p2), .val (.int p3), .val (.int p4), .val (.int p5), .val (.int (0 : Int32)), .val (.int (1 : Int32)), .val (.int u258), .val (.int u259), .val (.int u), .unset, .unset, .unset, .unset, .unset, .unset, .unset, .unset, .unset, .unset, .unset, .unset, .unset, .unset, .unset, .unset, .unset, .unset, .unset]) (fun u => rfl) (fun u260 (hu260 : u260 = ((p4 &&& (7 : Int32)) % (5 : Int32))) => ?_)
      have b_u260 : 0 ≤ u260.toInt ∧ u260.toInt ≤ 4 := by rw [hu260]; exact own_len _
      refine OwnK.iload X0 hx (hb hby at_47) (pc' := 49) rfl (v := u260) rfl ?_
      refine OwnK.iconst X0 hx (hb hby at_49) (pc' := 50) rfl (v := (4 : Int32)) (by decide) ?_
      refine OwnK.iload X0 hx (hb hby at_50) (pc' := 52) rfl (v := u258) rfl ?_
      refine OwnK.isub X0 hx (hb hby at_52) (pc' := 53) rfl ?_
      refine OwnK.callS_ X0 hx hZ hown (y := (⟨"java/lang/Math", "min", "(II)I"⟩ : MethodName)) (hw _ (List.mem_of_getElem? (i := 0) rfl)) (hw _ (List.mem_of_getElem? (i := 1) rfl)) (hw _ (List.mem_of_getElem? (i := 2) rfl)) (hw _ (List.mem_of_getElem? (i := 3) rfl)) (by decide) (own_met1 l Z a0 hw h0 u260 ((4 : Int32) - u258)  ) (by decide) (W := 0) (by decide) e0 (by rw [hml]; rfl) own_pd_3 (argsL := [(.int u260), (.int ((4 : Int32) - u258))]) rfl (S := []) rfl (Nat.le_of_eq rfl) (hb hby at_53) (pc' := 56) rfl (by decide) (by decide) (fun T261 v261 L261 X261 hQ261 => ?_)
      obtain ⟨rfl, e261, rfl⟩ := hQ261
      have N262 := Fr.app N0 (Fr.nil n0)
      refine OwnK.istoreG X261 hx (hb hby at_56) (pc' := 58) rfl (Ls' := fun u => #[.val (.int p0), .val (.int p1), .val (.int p2), .val (.int p3), .val (.int p4), .val (.int p5), .val (.int (0 : Int32)), .val (.int (1 : Int32)), .val (.int u258), .val (.int u259), .val (.int u), .unset, .unset, .unset, .unset, .unset, .unset, .unset, .unset, .unset, .unset, .unset, .unset, .unset, .unset, .unset, .unset, .unset, .unset, .unset]) (fun u => rfl) (fun u263 (hu263 : u263 = (if ((4 : Int32) - u258).toInt < u260.toInt then ((4 : Int32) - u258) else u260)) => ?_)
      have c_u263 : 0 ≤ u263.toInt ∧ u263.toInt ≤ u260.toInt ∧ u263.toInt ≤ 4 - u258.toInt := by rw [hu263]; exact own_min4 b_u260 b_u258 b2_u258
      have b_u263 : 0 ≤ u263.toInt ∧ u263.toInt ≤ 4 := by omega
      refine OwnK.iload X261 hx (hb hby at_58) (pc' := 60) rfl (v := u263) rfl ?_
      refine OwnK.iconst X261 hx (hb hby at_60) (pc' := 61) rfl (v := (4 : Int32)) (by decide) ?_
      refine OwnK.iload X261 hx (hb hby at_61) (pc' := 63) rfl (v := u259) rfl ?_
      refine OwnK.isub X261 hx (hb hby at_63) (pc' := 64) rfl ?_
      refine OwnK.callS_ X261 hx hZ hown (y := (⟨"java/lang/Math", "min", "(II)I"⟩ : MethodName)) (hw _ (List.mem_of_getElem? (i := 0) rfl)) (hw _ (List.mem_of_getElem? (i := 1) rfl)) (hw _ (List.mem_of_getElem? (i := 2) rfl)) (hw _ (List.mem_of_getElem? (i := 3) rfl)) (by decide) (own_met1 l Z a0 hw h0 u263 ((4 : Int32) - u259)  ) (by decide) (W := 0) (by decide) e261 (by rw [hml]; rfl) own_pd_3 (argsL := [(.int u263), (.int ((4 : Int32) - u259))]) rfl (S := []) rfl (Nat.le_of_eq rfl) (hb hby at_64) (pc' := 67) rfl (by decide) (by decide) (fun T264 v264 L264 X264 hQ264 => ?_)
      obtain ⟨rfl, e264, rfl⟩ := hQ264
      have N265 := Fr.app N262 (Fr.nil n0)
      refine OwnK.istoreG X264 hx (hb hby at_67) (pc' := 69) rfl (Ls' := fun u => #[.val (.int p0), .val (.int p1), .val (.int p2), .val (.int p3), .val (.int p4), .val (.int p5), .val (.int (0 : Int32)), .val (.int (1 : Int32)), .val (.int u258), .val (.int u259), .val (.int u), .unset, .unset, .unset, .unset, .unset, .unset, .unset, .unset, .unset, .unset, .unset, .unset, .unset, .unset, .unset, .unset, .unset, .unset, .unset]) (fun u => rfl) (fun u266 (hu266 : u266 = (if ((4 : Int32) - u259).toInt < u263.toInt then ((4 : Int32) - u259) else u263)) => ?_)
      have c_u266 : 0 ≤ u266.toInt ∧ u266.toInt ≤ u263.toInt ∧ u266.toInt ≤ 4 - u259.toInt := by rw [hu266]; exact own_min4 b_u263 b_u259 b2_u259
      have b_u266 : 0 ≤ u266.toInt ∧ u266.toInt ≤ 4 := by omega
      have b1_u266 : u266.toInt = ((u266.toInt.toNat : Nat) : Int) := by omega
      refine OwnK.iloadN X264 hx (hb hby at_69) (pc' := 70) rfl (v := p0) rfl ?_
      refine OwnK.istore X264 hx (hb hby at_70) (pc' := 72) rfl (Ls' := #[.val (.int p0), .val (.int p1), .val (.int p2), .val (.int p3), .val (.int p4), .val (.int p5), .val (.int (0 : Int32)), .val (.int (1 : Int32)), .val (.int u258), .val (.int u259), .val (.int u266), .val (.int p0), .unset, .unset, .unset, .unset, .unset, .unset, .unset, .unset, .unset, .unset, .unset, .unset, .unset, .unset, .unset, .unset, .unset, .unset]) rfl ?_
      refine OwnK.iloadN X264 hx (hb hby at_72) (pc' := 73) rfl (v := p1) rfl ?_
      refine OwnK.istore X264 hx (hb hby at_73) (pc' := 75) rfl (Ls' := #[.val (.int p0), .val (.int p1), .val (.int p2), .val (.int p3), .val (.int p4), .val (.int p5), .val (.int (0 : Int32)), .val (.int (1 : Int32)), .val (.int u258), .val (.int u259), .val (.int u266), .val (.int p0), .val (.int p1), .unset, .unset, .unset, .unset, .unset, .unset, .unset, .unset, .unset, .unset, .unset, .unset, .unset, .unset, .unset, .unset, .unset]) rfl ?_
      refine OwnK.iloadN X264 hx (hb hby at_75) (pc' := 76) rfl (v := p0) rfl ?_
      refine OwnK.iloadN X264 hx (hb hby at_76) (pc' := 77) rfl (v := p1) rfl ?_
      refine OwnK.ixor X264 hx (hb hby at_77) (pc' := 78) rfl ?_
      refine OwnK.istore X264 hx (hb hby at_78) (pc' := 80) rfl (Ls' := #[.val (.int p0), .val (.int p1), .val (.int p2), .val (.int p3), .val (.int p4), .val (.int p5), .val (.int (0 : Int32)), .val (.int (1 : Int32)), .val (.int u258), .val (.int u259), .val (.int u266), .val (.int p0), .val (.int p1), .val (.int (p0 ^^^ p1)), .unset, .unset, .unset, .unset, .unset, .unset, .unset, .unset, .unset, .unset, .unset, .unset, .unset, .unset, .unset, .unset]) rfl ?_
      refine OwnK.iloadN X264 hx (hb hby at_80) (pc' := 81) rfl (v := p0) rfl ?_
      refine OwnK.iconst X264 hx (hb hby at_81) (pc' := 82) rfl (v := (-1 : Int32)) (by decide) ?_
      refine OwnK.ixor X264 hx (hb hby at_82) (pc' := 83) rfl ?_
      refine OwnK.istore X264 hx (hb hby at_83) (pc' := 85) rfl (Ls' := #[.val (.int p0), .val (.int p1), .val (.int p2), .val (.int p3), .val (.int p4), .val (.int p5), .val (.int (0 : Int32)), .val (.int (1 : Int32)), .val (.int u258), .val (.int u259), .val (.int u266), .val (.int p0), .val (.int p1), .val (.int (p0 ^^^ p1)), .val (.int (p0 ^^^ (-1 : Int32))), .unset, .unset, .unset, .unset, .unset, .unset, .unset, .unset, .unset, .unset, .unset, .unset, .unset, .unset, .unset]) rfl ?_
      refine OwnK.iload X264 hx (hb hby at_85) (pc' := 87) rfl (v := (1 : Int32)) rfl ?_
      refine OwnK.if_eq X264 hx (hb hby at_87) (by decide) (pcT := 95) (by decide) (pc' := 90) rfl (fun (hc87 : 1 = 0) => absurd hc87 (by decide)) (fun hc87 => ?_)
      refine OwnK.iload X264 hx (hb hby at_90) (pc' := 92) rfl (v := p0) rfl ?_
      refine OwnK.goto_ X264 hx (hb hby at_92) (by decide) (pc' := 96) (by decide) ?_
      refine OwnK.istore X264 hx (hb hby at_96) (pc' := 98) rfl (Ls' := #[.val (.int p0), .val (.int p1), .val (.int p2), .val (.int p3), .val (.int p4), .val (.int p5), .val (.int (0 : Int32)), .val (.int (1 : Int32)), .val (.int u258), .val (.int u259), .val (.int u266), .val (.int p0), .val (.int p1), .val (.int (p0 ^^^ p1)), .val (.int (p0 ^^^ (-1 : Int32))), .val (.int p0), .unset, .unset, .unset, .unset, .unset, .unset, .unset, .unset, .unset, .unset, .unset, .unset, .unset, .unset]) rfl ?_
      refine OwnK.iload X264 hx (hb hby at_98) (pc' := 100) rfl (v := (1 : Int32)) rfl ?_
      refine OwnK.if_eq X264 hx (hb hby at_100) (by decide) (pcT := 108) (by decide) (pc' := 103) rfl (fun (hc100 : 1 = 0) => absurd hc100 (by decide)) (fun hc100 => ?_)
      refine OwnK.iload X264 hx (hb hby at_103) (pc' := 105) rfl (v := p1) rfl ?_
      refine OwnK.goto_ X264 hx (hb hby at_105) (by decide) (pc' := 111) (by decide) ?_
      refine OwnK.istore X264 hx (hb hby at_111) (pc' := 113) rfl (Ls' := #[.val (.int p0), .val (.int p1), .val (.int p2), .val (.int p3), .val (.int p4), .val (.int p5), .val (.int (0 : Int32)), .val (.int (1 : Int32)), .val (.int u258), .val (.int u259), .val (.int u266), .val (.int p0), .val (.int p1), .val (.int (p0 ^^^ p1)), .val (.int (p0 ^^^ (-1 : Int32))), .val (.int p0), .val (.int p1), .unset, .unset, .unset, .unset, .unset, .unset, .unset, .unset, .unset, .unset, .unset, .unset, .unset]) rfl ?_
      refine OwnK.iload X264 hx (hb hby at_113) (pc' := 115) rfl (v := (1 : Int32)) rfl ?_
      refine OwnK.if_eq X264 hx (hb hby at_115) (by decide) (pcT := 123) (by decide) (pc' := 118) rfl (fun (hc115 : 1 = 0) => absurd hc115 (by decide)) (fun hc115 => ?_)
      refine OwnK.iload X264 hx (hb hby at_118) (pc' := 120) rfl (v := (p0 ^^^ p1)) rfl ?_
      refine OwnK.goto_ X264 hx (hb hby at_120) (by decide) (pc' := 126) (by decide) ?_
      refine OwnK.istore X264 hx (hb hby at_126) (pc' := 128) rfl (Ls' := #[.val (.int p0), .val (.int p1), .val (.int p2), .val (.int p3), .val (.int p4), .val (.int p5), .val (.int (0 : Int32)), .val (.int (1 : Int32)), .val (.int u258), .val (.int u259), .val (.int u266), .val (.int p0), .val (.int p1), .val (.int (p0 ^^^ p1)), .val (.int (p0 ^^^ (-1 : Int32))), .val (.int p0), .val (.int p1), .val (.int (p0 ^^^ p1)), .unset, .unset, .unset, .unset, .unset, .unset, .unset, .unset, .unset, .unset, .unset, .unset]) rfl ?_
      refine OwnK.iload X264 hx (hb hby at_128) (pc' := 130) rfl (v := (1 : Int32)) rfl ?_
      refine OwnK.if_eq X264 hx (hb hby at_130) (by decide) (pcT := 138) (by decide) (pc' := 133) rfl (fun (hc130 : 1 = 0) => absurd hc130 (by decide)) (fun hc130 => ?_)
      refine OwnK.iload X264 hx (hb hby at_133) (pc' := 135) rfl (v := (p0 ^^^ (-1 : Int32))) rfl ?_
      refine OwnK.goto_ X264 hx (hb hby at_135) (by decide) (pc' := 140) (by decide) ?_
      refine OwnK.istore X264 hx (hb hby at_140) (pc' := 142) rfl (Ls' := #[.val (.int p0), .val (.int p1), .val (.int p2), .val (.int p3), .val (.int p4), .val (.int p5), .val (.int (0 : Int32)), .val (.int (1 : Int32)), .val (.int u258), .val (.int u259), .val (.int u266), .val (.int p0), .val (.int p1), .val (.int (p0 ^^^ p1)), .val (.int (p0 ^^^ (-1 : Int32))), .val (.int p0), .val (.int p1), .val (.int (p0 ^^^ p1)), .val (.int (p0 ^^^ (-1 : Int32))), .unset, .unset, .unset, .unset, .unset, .unset, .unset, .unset, .unset, .unset, .unset]) rfl ?_
      refine OwnK.iload X264 hx (hb hby at_142) (pc' := 144) rfl (v := (0 : Int32)) rfl ?_
      refine OwnK.if_eq X264 hx (hb hby at_144) (by decide) (pcT := 415) (by decide) (pc' := 147) rfl (fun hc144 => ?_) (fun (hc144 : ¬ 0 = 0) => absurd hc144 (by decide))
      refine OwnK.iload X264 hx (hb hby at_415) (pc' := 417) rfl (v := p0) rfl ?_
      refine OwnK.callS_ X264 hx hZ hown (y := (⟨"java/lang/Integer", "valueOf", "(I)Ljava/lang/Integer;"⟩ : MethodName)) (hw _ (List.mem_of_getElem? (i := 25) rfl)) (hw _ (List.mem_of_getElem? (i := 26) rfl)) (hw _ (List.mem_of_getElem? (i := 27) rfl)) (hw _ (List.mem_of_getElem? (i := 28) rfl)) (by decide) (own_met6 l Z a0 hw h0 n0 Z0 p0 aC kC vsC O0  SH SC AC CE ) (by decide) (W := 0) (by decide) e264 (by rw [hml]; rfl) own_pd_1 (argsL := [(.int p0)]) rfl (S := []) rfl (Nat.le_of_eq rfl) (hb hby at_417) (pc' := 420) rfl (by decide) (by decide) (fun T267 v267 L267 X267 hQ267 => ?_)
      obtain ⟨r267, rfl, N267q, K267, E267q⟩ := hQ267
      have N268 := Fr.app N265 N267q
      have z269 : n0 ≤ T267.heap.size := Nat.le_trans Z0 K267.1
      have O270 := O0.keep K267 all0
      refine OwnK.astore X267 hx (hb hby at_420) (pc' := 422) rfl rfl (Ls' := #[.val (.int p0), .val (.int p1), .val (.int p2), .val (.int p3), .val (.int p4), .val (.int p5), .val (.int (0 : Int32)), .val (.int (1 : Int32)), .val (.int u258), .val (.int u259), .val (.int u266), .val (.int p0), .val (.int p1), .val (.int (p0 ^^^ p1)), .val (.int (p0 ^^^ (-1 : Int32))), .val (.int p0), .val (.int p1), .val (.int (p0 ^^^ p1)), .val (.int (p0 ^^^ (-1 : Int32))), .val (.ref r267), .unset, .unset, .unset, .unset, .unset, .unset, .unset, .unset, .unset, .unset]) rfl ?_
      refine OwnK.iload X267 hx (hb hby at_422) (pc' := 424) rfl (v := p1) rfl ?_
      refine OwnK.callS_ X267 hx hZ hown (y := (⟨"java/lang/Integer", "valueOf", "(I)Ljava/lang/Integer;"⟩ : MethodName)) (hw _ (List.mem_of_getElem? (i := 25) rfl)) (hw _ (List.mem_of_getElem? (i := 26) rfl)) (hw _ (List.mem_of_getElem? (i := 27) rfl)) (hw _ (List.mem_of_getElem? (i := 28) rfl)) (by decide) (own_met6 l Z a0 hw T267.heap n0 z269 p1 aC kC vsC O270  SH SC AC CE ) (by decide) (W := 0) (by decide) rfl (by rw [hml]; rfl) own_pd_1 (argsL := [(.int p1)]) rfl (S := []) rfl (Nat.le_of_eq rfl) (hb hby at_424) (pc' := 427) rfl (by decide) (by decide) (fun T271 v271 L271 X271 hQ271 => ?_)
      obtain ⟨r271, rfl, N271q, K271, E271q⟩ := hQ271
      have N272 := Fr.app N268 N271q
      have f273 := E267q.keep K271
      have z274 : n0 ≤ T271.heap.size := Nat.le_trans z269 K271.1
      have O275 := O270.keep K271 all0
      refine OwnK.astore X271 hx (hb hby at_427) (pc' := 429) rfl rfl (Ls' := #[.val (.int p0), .val (.int p1), .val (.int p2), .val (.int p3), .val (.int p4), .val (.int p5), .val (.int (0 : Int32)), .val (.int (1 : Int32)), .val (.int u258), .val (.int u259), .val (.int u266), .val (.int p0), .val (.int p1), .val (.int (p0 ^^^ p1)), .val (.int (p0 ^^^ (-1 : Int32))), .val (.int p0), .val (.int p1), .val (.int (p0 ^^^ p1)), .val (.int (p0 ^^^ (-1 : Int32))), .val (.ref r267), .val (.ref r271), .unset, .unset, .unset, .unset, .unset, .unset, .unset, .unset, .unset]) rfl ?_
      refine OwnK.iload X271 hx (hb hby at_429) (pc' := 431) rfl (v := (p0 ^^^ p1)) rfl ?_
      refine OwnK.callS_ X271 hx hZ hown (y := (⟨"java/lang/Integer", "valueOf", "(I)Ljava/lang/Integer;"⟩ : MethodName)) (hw _ (List.mem_of_getElem? (i := 25) rfl)) (hw _ (List.mem_of_getElem? (i := 26) rfl)) (hw _ (List.mem_of_getElem? (i := 27) rfl)) (hw _ (List.mem_of_getElem? (i := 28) rfl)) (by decide) (own_met6 l Z a0 hw T271.heap n0 z274 (p0 ^^^ p1) aC kC vsC O275  SH SC AC CE ) (by decide) (W := 0) (by decide) rfl (by rw [hml]; rfl) own_pd_1 (argsL := [(.int (p0 ^^^ p1))]) rfl (S := []) rfl (Nat.le_of_eq rfl) (hb hby at_431) (pc' := 434) rfl (by decide) (by decide) (fun T276 v276 L276 X276 hQ276 => ?_)
      obtain ⟨r276, rfl, N276q, K276, E276q⟩ := hQ276
      have N277 := Fr.app N272 N276q
      have f278 := f273.keep K276
      have f279 := E271q.keep K276
      have z280 : n0 ≤ T276.heap.size := Nat.le_trans z274 K276.1
      have O281 := O275.keep K276 all0
      refine OwnK.astore X276 hx (hb hby at_434) (pc' := 436) rfl rfl (Ls' := #[.val (.int p0), .val (.int p1), .val (.int p2), .val (.int p3), .val (.int p4), .val (.int p5), .val (.int (0 : Int32)), .val (.int (1 : Int32)), .val (.int u258), .val (.int u259), .val (.int u266), .val (.int p0), .val (.int p1), .val (.int (p0 ^^^ p1)), .val (.int (p0 ^^^ (-1 : Int32))), .val (.int p0), .val (.int p1), .val (.int (p0 ^^^ p1)), .val (.int (p0 ^^^ (-1 : Int32))), .val (.ref r267), .val (.ref r271), .val (.ref r276), .unset, .unset, .unset, .unset, .unset, .unset, .unset, .unset]) rfl ?_
      refine OwnK.iload X276 hx (hb hby at_436) (pc' := 438) rfl (v := (p0 ^^^ (-1 : Int32))) rfl ?_
      refine OwnK.callS_ X276 hx hZ hown (y := (⟨"java/lang/Integer", "valueOf", "(I)Ljava/lang/Integer;"⟩ : MethodName)) (hw _ (List.mem_of_getElem? (i := 25) rfl)) (hw _ (List.mem_of_getElem? (i := 26) rfl)) (hw _ (List.mem_of_getElem? (i := 27) rfl)) (hw _ (List.mem_of_getElem? (i := 28) rfl)) (by decide) (own_met6 l Z a0 hw T276.heap n0 z280 (p0 ^^^ (-1 : Int32)) aC kC vsC O281  SH SC AC CE ) (by decide) (W := 0) (by decide) rfl (by rw [hml]; rfl) own_pd_1 (argsL := [(.int (p0 ^^^ (-1 : Int32)))]) rfl (S := []) rfl (Nat.le_of_eq rfl) (hb hby at_438) (pc' := 441) rfl (by decide) (by decide) (fun T282 v282 L282 X282 hQ282 => ?_)
      obtain ⟨r282, rfl, N282q, K282, E282q⟩ := hQ282
      have N283 := Fr.app N277 N282q
      have f284 := f278.keep K282
      have f285 := f279.keep K282
      have f286 := E276q.keep K282
      have z287 : n0 ≤ T282.heap.size := Nat.le_trans z280 K282.1
      have O288 := O281.keep K282 all0
      refine OwnK.astore X282 hx (hb hby at_441) (pc' := 443) rfl rfl (Ls' := #[.val (.int p0), .val (.int p1), .val (.int p2), .val (.int p3), .val (.int p4), .val (.int p5), .val (.int (0 : Int32)), .val (.int (1 : Int32)), .val (.int u258), .val (.int u259), .val (.int u266), .val (.int p0), .val (.int p1), .val (.int (p0 ^^^ p1)), .val (.int (p0 ^^^ (-1 : Int32))), .val (.int p0), .val (.int p1), .val (.int (p0 ^^^ p1)), .val (.int (p0 ^^^ (-1 : Int32))), .val (.ref r267), .val (.ref r271), .val (.ref r276), .val (.ref r282), .unset, .unset, .unset, .unset, .unset, .unset, .unset]) rfl ?_
      refine OwnK.iload X282 hx (hb hby at_443) (pc' := 445) rfl (v := (1 : Int32)) rfl ?_
      refine OwnK.if_eq X282 hx (hb hby at_445) (by decide) (pcT := 453) (by decide) (pc' := 448) rfl (fun (hc445 : 1 = 0) => absurd hc445 (by decide)) (fun hc445 => ?_)
      refine OwnK.aload X282 hx (hb hby at_448) (pc' := 450) rfl (v := (.ref r267)) rfl rfl ?_
      refine OwnK.goto_ X282 hx (hb hby at_450) (by decide) (pc' := 458) (by decide) ?_
      refine OwnK.astore X282 hx (hb hby at_458) (pc' := 460) rfl rfl (Ls' := #[.val (.int p0), .val (.int p1), .val (.int p2), .val (.int p3), .val (.int p4), .val (.int p5), .val (.int (0 : Int32)), .val (.int (1 : Int32)), .val (.int u258), .val (.int u259), .val (.int u266), .val (.int p0), .val (.int p1), .val (.int (p0 ^^^ p1)), .val (.int (p0 ^^^ (-1 : Int32))), .val (.int p0), .val (.int p1), .val (.int (p0 ^^^ p1)), .val (.int (p0 ^^^ (-1 : Int32))), .val (.ref r267), .val (.ref r271), .val (.ref r276), .val (.ref r282), .val (.ref r267), .unset, .unset, .unset, .unset, .unset, .unset]) rfl ?_
      refine OwnK.iload X282 hx (hb hby at_460) (pc' := 462) rfl (v := (1 : Int32)) rfl ?_
      refine OwnK.if_eq X282 hx (hb hby at_462) (by decide) (pcT := 470) (by decide) (pc' := 465) rfl (fun (hc462 : 1 = 0) => absurd hc462 (by decide)) (fun hc462 => ?_)
      refine OwnK.aload X282 hx (hb hby at_465) (pc' := 467) rfl (v := (.ref r271)) rfl rfl ?_
      refine OwnK.goto_ X282 hx (hb hby at_467) (by decide) (pc' := 475) (by decide) ?_
      refine OwnK.astore X282 hx (hb hby at_475) (pc' := 477) rfl rfl (Ls' := #[.val (.int p0), .val (.int p1), .val (.int p2), .val (.int p3), .val (.int p4), .val (.int p5), .val (.int (0 : Int32)), .val (.int (1 : Int32)), .val (.int u258), .val (.int u259), .val (.int u266), .val (.int p0), .val (.int p1), .val (.int (p0 ^^^ p1)), .val (.int (p0 ^^^ (-1 : Int32))), .val (.int p0), .val (.int p1), .val (.int (p0 ^^^ p1)), .val (.int (p0 ^^^ (-1 : Int32))), .val (.ref r267), .val (.ref r271), .val (.ref r276), .val (.ref r282), .val (.ref r267), .val (.ref r271), .unset, .unset, .unset, .unset, .unset]) rfl ?_
      refine OwnK.iload X282 hx (hb hby at_477) (pc' := 479) rfl (v := (1 : Int32)) rfl ?_
      refine OwnK.if_eq X282 hx (hb hby at_479) (by decide) (pcT := 487) (by decide) (pc' := 482) rfl (fun (hc479 : 1 = 0) => absurd hc479 (by decide)) (fun hc479 => ?_)
      refine OwnK.aload X282 hx (hb hby at_482) (pc' := 484) rfl (v := (.ref r276)) rfl rfl ?_
      refine OwnK.goto_ X282 hx (hb hby at_484) (by decide) (pc' := 492) (by decide) ?_
      refine OwnK.astore X282 hx (hb hby at_492) (pc' := 494) rfl rfl (Ls' := #[.val (.int p0), .val (.int p1), .val (.int p2), .val (.int p3), .val (.int p4), .val (.int p5), .val (.int (0 : Int32)), .val (.int (1 : Int32)), .val (.int u258), .val (.int u259), .val (.int u266), .val (.int p0), .val (.int p1), .val (.int (p0 ^^^ p1)), .val (.int (p0 ^^^ (-1 : Int32))), .val (.int p0), .val (.int p1), .val (.int (p0 ^^^ p1)), .val (.int (p0 ^^^ (-1 : Int32))), .val (.ref r267), .val (.ref r271), .val (.ref r276), .val (.ref r282), .val (.ref r267), .val (.ref r271), .val (.ref r276), .unset, .unset, .unset, .unset]) rfl ?_
      refine OwnK.iload X282 hx (hb hby at_494) (pc' := 496) rfl (v := (1 : Int32)) rfl ?_
      refine OwnK.if_eq X282 hx (hb hby at_496) (by decide) (pcT := 504) (by decide) (pc' := 499) rfl (fun (hc496 : 1 = 0) => absurd hc496 (by decide)) (fun hc496 => ?_)
      refine OwnK.aload X282 hx (hb hby at_499) (pc' := 501) rfl (v := (.ref r282)) rfl rfl ?_
      refine OwnK.goto_ X282 hx (hb hby at_501) (by decide) (pc' := 509) (by decide) ?_
      refine OwnK.astore X282 hx (hb hby at_509) (pc' := 511) rfl rfl (Ls' := #[.val (.int p0), .val (.int p1), .val (.int p2), .val (.int p3), .val (.int p4), .val (.int p5), .val (.int (0 : Int32)), .val (.int (1 : Int32)), .val (.int u258), .val (.int u259), .val (.int u266), .val (.int p0), .val (.int p1), .val (.int (p0 ^^^ p1)), .val (.int (p0 ^^^ (-1 : Int32))), .val (.int p0), .val (.int p1), .val (.int (p0 ^^^ p1)), .val (.int (p0 ^^^ (-1 : Int32))), .val (.ref r267), .val (.ref r271), .val (.ref r276), .val (.ref r282), .val (.ref r267), .val (.ref r271), .val (.ref r276), .val (.ref r282), .unset, .unset, .unset]) rfl ?_
      refine OwnK.iconst X282 hx (hb hby at_511) (pc' := 512) rfl (v := (4 : Int32)) (by decide) ?_
      refine OwnK.newR_ X282 hx hZ hown (hw _ (List.mem_of_getElem? (i := 32) rfl)) (hw _ (List.mem_of_getElem? (i := 33) rfl)) rfl (hb hby at_512) (pc' := 515) rfl (n := (4 : Int32)) (by decide) (cap := 4) (by decide) (by decide) (by decide) (by decide) (ad := "[Ljava/lang/Object;") (by decide) (fun T289 h289 a289 k289 X289 e289 g289 E289 V289 Q289 O289 => ?_)
      have q290 : r267 ≠ a289 := Nat.ne_of_lt (Nat.lt_of_lt_of_le f284.lt (Nat.le_of_eq g289.symm))
      have q291 : r271 ≠ a289 := Nat.ne_of_lt (Nat.lt_of_lt_of_le f285.lt (Nat.le_of_eq g289.symm))
      have q292 : r276 ≠ a289 := Nat.ne_of_lt (Nat.lt_of_lt_of_le f286.lt (Nat.le_of_eq g289.symm))
      have q293 : r282 ≠ a289 := Nat.ne_of_lt (Nat.lt_of_lt_of_le E282q.lt (Nat.le_of_eq g289.symm))
      have ge_a289 : n0 ≤ a289 := Nat.le_trans z287 (Nat.le_of_eq g289.symm)
      have z294 : n0 ≤ h289.size := Nat.le_trans z287 E289.1
      have f295 := f284.ext E289
      have f296 := f285.ext E289
      have f297 := f286.ext E289
      have f298 := E282q.ext E289
      have O299 := O288.ext E289
      have f300 : Arv Z h289 a289 k289 (.object "java/lang/Object") (4 : Int32) [.null, .null, .null, .null] .null := V289.pad (pad_rep [] .null 4)
      refine OwnK.dup X289 hx (hb hby at_515) (pc' := 516) rfl rfl ?_
      refine OwnK.iconst X289 hx (hb hby at_516) (pc' := 517) rfl (v := (0 : Int32)) (by decide) ?_
      refine OwnK.aload X289 hx (hb hby at_517) (pc' := 519) rfl (v := (.ref r267)) rfl rfl ?_
      refine OwnK.aastore X289 hx hZ e289 f300 rfl rfl (OwnK.stoOf f300 O289 (Ins.of_exa f295 (hw _ (List.mem_of_getElem? (i := 34) rfl)))) (i := 0) (by decide) (by first | decide | omega) (Nat.le_of_ble_eq_true rfl) (hb hby at_519) (pc' := 520) rfl (fun T301 h301 X301 e301 W301 V301 => ?_)
      have f302 := f295.wr W301
      have f303 := f296.wr W301
      have f304 := f297.wr W301
      have f305 := f298.wr W301
      have f306 := Q289.wr W301
      have f307 : Arv Z h301 a289 _ (.object "java/lang/Object") (4 : Int32) [(.ref r267), .null, .null, .null] .null := V301
      have N308 := Fr.snoc X301 N283 ge_a289
      have O309 := O299.wr W301 ge_a289
      have z310 : n0 ≤ h301.size := Nat.le_trans z294 (Keep.of_wr W301).1
      refine OwnK.dup X301 hx (hb hby at_520) (pc' := 521) rfl rfl ?_
      refine OwnK.iconst X301 hx (hb hby at_521) (pc' := 522) rfl (v := (1 : Int32)) (by decide) ?_
      refine OwnK.aload X301 hx (hb hby at_522) (pc' := 524) rfl (v := (.ref r271)) rfl rfl ?_
      refine OwnK.aastore X301 hx hZ e301 f307 rfl rfl (OwnK.stoOf f307 O289 (Ins.of_exa f303 (hw _ (List.mem_of_getElem? (i := 34) rfl)))) (i := 1) (by decide) (by first | decide | omega) (Nat.le_of_ble_eq_true rfl) (hb hby at_524) (pc' := 525) rfl (fun T311 h311 X311 e311 W311 V311 => ?_)
      have f312 := f302.wr W311
      have f313 := f303.wr W311
      have f314 := f304.wr W311
      have f315 := f305.wr W311
      have f316 := f306.wr W311
      have f317 : Arv Z h311 a289 _ (.object "java/lang/Object") (4 : Int32) [(.ref r267), (.ref r271), .null, .null] .null := V311
      have N318 := Fr.snoc X311 N308 ge_a289
      have O319 := O309.wr W311 ge_a289
      have z320 : n0 ≤ h311.size := Nat.le_trans z310 (Keep.of_wr W311).1
      refine OwnK.dup X311 hx (hb hby at_525) (pc' := 526) rfl rfl ?_
      refine OwnK.iconst X311 hx (hb hby at_526) (pc' := 527) rfl (v := (2 : Int32)) (by decide) ?_
      refine OwnK.aload X311 hx (hb hby at_527) (pc' := 529) rfl (v := (.ref r276)) rfl rfl ?_
      refine OwnK.aastore X311 hx hZ e311 f317 rfl rfl (OwnK.stoOf f317 O289 (Ins.of_exa f314 (hw _ (List.mem_of_getElem? (i := 34) rfl)))) (i := 2) (by decide) (by first | decide | omega) (Nat.le_of_ble_eq_true rfl) (hb hby at_529) (pc' := 530) rfl (fun T321 h321 X321 e321 W321 V321 => ?_)
      have f322 := f312.wr W321
      have f323 := f313.wr W321
      have f324 := f314.wr W321
      have f325 := f315.wr W321
      have f326 := f316.wr W321
      have f327 : Arv Z h321 a289 _ (.object "java/lang/Object") (4 : Int32) [(.ref r267), (.ref r271), (.ref r276), .null] .null := V321
      have N328 := Fr.snoc X321 N318 ge_a289
      have O329 := O319.wr W321 ge_a289
      have z330 : n0 ≤ h321.size := Nat.le_trans z320 (Keep.of_wr W321).1
      refine OwnK.dup X321 hx (hb hby at_530) (pc' := 531) rfl rfl ?_
      refine OwnK.iconst X321 hx (hb hby at_531) (pc' := 532) rfl (v := (3 : Int32)) (by decide) ?_
      refine OwnK.aload X321 hx (hb hby at_532) (pc' := 534) rfl (v := (.ref r282)) rfl rfl ?_
      refine OwnK.aastore X321 hx hZ e321 f327 rfl rfl (OwnK.stoOf f327 O289 (Ins.of_exa f325 (hw _ (List.mem_of_getElem? (i := 34) rfl)))) (i := 3) (by decide) (by first | decide | omega) (Nat.le_of_ble_eq_true rfl) (hb hby at_534) (pc' := 535) rfl (fun T331 h331 X331 e331 W331 V331 => ?_)
      have f332 := f322.wr W331
      have f333 := f323.wr W331
      have f334 := f324.wr W331
      have f335 := f325.wr W331
      have f336 := f326.wr W331
      have f337 : Arv Z h331 a289 _ (.object "java/lang/Object") (4 : Int32) [(.ref r267), (.ref r271), (.ref r276), (.ref r282)] .null := V331
      have N338 := Fr.snoc X331 N328 ge_a289
      have O339 := O329.wr W331 ge_a289
      have z340 : n0 ≤ h331.size := Nat.le_trans z330 (Keep.of_wr W331).1
      refine OwnK.astore X331 hx (hb hby at_535) (pc' := 537) rfl rfl (Ls' := #[.val (.int p0), .val (.int p1), .val (.int p2), .val (.int p3), .val (.int p4), .val (.int p5), .val (.int (0 : Int32)), .val (.int (1 : Int32)), .val (.int u258), .val (.int u259), .val (.int u266), .val (.int p0), .val (.int p1), .val (.int (p0 ^^^ p1)), .val (.int (p0 ^^^ (-1 : Int32))), .val (.int p0), .val (.int p1), .val (.int (p0 ^^^ p1)), .val (.int (p0 ^^^ (-1 : Int32))), .val (.ref r267), .val (.ref r271), .val (.ref r276), .val (.ref r282), .val (.ref r267), .val (.ref r271), .val (.ref r276), .val (.ref r282), .val (.ref a289), .unset, .unset]) rfl ?_
      refine OwnK.iload X331 hx (hb hby at_537) (pc' := 539) rfl (v := (1 : Int32)) rfl ?_
      refine OwnK.if_eq X331 hx (hb hby at_539) (by decide) (pcT := 547) (by decide) (pc' := 542) rfl (fun (hc539 : 1 = 0) => absurd hc539 (by decide)) (fun hc539 => ?_)
      refine OwnK.aload X331 hx (hb hby at_542) (pc' := 544) rfl (v := (.ref a289)) rfl rfl ?_
      refine OwnK.goto_ X331 hx (hb hby at_544) (by decide) (pc' := 571) (by decide) ?_
      refine OwnK.astore X331 hx (hb hby at_571) (pc' := 573) rfl rfl (Ls' := #[.val (.int p0), .val (.int p1), .val (.int p2), .val (.int p3), .val (.int p4), .val (.int p5), .val (.int (0 : Int32)), .val (.int (1 : Int32)), .val (.int u258), .val (.int u259), .val (.int u266), .val (.int p0), .val (.int p1), .val (.int (p0 ^^^ p1)), .val (.int (p0 ^^^ (-1 : Int32))), .val (.int p0), .val (.int p1), .val (.int (p0 ^^^ p1)), .val (.int (p0 ^^^ (-1 : Int32))), .val (.ref r267), .val (.ref r271), .val (.ref r276), .val (.ref r282), .val (.ref r267), .val (.ref r271), .val (.ref r276), .val (.ref r282), .val (.ref a289), .val (.ref a289), .unset]) rfl ?_
      refine OwnK.aload X331 hx (hb hby at_573) (pc' := 575) rfl (v := (.ref a289)) rfl rfl ?_
      refine OwnK.iload X331 hx (hb hby at_575) (pc' := 577) rfl (v := u258) rfl ?_
      refine OwnK.aload X331 hx (hb hby at_577) (pc' := 579) rfl (v := (.ref a289)) rfl rfl ?_
      refine OwnK.iload X331 hx (hb hby at_579) (pc' := 581) rfl (v := u259) rfl ?_
      refine OwnK.iload X331 hx (hb hby at_581) (pc' := 583) rfl (v := u266) rfl ?_
      refine OwnK.callS_ X331 hx hZ hown (y := (⟨"com/example/redbark/redbark/KeyArrays", "copy", "(Ljava/lang/Object;ILjava/lang/Object;II)V"⟩ : MethodName)) (hw _ (List.mem_of_getElem? (i := 5) rfl)) (hw _ (List.mem_of_getElem? (i := 6) rfl)) (hw _ (List.mem_of_getElem? (i := 7) rfl)) (hw _ (List.mem_of_getElem? (i := 8) rfl)) (by decide) (own_copyO l Z a0 hw h331 n0 z340 a289 u258 a289 u259 u266 _ _ _ _ _ _ _ _ _  ge_a289 f337 f337 f336 f336 b1_u258 b1_u259 b1_u266 (by omega) (by omega) rfl (own_isI (hw _ (List.mem_of_getElem? (i := 4) rfl)) f336) (own_sto4 (OwnK.stoOf f337 O289 (Ins.of_exa f332 (hw _ (List.mem_of_getElem? (i := 34) rfl)))) (OwnK.stoOf f337 O289 (Ins.of_exa f333 (hw _ (List.mem_of_getElem? (i := 34) rfl)))) (OwnK.stoOf f337 O289 (Ins.of_exa f334 (hw _ (List.mem_of_getElem? (i := 34) rfl)))) (OwnK.stoOf f337 O289 (Ins.of_exa f335 (hw _ (List.mem_of_getElem? (i := 34) rfl))))) ) (by decide) (W := 0) (by decide) e331 (by rw [hml]; rfl) own_pd_9 (argsL := [(.ref a289), (.int u258), (.ref a289), (.int u259), (.int u266)]) rfl (S := []) rfl (Nat.le_of_eq rfl) (hb hby at_583) (pc' := 586) rfl (by decide) (by decide) (fun T341 v341 L341 X341 hQ341 => ?_)
      obtain ⟨rfl, N341q, K341, V341⟩ := hQ341
      have N342 := Fr.app N338 N341q
      have f343 := f332.keep K341
      have f344 := f333.keep K341
      have f345 := f334.keep K341
      have f346 := f335.keep K341
      have f347 := f336.keep K341
      have z348 : n0 ≤ T341.heap.size := Nat.le_trans z340 K341.1
      have O349 := O339.keep K341 (allS ge_a289 all0)
      refine OwnK.aload X341 hx (hb hby at_586) (pc' := 588) rfl (v := (.ref a289)) rfl rfl ?_
      refine OwnK.iconst X341 hx (hb hby at_588) (pc' := 589) rfl (v := (0 : Int32)) (by decide) ?_
      refine OwnK.aaload X341 hx hZ rfl V341 rfl (by decide) (by decide) (v := (.ref (own_exp (0 : Int32).toInt u258.toInt u259.toInt u266.toInt r267 r271 r276 r282 r267 r271 r276 r282))) (own_cpk Value.ref _ _ r267 r271 r276 r282 r267 r271 r276 r282 (k := 0) (by omega) (by omega) (by decide) b1_u258 b1_u259 b1_u266 (by decide)) (hb hby at_589) (pc' := 590) rfl ?_
      refine OwnK.iconst X341 hx (hb hby at_590) (pc' := 591) rfl (v := (0 : Int32)) (by decide) ?_
      refine OwnK.iload X341 hx (hb hby at_591) (pc' := 593) rfl (v := u258) rfl ?_
      refine OwnK.iload X341 hx (hb hby at_593) (pc' := 595) rfl (v := u259) rfl ?_
      refine OwnK.iload X341 hx (hb hby at_595) (pc' := 597) rfl (v := u266) rfl ?_
      refine OwnK.aload X341 hx (hb hby at_597) (pc' := 599) rfl (v := (.ref r267)) rfl rfl ?_
      refine OwnK.aload X341 hx (hb hby at_599) (pc' := 601) rfl (v := (.ref r271)) rfl rfl ?_
      refine OwnK.aload X341 hx (hb hby at_601) (pc' := 603) rfl (v := (.ref r276)) rfl rfl ?_
      refine OwnK.aload X341 hx (hb hby at_603) (pc' := 605) rfl (v := (.ref r282)) rfl rfl ?_
      refine OwnK.aload X341 hx (hb hby at_605) (pc' := 607) rfl (v := (.ref r267)) rfl rfl ?_
      refine OwnK.aload X341 hx (hb hby at_607) (pc' := 609) rfl (v := (.ref r271)) rfl rfl ?_
      refine OwnK.aload X341 hx (hb hby at_609) (pc' := 611) rfl (v := (.ref r276)) rfl rfl ?_
      refine OwnK.aload X341 hx (hb hby at_611) (pc' := 613) rfl (v := (.ref r282)) rfl rfl ?_
      refine OwnK.callS_ X341 hx hZ hown (y := (⟨"com/example/redbark/redbark/KeyArraysCopyPinLaw", "expO", "(IIIILjava/lang/Object;Ljava/lang/Object;Ljava/lang/Object;Ljava/lang/Object;Ljava/lang/Object;Ljava/lang/Object;Ljava/lang/Object;Ljava/lang/Object;)Ljava/lang/Object;"⟩ : MethodName)) (hw _ (List.mem_of_getElem? (i := 37) rfl)) (hw _ (List.mem_of_getElem? (i := 38) rfl)) (hw _ (List.mem_of_getElem? (i := 17) rfl)) (hw _ (List.mem_of_getElem? (i := 39) rfl)) (by decide) (own_met7 l Z a0 hw T341.heap (0 : Int32) u258 u259 u266 r267 r271 r276 r282 r267 r271 r276 r282 (by decide) b_u258 b_u259 b_u266 ) (by decide) (W := 1) (by decide) rfl (by rw [hml]; rfl) own_pd_7 (argsL := [(.int (0 : Int32)), (.int u258), (.int u259), (.int u266), (.ref r267), (.ref r271), (.ref r276), (.ref r282), (.ref r267), (.ref r271), (.ref r276), (.ref r282)]) rfl (S := [(.ref (own_exp (0 : Int32).toInt u258.toInt u259.toInt u266.toInt r267 r271 r276 r282 r267 r271 r276 r282))]) rfl (Nat.le_of_eq rfl) (hb hby at_613) (pc' := 616) rfl (by decide) (by decide) (fun T350 v350 L350 X350 hQ350 => ?_)
      obtain ⟨rfl, e350, rfl⟩ := hQ350
      have N351 := Fr.app N342 (Fr.nil n0)
      refine OwnK.acmp_ne X350 hx (hb hby at_616) rfl rfl (by decide) (pcT := 722) (by decide) (pc' := 619) rfl (fun (hc616 : ¬ ((.ref (own_exp (0 : Int32).toInt u258.toInt u259.toInt u266.toInt r267 r271 r276 r282 r267 r271 r276 r282)) : Value) = (.ref (own_exp (0 : Int32).toInt u258.toInt u259.toInt u266.toInt r267 r271 r276 r282 r267 r271 r276 r282))) => absurd rfl hc616) (fun hc616 => ?_)
      refine OwnK.aload X350 hx (hb hby at_619) (pc' := 621) rfl (v := (.ref a289)) rfl rfl ?_
      refine OwnK.iconst X350 hx (hb hby at_621) (pc' := 622) rfl (v := (1 : Int32)) (by decide) ?_
      refine OwnK.aaload X350 hx hZ e350 V341 rfl (by decide) (by decide) (v := (.ref (own_exp (1 : Int32).toInt u258.toInt u259.toInt u266.toInt r267 r271 r276 r282 r267 r271 r276 r282))) (own_cpk Value.ref _ _ r267 r271 r276 r282 r267 r271 r276 r282 (k := 1) (by omega) (by omega) (by decide) b1_u258 b1_u259 b1_u266 (by decide)) (hb hby at_622) (pc' := 623) rfl ?_
      refine OwnK.iconst X350 hx (hb hby at_623) (pc' := 624) rfl (v := (1 : Int32)) (by decide) ?_
      refine OwnK.iload X350 hx (hb hby at_624) (pc' := 626) rfl (v := u258) rfl ?_
      refine OwnK.iload X350 hx (hb hby at_626) (pc' := 628) rfl (v := u259) rfl ?_
      refine OwnK.iload X350 hx (hb hby at_628) (pc' := 630) rfl (v := u266) rfl ?_
      refine OwnK.aload X350 hx (hb hby at_630) (pc' := 632) rfl (v := (.ref r267)) rfl rfl ?_
      refine OwnK.aload X350 hx (hb hby at_632) (pc' := 634) rfl (v := (.ref r271)) rfl rfl ?_
      refine OwnK.aload X350 hx (hb hby at_634) (pc' := 636) rfl (v := (.ref r276)) rfl rfl ?_
      refine OwnK.aload X350 hx (hb hby at_636) (pc' := 638) rfl (v := (.ref r282)) rfl rfl ?_
      refine OwnK.aload X350 hx (hb hby at_638) (pc' := 640) rfl (v := (.ref r267)) rfl rfl ?_
      refine OwnK.aload X350 hx (hb hby at_640) (pc' := 642) rfl (v := (.ref r271)) rfl rfl ?_
      refine OwnK.aload X350 hx (hb hby at_642) (pc' := 644) rfl (v := (.ref r276)) rfl rfl ?_
      refine OwnK.aload X350 hx (hb hby at_644) (pc' := 646) rfl (v := (.ref r282)) rfl rfl ?_
      refine OwnK.callS_ X350 hx hZ hown (y := (⟨"com/example/redbark/redbark/KeyArraysCopyPinLaw", "expO", "(IIIILjava/lang/Object;Ljava/lang/Object;Ljava/lang/Object;Ljava/lang/Object;Ljava/lang/Object;Ljava/lang/Object;Ljava/lang/Object;Ljava/lang/Object;)Ljava/lang/Object;"⟩ : MethodName)) (hw _ (List.mem_of_getElem? (i := 37) rfl)) (hw _ (List.mem_of_getElem? (i := 38) rfl)) (hw _ (List.mem_of_getElem? (i := 17) rfl)) (hw _ (List.mem_of_getElem? (i := 39) rfl)) (by decide) (own_met7 l Z a0 hw T341.heap (1 : Int32) u258 u259 u266 r267 r271 r276 r282 r267 r271 r276 r282 (by decide) b_u258 b_u259 b_u266 ) (by decide) (W := 1) (by decide) e350 (by rw [hml]; rfl) own_pd_7 (argsL := [(.int (1 : Int32)), (.int u258), (.int u259), (.int u266), (.ref r267), (.ref r271), (.ref r276), (.ref r282), (.ref r267), (.ref r271), (.ref r276), (.ref r282)]) rfl (S := [(.ref (own_exp (1 : Int32).toInt u258.toInt u259.toInt u266.toInt r267 r271 r276 r282 r267 r271 r276 r282))]) rfl (Nat.le_of_eq rfl) (hb hby at_646) (pc' := 649) rfl (by decide) (by decide) (fun T352 v352 L352 X352 hQ352 => ?_)
      obtain ⟨rfl, e352, rfl⟩ := hQ352
      have N353 := Fr.app N351 (Fr.nil n0)
      refine OwnK.acmp_ne X352 hx (hb hby at_649) rfl rfl (by decide) (pcT := 722) (by decide) (pc' := 652) rfl (fun (hc649 : ¬ ((.ref (own_exp (1 : Int32).toInt u258.toInt u259.toInt u266.toInt r267 r271 r276 r282 r267 r271 r276 r282)) : Value) = (.ref (own_exp (1 : Int32).toInt u258.toInt u259.toInt u266.toInt r267 r271 r276 r282 r267 r271 r276 r282))) => absurd rfl hc649) (fun hc649 => ?_)
      refine OwnK.aload X352 hx (hb hby at_652) (pc' := 654) rfl (v := (.ref a289)) rfl rfl ?_
      refine OwnK.iconst X352 hx (hb hby at_654) (pc' := 655) rfl (v := (2 : Int32)) (by decide) ?_
      refine OwnK.aaload X352 hx hZ e352 V341 rfl (by decide) (by decide) (v := (.ref (own_exp (2 : Int32).toInt u258.toInt u259.toInt u266.toInt r267 r271 r276 r282 r267 r271 r276 r282))) (own_cpk Value.ref _ _ r267 r271 r276 r282 r267 r271 r276 r282 (k := 2) (by omega) (by omega) (by decide) b1_u258 b1_u259 b1_u266 (by decide)) (hb hby at_655) (pc' := 656) rfl ?_
      refine OwnK.iconst X352 hx (hb hby at_656) (pc' := 657) rfl (v := (2 : Int32)) (by decide) ?_
      refine OwnK.iload X352 hx (hb hby at_657) (pc' := 659) rfl (v := u258) rfl ?_
      refine OwnK.iload X352 hx (hb hby at_659) (pc' := 661) rfl (v := u259) rfl ?_
      refine OwnK.iload X352 hx (hb hby at_661) (pc' := 663) rfl (v := u266) rfl ?_
      refine OwnK.aload X352 hx (hb hby at_663) (pc' := 665) rfl (v := (.ref r267)) rfl rfl ?_
      refine OwnK.aload X352 hx (hb hby at_665) (pc' := 667) rfl (v := (.ref r271)) rfl rfl ?_
      refine OwnK.aload X352 hx (hb hby at_667) (pc' := 669) rfl (v := (.ref r276)) rfl rfl ?_
      refine OwnK.aload X352 hx (hb hby at_669) (pc' := 671) rfl (v := (.ref r282)) rfl rfl ?_
      refine OwnK.aload X352 hx (hb hby at_671) (pc' := 673) rfl (v := (.ref r267)) rfl rfl ?_
      refine OwnK.aload X352 hx (hb hby at_673) (pc' := 675) rfl (v := (.ref r271)) rfl rfl ?_
      refine OwnK.aload X352 hx (hb hby at_675) (pc' := 677) rfl (v := (.ref r276)) rfl rfl ?_
      refine OwnK.aload X352 hx (hb hby at_677) (pc' := 679) rfl (v := (.ref r282)) rfl rfl ?_
      refine OwnK.callS_ X352 hx hZ hown (y := (⟨"com/example/redbark/redbark/KeyArraysCopyPinLaw", "expO", "(IIIILjava/lang/Object;Ljava/lang/Object;Ljava/lang/Object;Ljava/lang/Object;Ljava/lang/Object;Ljava/lang/Object;Ljava/lang/Object;Ljava/lang/Object;)Ljava/lang/Object;"⟩ : MethodName)) (hw _ (List.mem_of_getElem? (i := 37) rfl)) (hw _ (List.mem_of_getElem? (i := 38) rfl)) (hw _ (List.mem_of_getElem? (i := 17) rfl)) (hw _ (List.mem_of_getElem? (i := 39) rfl)) (by decide) (own_met7 l Z a0 hw T341.heap (2 : Int32) u258 u259 u266 r267 r271 r276 r282 r267 r271 r276 r282 (by decide) b_u258 b_u259 b_u266 ) (by decide) (W := 1) (by decide) e352 (by rw [hml]; rfl) own_pd_7 (argsL := [(.int (2 : Int32)), (.int u258), (.int u259), (.int u266), (.ref r267), (.ref r271), (.ref r276), (.ref r282), (.ref r267), (.ref r271), (.ref r276), (.ref r282)]) rfl (S := [(.ref (own_exp (2 : Int32).toInt u258.toInt u259.toInt u266.toInt r267 r271 r276 r282 r267 r271 r276 r282))]) rfl (Nat.le_of_eq rfl) (hb hby at_679) (pc' := 682) rfl (by decide) (by decide) (fun T354 v354 L354 X354 hQ354 => ?_)
      obtain ⟨rfl, e354, rfl⟩ := hQ354
      have N355 := Fr.app N353 (Fr.nil n0)
      refine OwnK.acmp_ne X354 hx (hb hby at_682) rfl rfl (by decide) (pcT := 722) (by decide) (pc' := 685) rfl (fun (hc682 : ¬ ((.ref (own_exp (2 : Int32).toInt u258.toInt u259.toInt u266.toInt r267 r271 r276 r282 r267 r271 r276 r282)) : Value) = (.ref (own_exp (2 : Int32).toInt u258.toInt u259.toInt u266.toInt r267 r271 r276 r282 r267 r271 r276 r282))) => absurd rfl hc682) (fun hc682 => ?_)
      refine OwnK.aload X354 hx (hb hby at_685) (pc' := 687) rfl (v := (.ref a289)) rfl rfl ?_
      refine OwnK.iconst X354 hx (hb hby at_687) (pc' := 688) rfl (v := (3 : Int32)) (by decide) ?_
      refine OwnK.aaload X354 hx hZ e354 V341 rfl (by decide) (by decide) (v := (.ref (own_exp (3 : Int32).toInt u258.toInt u259.toInt u266.toInt r267 r271 r276 r282 r267 r271 r276 r282))) (own_cpk Value.ref _ _ r267 r271 r276 r282 r267 r271 r276 r282 (k := 3) (by omega) (by omega) (by decide) b1_u258 b1_u259 b1_u266 (by decide)) (hb hby at_688) (pc' := 689) rfl ?_
      refine OwnK.iconst X354 hx (hb hby at_689) (pc' := 690) rfl (v := (3 : Int32)) (by decide) ?_
      refine OwnK.iload X354 hx (hb hby at_690) (pc' := 692) rfl (v := u258) rfl ?_
      refine OwnK.iload X354 hx (hb hby at_692) (pc' := 694) rfl (v := u259) rfl ?_
      refine OwnK.iload X354 hx (hb hby at_694) (pc' := 696) rfl (v := u266) rfl ?_
      refine OwnK.aload X354 hx (hb hby at_696) (pc' := 698) rfl (v := (.ref r267)) rfl rfl ?_
      refine OwnK.aload X354 hx (hb hby at_698) (pc' := 700) rfl (v := (.ref r271)) rfl rfl ?_
      refine OwnK.aload X354 hx (hb hby at_700) (pc' := 702) rfl (v := (.ref r276)) rfl rfl ?_
      refine OwnK.aload X354 hx (hb hby at_702) (pc' := 704) rfl (v := (.ref r282)) rfl rfl ?_
      refine OwnK.aload X354 hx (hb hby at_704) (pc' := 706) rfl (v := (.ref r267)) rfl rfl ?_
      refine OwnK.aload X354 hx (hb hby at_706) (pc' := 708) rfl (v := (.ref r271)) rfl rfl ?_
      refine OwnK.aload X354 hx (hb hby at_708) (pc' := 710) rfl (v := (.ref r276)) rfl rfl ?_
      refine OwnK.aload X354 hx (hb hby at_710) (pc' := 712) rfl (v := (.ref r282)) rfl rfl ?_
      refine OwnK.callS_ X354 hx hZ hown (y := (⟨"com/example/redbark/redbark/KeyArraysCopyPinLaw", "expO", "(IIIILjava/lang/Object;Ljava/lang/Object;Ljava/lang/Object;Ljava/lang/Object;Ljava/lang/Object;Ljava/lang/Object;Ljava/lang/Object;Ljava/lang/Object;)Ljava/lang/Object;"⟩ : MethodName)) (hw _ (List.mem_of_getElem? (i := 37) rfl)) (hw _ (List.mem_of_getElem? (i := 38) rfl)) (hw _ (List.mem_of_getElem? (i := 17) rfl)) (hw _ (List.mem_of_getElem? (i := 39) rfl)) (by decide) (own_met7 l Z a0 hw T341.heap (3 : Int32) u258 u259 u266 r267 r271 r276 r282 r267 r271 r276 r282 (by decide) b_u258 b_u259 b_u266 ) (by decide) (W := 1) (by decide) e354 (by rw [hml]; rfl) own_pd_7 (argsL := [(.int (3 : Int32)), (.int u258), (.int u259), (.int u266), (.ref r267), (.ref r271), (.ref r276), (.ref r282), (.ref r267), (.ref r271), (.ref r276), (.ref r282)]) rfl (S := [(.ref (own_exp (3 : Int32).toInt u258.toInt u259.toInt u266.toInt r267 r271 r276 r282 r267 r271 r276 r282))]) rfl (Nat.le_of_eq rfl) (hb hby at_712) (pc' := 715) rfl (by decide) (by decide) (fun T356 v356 L356 X356 hQ356 => ?_)
      obtain ⟨rfl, e356, rfl⟩ := hQ356
      have N357 := Fr.app N355 (Fr.nil n0)
      refine OwnK.acmp_ne X356 hx (hb hby at_715) rfl rfl (by decide) (pcT := 722) (by decide) (pc' := 718) rfl (fun (hc715 : ¬ ((.ref (own_exp (3 : Int32).toInt u258.toInt u259.toInt u266.toInt r267 r271 r276 r282 r267 r271 r276 r282)) : Value) = (.ref (own_exp (3 : Int32).toInt u258.toInt u259.toInt u266.toInt r267 r271 r276 r282 r267 r271 r276 r282))) => absurd rfl hc715) (fun hc715 => ?_)
      refine OwnK.iconst X356 hx (hb hby at_718) (pc' := 719) rfl (v := (1 : Int32)) (by decide) ?_
      refine OwnK.goto_ X356 hx (hb hby at_719) (by decide) (pc' := 723) (by decide) ?_
      refine OwnK.istore X356 hx (hb hby at_723) (pc' := 725) rfl (Ls' := #[.val (.int p0), .val (.int p1), .val (.int p2), .val (.int p3), .val (.int p4), .val (.int p5), .val (.int (0 : Int32)), .val (.int (1 : Int32)), .val (.int u258), .val (.int u259), .val (.int u266), .val (.int p0), .val (.int p1), .val (.int (p0 ^^^ p1)), .val (.int (p0 ^^^ (-1 : Int32))), .val (.int p0), .val (.int p1), .val (.int (p0 ^^^ p1)), .val (.int (p0 ^^^ (-1 : Int32))), .val (.ref r267), .val (.ref r271), .val (.ref r276), .val (.ref r282), .val (.ref r267), .val (.ref r271), .val (.ref r276), .val (.ref r282), .val (.ref a289), .val (.ref a289), .val (.int (1 : Int32))]) rfl ?_
      refine OwnK.iload X356 hx (hb hby at_725) (pc' := 727) rfl (v := (1 : Int32)) rfl ?_
      refine OwnK.if_ne X356 hx (hb hby at_727) (by decide) (pcT := 778) (by decide) (pc' := 730) rfl (fun hc727 => ?_) (fun (hc727 : 1 = 0) => absurd hc727 (by decide))
      refine OwnK.iload X356 hx (hb hby at_778) (pc' := 780) rfl (v := (1 : Int32)) rfl ?_
      refine OwnK.retN_ X356 hx hret (by simp) hlk (hb hby at_780) (by decide) (by decide) ?_
      exact ⟨rfl, N357⟩
  · refine OwnK.iconst X0 hx (hb hby at_7) (pc' := 8) rfl (v := (1 : Int32)) (by decide) ?_
    refine OwnK.goto_ X0 hx (hb hby at_8) (by decide) (pc' := 12) (by decide) ?_
    refine OwnK.istore X0 hx (hb hby at_12) (pc' := 14) rfl (Ls' := #[.val (.int p0), .val (.int p1), .val (.int p2), .val (.int p3), .val (.int p4), .val (.int p5), .val (.int (1 : Int32)), .unset, .unset, .unset, .unset, .unset, .unset, .unset, .unset, .unset, .unset, .unset, .unset, .unset, .unset, .unset, .unset, .unset, .unset, .unset, .unset, .unset, .unset, .unset]) rfl ?_
    refine OwnK.iload X0 hx (hb hby at_14) (pc' := 16) rfl (v := p5) rfl ?_
    refine OwnK.iconst X0 hx (hb hby at_16) (pc' := 17) rfl (v := (2 : Int32)) (by decide) ?_
    refine OwnK.iand X0 hx (hb hby at_17) (pc' := 18) rfl ?_
    refine OwnK.if_eq X0 hx (hb hby at_18) (by decide) (pcT := 25) (by decide) (pc' := 21) rfl (fun (hc358 : (p5 &&& (2 : Int32)).toInt = 0) => ?_) (fun (hc358 : ¬ (p5 &&& (2 : Int32)).toInt = 0) => ?_)
    · refine OwnK.iconst X0 hx (hb hby at_25) (pc' := 26) rfl (v := (0 : Int32)) (by decide) ?_
      refine OwnK.istore X0 hx (hb hby at_26) (pc' := 28) rfl (Ls' := #[.val (.int p0), .val (.int p1), .val (.int p2), .val (.int p3), .val (.int p4), .val (.int p5), .val (.int (1 : Int32)), .val (.int (0 : Int32)), .unset, .unset, .unset, .unset, .unset, .unset, .unset, .unset, .unset, .unset, .unset, .unset, .unset, .unset, .unset, .unset, .unset, .unset, .unset, .unset, .unset, .unset]) rfl ?_
      refine OwnK.iloadN X0 hx (hb hby at_28) (pc' := 29) rfl (v := p2) rfl ?_
      refine OwnK.iconst X0 hx (hb hby at_29) (pc' := 30) rfl (v := (3 : Int32)) (by decide) ?_
      refine OwnK.iand X0 hx (hb hby at_30) (pc' := 31) rfl ?_
      refine OwnK.istoreG X0 hx (hb hby at_31) (pc' := 33) rfl (Ls' := fun u => #[.val (.int p0), .val (.int p1), .val (.int p2), .val (.int p3), .val (.int p4), .val (.int p5), .val (.int (1 : Int32)), .val (.int (0 : Int32)), .val (.int u), .unset, .unset, .unset, .unset, .unset, .unset, .unset, .unset, .unset, .unset, .unset, .unset, .unset, .unset, .unset, .unset, .unset, .unset, .unset, .unset, .unset]) (fun u => rfl) (fun u359 (hu359 : u359 = (p2 &&& (3 : Int32))) => ?_)
      have b_u359 : 0 ≤ u359.toInt ∧ u359.toInt ≤ 3 := by rw [hu359]; exact own_mm3 _
      have b1_u359 : u359.toInt = ((u359.toInt.toNat : Nat) : Int) := by omega
      have b_u359 : 0 ≤ u359.toInt ∧ u359.toInt ≤ 4 := by omega
      have b2_u359 : u359.toInt ≤ 3 := by rw [hu359]; exact (own_mm3 _).2
      refine OwnK.iloadN X0 hx (hb hby at_33) (pc' := 34) rfl (v := p3) rfl ?_
      refine OwnK.iconst X0 hx (hb hby at_34) (pc' := 35) rfl (v := (3 : Int32)) (by decide) ?_
      refine OwnK.iand X0 hx (hb hby at_35) (pc' := 36) rfl ?_
      refine OwnK.istoreG X0 hx (hb hby at_36) (pc' := 38) rfl (Ls' := fun u => #[.val (.int p0), .val (.int p1), .val (.int p2), .val (.int p3), .val (.int p4), .val (.int p5), .val (.int (1 : Int32)), .val (.int (0 : Int32)), .val (.int u359), .val (.int u), .unset, .unset, .unset, .unset, .unset, .unset, .unset, .unset, .unset, .unset, .unset, .unset, .unset, .unset, .unset, .unset, .unset, .unset, .unset, .unset]) (fun u => rfl) (fun u360 (hu360 : u360 = (p3 &&& (3 : Int32))) => ?_)
      have b_u360 : 0 ≤ u360.toInt ∧ u360.toInt ≤ 3 := by rw [hu360]; exact own_mm3 _
      have b1_u360 : u360.toInt = ((u360.toInt.toNat : Nat) : Int) := by omega
      have b_u360 : 0 ≤ u360.toInt ∧ u360.toInt ≤ 4 := by omega
      have b2_u360 : u360.toInt ≤ 3 := by rw [hu360]; exact (own_mm3 _).2
      refine OwnK.iload X0 hx (hb hby at_38) (pc' := 40) rfl (v := p4) rfl ?_
      refine OwnK.bipush X0 hx (hb hby at_40) (pc' := 42) rfl (v := (7 : Int32)) (by decide) ?_
      refine OwnK.iand X0 hx (hb hby at_42) (pc' := 43) rfl ?_
      refine OwnK.iconst X0 hx (hb hby at_43) (pc' := 44) rfl (v := (5 : Int32)) (by decide) ?_
      refine OwnK.irem X0 hx (hb hby at_44) (pc' := 45) rfl (by decide) ?_
      refine OwnK.istoreG X0 hx (hb hby at_45) (pc' := 47) rfl (Ls' := fun u => #[.val (.int p0), .val (.int p1), .val (.int p2), .val (.int p3), .val (.int p4), .val (.int p5), .val (.int (1 : Int32)), .val (.int (0 : Int32)), .val (.int u359), .val (.int u360), .val (.int u), .unset, .unset, .unset, .unset, .unset, .unset, .unset, .unset, .unset, .unset, .unset, .unset, .unset, .unset, .unset, .unset, .unset, .unset, .unset]) (fun u => rfl) (fun u361 (hu361 : u361 = ((p4 &&& (7 : Int32)) % (5 : Int32))) => ?_)
      have b_u361 : 0 ≤ u361.toInt ∧ u361.toInt ≤ 4 := by rw [hu361]; exact own_len _
      refine OwnK.iload X0 hx (hb hby at_47) (pc' := 49) rfl (v := u361) rfl ?_
      refine OwnK.iconst X0 hx (hb hby at_49) (pc' := 50) rfl (v := (4 : Int32)) (by decide) ?_
      refine OwnK.iload X0 hx (hb hby at_50) (pc' := 52) rfl (v := u359) rfl ?_
      refine OwnK.isub X0 hx (hb hby at_52) (pc' := 53) rfl ?_
      refine OwnK.callS_ X0 hx hZ hown (y := (⟨"java/lang/Math", "min", "(II)I"⟩ : MethodName)) (hw _ (List.mem_of_getElem? (i := 0) rfl)) (hw _ (List.mem_of_getElem? (i := 1) rfl)) (hw _ (List.mem_of_getElem? (i := 2) rfl)) (hw _ (List.mem_of_getElem? (i := 3) rfl)) (by decide) (own_met1 l Z a0 hw h0 u361 ((4 : Int32) - u359)  ) (by decide) (W := 0) (by decide) e0 (by rw [hml]; rfl) own_pd_3 (argsL := [(.int u361), (.int ((4 : Int32) - u359))]) rfl (S := []) rfl (Nat.le_of_eq rfl) (hb hby at_53) (pc' := 56) rfl (by decide) (by decide) (fun T362 v362 L362 X362 hQ362 => ?_)
      obtain ⟨rfl, e362, rfl⟩ := hQ362
      have N363 := Fr.app N0 (Fr.nil n0)
      refine OwnK.istoreG X362 hx (hb hby at_56) (pc' := 58) rfl (Ls' := fun u => #[.val (.int p0), .val (.int p1), .val (.int p2), .val (.int p3), .val (.int p4), .val (.int p5), .val (.int (1 : Int32)), .val (.int (0 : Int32)), .val (.int u359), .val (.int u360), .val (.int u), .unset, .unset, .unset, .unset, .unset, .unset, .unset, .unset, .unset, .unset, .unset, .unset, .unset, .unset, .unset, .unset, .unset, .unset, .unset]) (fun u => rfl) (fun u364 (hu364 : u364 = (if ((4 : Int32) - u359).toInt < u361.toInt then ((4 : Int32) - u359) else u361)) => ?_)
      have c_u364 : 0 ≤ u364.toInt ∧ u364.toInt ≤ u361.toInt ∧ u364.toInt ≤ 4 - u359.toInt := by rw [hu364]; exact own_min4 b_u361 b_u359 b2_u359
      have b_u364 : 0 ≤ u364.toInt ∧ u364.toInt ≤ 4 := by omega
      refine OwnK.iload X362 hx (hb hby at_58) (pc' := 60) rfl (v := u364) rfl ?_
      refine OwnK.iconst X362 hx (hb hby at_60) (pc' := 61) rfl (v := (4 : Int32)) (by decide) ?_
      refine OwnK.iload X362 hx (hb hby at_61) (pc' := 63) rfl (v := u360) rfl ?_
      refine OwnK.isub X362 hx (hb hby at_63) (pc' := 64) rfl ?_
      refine OwnK.callS_ X362 hx hZ hown (y := (⟨"java/lang/Math", "min", "(II)I"⟩ : MethodName)) (hw _ (List.mem_of_getElem? (i := 0) rfl)) (hw _ (List.mem_of_getElem? (i := 1) rfl)) (hw _ (List.mem_of_getElem? (i := 2) rfl)) (hw _ (List.mem_of_getElem? (i := 3) rfl)) (by decide) (own_met1 l Z a0 hw h0 u364 ((4 : Int32) - u360)  ) (by decide) (W := 0) (by decide) e362 (by rw [hml]; rfl) own_pd_3 (argsL := [(.int u364), (.int ((4 : Int32) - u360))]) rfl (S := []) rfl (Nat.le_of_eq rfl) (hb hby at_64) (pc' := 67) rfl (by decide) (by decide) (fun T365 v365 L365 X365 hQ365 => ?_)
      obtain ⟨rfl, e365, rfl⟩ := hQ365
      have N366 := Fr.app N363 (Fr.nil n0)
      refine OwnK.istoreG X365 hx (hb hby at_67) (pc' := 69) rfl (Ls' := fun u => #[.val (.int p0), .val (.int p1), .val (.int p2), .val (.int p3), .val (.int p4), .val (.int p5), .val (.int (1 : Int32)), .val (.int (0 : Int32)), .val (.int u359), .val (.int u360), .val (.int u), .unset, .unset, .unset, .unset, .unset, .unset, .unset, .unset, .unset, .unset, .unset, .unset, .unset, .unset, .unset, .unset, .unset, .unset, .unset]) (fun u => rfl) (fun u367 (hu367 : u367 = (if ((4 : Int32) - u360).toInt < u364.toInt then ((4 : Int32) - u360) else u364)) => ?_)
      have c_u367 : 0 ≤ u367.toInt ∧ u367.toInt ≤ u364.toInt ∧ u367.toInt ≤ 4 - u360.toInt := by rw [hu367]; exact own_min4 b_u364 b_u360 b2_u360
      have b_u367 : 0 ≤ u367.toInt ∧ u367.toInt ≤ 4 := by omega
      have b1_u367 : u367.toInt = ((u367.toInt.toNat : Nat) : Int) := by omega
      refine OwnK.iloadN X365 hx (hb hby at_69) (pc' := 70) rfl (v := p0) rfl ?_
      refine OwnK.istore X365 hx (hb hby at_70) (pc' := 72) rfl (Ls' := #[.val (.int p0), .val (.int p1), .val (.int p2), .val (.int p3), .val (.int p4), .val (.int p5), .val (.int (1 : Int32)), .val (.int (0 : Int32)), .val (.int u359), .val (.int u360), .val (.int u367), .val (.int p0), .unset, .unset, .unset, .unset, .unset, .unset, .unset, .unset, .unset, .unset, .unset, .unset, .unset, .unset, .unset, .unset, .unset, .unset]) rfl ?_
      refine OwnK.iloadN X365 hx (hb hby at_72) (pc' := 73) rfl (v := p1) rfl ?_
      refine OwnK.istore X365 hx (hb hby at_73) (pc' := 75) rfl (Ls' := #[.val (.int p0), .val (.int p1), .val (.int p2), .val (.int p3), .val (.int p4), .val (.int p5), .val (.int (1 : Int32)), .val (.int (0 : Int32)), .val (.int u359), .val (.int u360), .val (.int u367), .val (.int p0), .val (.int p1), .unset, .unset, .unset, .unset, .unset, .unset, .unset, .unset, .unset, .unset, .unset, .unset, .unset, .unset, .unset, .unset, .unset]) rfl ?_
      refine OwnK.iloadN X365 hx (hb hby at_75) (pc' := 76) rfl (v := p0) rfl ?_
      refine OwnK.iloadN X365 hx (hb hby at_76) (pc' := 77) rfl (v := p1) rfl ?_
      refine OwnK.ixor X365 hx (hb hby at_77) (pc' := 78) rfl ?_
      refine OwnK.istore X365 hx (hb hby at_78) (pc' := 80) rfl (Ls' := #[.val (.int p0), .val (.int p1), .val (.int p2), .val (.int p3), .val (.int p4), .val (.int p5), .val (.int (1 : Int32)), .val (.int (0 : Int32)), .val (.int u359), .val (.int u360), .val (.int u367), .val (.int p0), .val (.int p1), .val (.int (p0 ^^^ p1)), .unset, .unset, .unset, .unset, .unset, .unset, .unset, .unset, .unset, .unset, .unset, .unset, .unset, .unset, .unset, .unset]) rfl ?_
      refine OwnK.iloadN X365 hx (hb hby at_80) (pc' := 81) rfl (v := p0) rfl ?_
      refine OwnK.iconst X365 hx (hb hby at_81) (pc' := 82) rfl (v := (-1 : Int32)) (by decide) ?_
      refine OwnK.ixor X365 hx (hb hby at_82) (pc' := 83) rfl ?_
      refine OwnK.istore X365 hx (hb hby at_83) (pc' := 85) rfl (Ls' := #[.val (.int p0), .val (.int p1), .val (.int p2), .val (.int p3), .val (.int p4), .val (.int p5), .val (.int (1 : Int32)), .val (.int (0 : Int32)), .val (.int u359), .val (.int u360), .val (.int u367), .val (.int p0), .val (.int p1), .val (.int (p0 ^^^ p1)), .val (.int (p0 ^^^ (-1 : Int32))), .unset, .unset, .unset, .unset, .unset, .unset, .unset, .unset, .unset, .unset, .unset, .unset, .unset, .unset, .unset]) rfl ?_
      refine OwnK.iload X365 hx (hb hby at_85) (pc' := 87) rfl (v := (0 : Int32)) rfl ?_
      refine OwnK.if_eq X365 hx (hb hby at_87) (by decide) (pcT := 95) (by decide) (pc' := 90) rfl (fun hc87 => ?_) (fun (hc87 : ¬ 0 = 0) => absurd hc87 (by decide))
      refine OwnK.iloadN X365 hx (hb hby at_95) (pc' := 96) rfl (v := p1) rfl ?_
      refine OwnK.istore X365 hx (hb hby at_96) (pc' := 98) rfl (Ls' := #[.val (.int p0), .val (.int p1), .val (.int p2), .val (.int p3), .val (.int p4), .val (.int p5), .val (.int (1 : Int32)), .val (.int (0 : Int32)), .val (.int u359), .val (.int u360), .val (.int u367), .val (.int p0), .val (.int p1), .val (.int (p0 ^^^ p1)), .val (.int (p0 ^^^ (-1 : Int32))), .val (.int p1), .unset, .unset, .unset, .unset, .unset, .unset, .unset, .unset, .unset, .unset, .unset, .unset, .unset, .unset]) rfl ?_
      refine OwnK.iload X365 hx (hb hby at_98) (pc' := 100) rfl (v := (0 : Int32)) rfl ?_
      refine OwnK.if_eq X365 hx (hb hby at_100) (by decide) (pcT := 108) (by decide) (pc' := 103) rfl (fun hc100 => ?_) (fun (hc100 : ¬ 0 = 0) => absurd hc100 (by decide))
      refine OwnK.iloadN X365 hx (hb hby at_108) (pc' := 109) rfl (v := p1) rfl ?_
      refine OwnK.iconst X365 hx (hb hby at_109) (pc' := 110) rfl (v := (-1 : Int32)) (by decide) ?_
      refine OwnK.ixor X365 hx (hb hby at_110) (pc' := 111) rfl ?_
      refine OwnK.istore X365 hx (hb hby at_111) (pc' := 113) rfl (Ls' := #[.val (.int p0), .val (.int p1), .val (.int p2), .val (.int p3), .val (.int p4), .val (.int p5), .val (.int (1 : Int32)), .val (.int (0 : Int32)), .val (.int u359), .val (.int u360), .val (.int u367), .val (.int p0), .val (.int p1), .val (.int (p0 ^^^ p1)), .val (.int (p0 ^^^ (-1 : Int32))), .val (.int p1), .val (.int (p1 ^^^ (-1 : Int32))), .unset, .unset, .unset, .unset, .unset, .unset, .unset, .unset, .unset, .unset, .unset, .unset, .unset]) rfl ?_
      refine OwnK.iload X365 hx (hb hby at_113) (pc' := 115) rfl (v := (0 : Int32)) rfl ?_
      refine OwnK.if_eq X365 hx (hb hby at_115) (by decide) (pcT := 123) (by decide) (pc' := 118) rfl (fun hc115 => ?_) (fun (hc115 : ¬ 0 = 0) => absurd hc115 (by decide))
      refine OwnK.iloadN X365 hx (hb hby at_123) (pc' := 124) rfl (v := p0) rfl ?_
      refine OwnK.iloadN X365 hx (hb hby at_124) (pc' := 125) rfl (v := p1) rfl ?_
      refine OwnK.iadd X365 hx (hb hby at_125) (pc' := 126) rfl ?_
      refine OwnK.istore X365 hx (hb hby at_126) (pc' := 128) rfl (Ls' := #[.val (.int p0), .val (.int p1), .val (.int p2), .val (.int p3), .val (.int p4), .val (.int p5), .val (.int (1 : Int32)), .val (.int (0 : Int32)), .val (.int u359), .val (.int u360), .val (.int u367), .val (.int p0), .val (.int p1), .val (.int (p0 ^^^ p1)), .val (.int (p0 ^^^ (-1 : Int32))), .val (.int p1), .val (.int (p1 ^^^ (-1 : Int32))), .val (.int (p0 + p1)), .unset, .unset, .unset, .unset, .unset, .unset, .unset, .unset, .unset, .unset, .unset, .unset]) rfl ?_
      refine OwnK.iload X365 hx (hb hby at_128) (pc' := 130) rfl (v := (0 : Int32)) rfl ?_
      refine OwnK.if_eq X365 hx (hb hby at_130) (by decide) (pcT := 138) (by decide) (pc' := 133) rfl (fun hc130 => ?_) (fun (hc130 : ¬ 0 = 0) => absurd hc130 (by decide))
      refine OwnK.iloadN X365 hx (hb hby at_138) (pc' := 139) rfl (v := p0) rfl ?_
      refine OwnK.ineg X365 hx (hb hby at_139) (pc' := 140) rfl ?_
      refine OwnK.istore X365 hx (hb hby at_140) (pc' := 142) rfl (Ls' := #[.val (.int p0), .val (.int p1), .val (.int p2), .val (.int p3), .val (.int p4), .val (.int p5), .val (.int (1 : Int32)), .val (.int (0 : Int32)), .val (.int u359), .val (.int u360), .val (.int u367), .val (.int p0), .val (.int p1), .val (.int (p0 ^^^ p1)), .val (.int (p0 ^^^ (-1 : Int32))), .val (.int p1), .val (.int (p1 ^^^ (-1 : Int32))), .val (.int (p0 + p1)), .val (.int (-p0)), .unset, .unset, .unset, .unset, .unset, .unset, .unset, .unset, .unset, .unset, .unset]) rfl ?_
      refine OwnK.iload X365 hx (hb hby at_142) (pc' := 144) rfl (v := (1 : Int32)) rfl ?_
      refine OwnK.if_eq X365 hx (hb hby at_144) (by decide) (pcT := 415) (by decide) (pc' := 147) rfl (fun (hc144 : 1 = 0) => absurd hc144 (by decide)) (fun hc144 => ?_)
      refine OwnK.iconst X365 hx (hb hby at_147) (pc' := 148) rfl (v := (4 : Int32)) (by decide) ?_
      refine OwnK.newP_ X365 hx hZ (hw _ (List.mem_of_getElem? (i := 4) rfl)) e365 (hb hby at_148) (pc' := 150) rfl (n := (4 : Int32)) (by decide) (cap := 4) (by decide) (by decide) (by decide) (by decide) (ad := "[I") (by decide) (fun T368 h368 a368 k368 X368 e368 g368 E368 V368 Q368 => ?_)
      have ge_a368 : n0 ≤ a368 := Nat.le_trans Z0 (Nat.le_of_eq g368.symm)
      have z369 : n0 ≤ h368.size := Nat.le_trans Z0 E368.1
      have O370 := O0.ext E368
      have f371 : Arv Z h368 a368 k368 .int (4 : Int32) [(.int (0 : Int32)), (.int (0 : Int32)), (.int (0 : Int32)), (.int (0 : Int32))] (.int (0 : Int32)) := V368.pad (pad_rep [] (.int (0 : Int32)) 4)
      refine OwnK.dup X368 hx (hb hby at_150) (pc' := 151) rfl rfl ?_
      refine OwnK.iconst X368 hx (hb hby at_151) (pc' := 152) rfl (v := (0 : Int32)) (by decide) ?_
      refine OwnK.iload X368 hx (hb hby at_152) (pc' := 154) rfl (v := p0) rfl ?_
      refine OwnK.iastore X368 hx hZ e368 f371 (i := 0) (by decide) (by first | decide | omega) (Nat.le_of_ble_eq_true rfl) (hb hby at_154) (pc' := 155) rfl (fun T372 h372 X372 e372 W372 V372 => ?_)
      have f373 := Q368.wr W372
      have f374 : Arv Z h372 a368 _ .int (4 : Int32) [(.int p0), (.int (0 : Int32)), (.int (0 : Int32)), (.int (0 : Int32))] (.int (0 : Int32)) := V372
      have N375 := Fr.snoc X372 N366 ge_a368
      have O376 := O370.wr W372 ge_a368
      have z377 : n0 ≤ h372.size := Nat.le_trans z369 (Keep.of_wr W372).1
      refine OwnK.dup X372 hx (hb hby at_155) (pc' := 156) rfl rfl ?_
      refine OwnK.iconst X372 hx (hb hby at_156) (pc' := 157) rfl (v := (1 : Int32)) (by decide) ?_
      refine OwnK.iload X372 hx (hb hby at_157) (pc' := 159) rfl (v := p1) rfl ?_
      refine OwnK.iastore X372 hx hZ e372 f374 (i := 1) (by decide) (by first | decide | omega) (Nat.le_of_ble_eq_true rfl) (hb hby at_159) (pc' := 160) rfl (fun T378 h378 X378 e378 W378 V378 => ?_)
      have f379 := f373.wr W378
      have f380 : Arv Z h378 a368 _ .int (4 : Int32) [(.int p0), (.int p1), (.int (0 : Int32)), (.int (0 : Int32))] (.int (0 : Int32)) := V378
      have N381 := Fr.snoc X378 N375 ge_a368
      have O382 := O376.wr W378 ge_a368
      have z383 : n0 ≤ h378.size := Nat.le_trans z377 (Keep.of_wr W378).1
      refine OwnK.dup X378 hx (hb hby at_160) (pc' := 161) rfl rfl ?_
      refine OwnK.iconst X378 hx (hb hby at_161) (pc' := 162) rfl (v := (2 : Int32)) (by decide) ?_
      refine OwnK.iload X378 hx (hb hby at_162) (pc' := 164) rfl (v := (p0 ^^^ p1)) rfl ?_
      refine OwnK.iastore X378 hx hZ e378 f380 (i := 2) (by decide) (by first | decide | omega) (Nat.le_of_ble_eq_true rfl) (hb hby at_164) (pc' := 165) rfl (fun T384 h384 X384 e384 W384 V384 => ?_)
      have f385 := f379.wr W384
      have f386 : Arv Z h384 a368 _ .int (4 : Int32) [(.int p0), (.int p1), (.int (p0 ^^^ p1)), (.int (0 : Int32))] (.int (0 : Int32)) := V384
      have N387 := Fr.snoc X384 N381 ge_a368
      have O388 := O382.wr W384 ge_a368
      have z389 : n0 ≤ h384.size := Nat.le_trans z383 (Keep.of_wr W384).1
      refine OwnK.dup X384 hx (hb hby at_165) (pc' := 166) rfl rfl ?_
      refine OwnK.iconst X384 hx (hb hby at_166) (pc' := 167) rfl (v := (3 : Int32)) (by decide) ?_
      refine OwnK.iload X384 hx (hb hby at_167) (pc' := 169) rfl (v := (p0 ^^^ (-1 : Int32))) rfl ?_
      refine OwnK.iastore X384 hx hZ e384 f386 (i := 3) (by decide) (by first | decide | omega) (Nat.le_of_ble_eq_true rfl) (hb hby at_169) (pc' := 170) rfl (fun T390 h390 X390 e390 W390 V390 => ?_)
      have f391 := f385.wr W390
      have f392 : Arv Z h390 a368 _ .int (4 : Int32) [(.int p0), (.int p1), (.int (p0 ^^^ p1)), (.int (p0 ^^^ (-1 : Int32)))] (.int (0 : Int32)) := V390
      have N393 := Fr.snoc X390 N387 ge_a368
      have O394 := O388.wr W390 ge_a368
      have z395 : n0 ≤ h390.size := Nat.le_trans z389 (Keep.of_wr W390).1
      refine OwnK.astore X390 hx (hb hby at_170) (pc' := 172) rfl rfl (Ls' := #[.val (.int p0), .val (.int p1), .val (.int p2), .val (.int p3), .val (.int p4), .val (.int p5), .val (.int (1 : Int32)), .val (.int (0 : Int32)), .val (.int u359), .val (.int u360), .val (.int u367), .val (.int p0), .val (.int p1), .val (.int (p0 ^^^ p1)), .val (.int (p0 ^^^ (-1 : Int32))), .val (.int p1), .val (.int (p1 ^^^ (-1 : Int32))), .val (.int (p0 + p1)), .val (.int (-p0)), .val (.ref a368), .unset, .unset, .unset, .unset, .unset, .unset, .unset, .unset, .unset, .unset]) rfl ?_
      refine OwnK.iload X390 hx (hb hby at_172) (pc' := 174) rfl (v := (0 : Int32)) rfl ?_
      refine OwnK.if_eq X390 hx (hb hby at_174) (by decide) (pcT := 182) (by decide) (pc' := 177) rfl (fun hc174 => ?_) (fun (hc174 : ¬ 0 = 0) => absurd hc174 (by decide))
      refine OwnK.iconst X390 hx (hb hby at_182) (pc' := 183) rfl (v := (4 : Int32)) (by decide) ?_
      refine OwnK.newP_ X390 hx hZ (hw _ (List.mem_of_getElem? (i := 4) rfl)) e390 (hb hby at_183) (pc' := 185) rfl (n := (4 : Int32)) (by decide) (cap := 4) (by decide) (by decide) (by decide) (by decide) (ad := "[I") (by decide) (fun T396 h396 a396 k396 X396 e396 g396 E396 V396 Q396 => ?_)
      have q397 : a368 ≠ a396 := Nat.ne_of_lt (Nat.lt_of_lt_of_le f392.lt (Nat.le_of_eq g396.symm))
      have ge_a396 : n0 ≤ a396 := Nat.le_trans z395 (Nat.le_of_eq g396.symm)
      have z398 : n0 ≤ h396.size := Nat.le_trans z395 E396.1
      have f399 := f392.ext E396
      have f400 := f391.ext E396
      have O401 := O394.ext E396
      have f402 : Arv Z h396 a396 k396 .int (4 : Int32) [(.int (0 : Int32)), (.int (0 : Int32)), (.int (0 : Int32)), (.int (0 : Int32))] (.int (0 : Int32)) := V396.pad (pad_rep [] (.int (0 : Int32)) 4)
      refine OwnK.dup X396 hx (hb hby at_185) (pc' := 186) rfl rfl ?_
      refine OwnK.iconst X396 hx (hb hby at_186) (pc' := 187) rfl (v := (0 : Int32)) (by decide) ?_
      refine OwnK.iload X396 hx (hb hby at_187) (pc' := 189) rfl (v := p1) rfl ?_
      refine OwnK.iastore X396 hx hZ e396 f402 (i := 0) (by decide) (by first | decide | omega) (Nat.le_of_ble_eq_true rfl) (hb hby at_189) (pc' := 190) rfl (fun T403 h403 X403 e403 W403 V403 => ?_)
      have f404 := f399.other W403 q397
      have f405 := f400.wr W403
      have f406 := Q396.wr W403
      have f407 : Arv Z h403 a396 _ .int (4 : Int32) [(.int p1), (.int (0 : Int32)), (.int (0 : Int32)), (.int (0 : Int32))] (.int (0 : Int32)) := V403
      have N408 := Fr.snoc X403 N393 ge_a396
      have O409 := O401.wr W403 ge_a396
      have z410 : n0 ≤ h403.size := Nat.le_trans z398 (Keep.of_wr W403).1
      refine OwnK.dup X403 hx (hb hby at_190) (pc' := 191) rfl rfl ?_
      refine OwnK.iconst X403 hx (hb hby at_191) (pc' := 192) rfl (v := (1 : Int32)) (by decide) ?_
      refine OwnK.iload X403 hx (hb hby at_192) (pc' := 194) rfl (v := (p1 ^^^ (-1 : Int32))) rfl ?_
      refine OwnK.iastore X403 hx hZ e403 f407 (i := 1) (by decide) (by first | decide | omega) (Nat.le_of_ble_eq_true rfl) (hb hby at_194) (pc' := 195) rfl (fun T411 h411 X411 e411 W411 V411 => ?_)
      have f412 := f404.other W411 q397
      have f413 := f405.wr W411
      have f414 := f406.wr W411
      have f415 : Arv Z h411 a396 _ .int (4 : Int32) [(.int p1), (.int (p1 ^^^ (-1 : Int32))), (.int (0 : Int32)), (.int (0 : Int32))] (.int (0 : Int32)) := V411
      have N416 := Fr.snoc X411 N408 ge_a396
      have O417 := O409.wr W411 ge_a396
      have z418 : n0 ≤ h411.size := Nat.le_trans z410 (Keep.of_wr W411).1
      refine OwnK.dup X411 hx (hb hby at_195) (pc' := 196) rfl rfl ?_
      refine OwnK.iconst X411 hx (hb hby at_196) (pc' := 197) rfl (v := (2 : Int32)) (by decide) ?_
      refine OwnK.iload X411 hx (hb hby at_197) (pc' := 199) rfl (v := (p0 + p1)) rfl ?_
      refine OwnK.iastore X411 hx hZ e411 f415 (i := 2) (by decide) (by first | decide | omega) (Nat.le_of_ble_eq_true rfl) (hb hby at_199) (pc' := 200) rfl (fun T419 h419 X419 e419 W419 V419 => ?_)
      have f420 := f412.other W419 q397
      have f421 := f413.wr W419
      have f422 := f414.wr W419
      have f423 : Arv Z h419 a396 _ .int (4 : Int32) [(.int p1), (.int (p1 ^^^ (-1 : Int32))), (.int (p0 + p1)), (.int (0 : Int32))] (.int (0 : Int32)) := V419
      have N424 := Fr.snoc X419 N416 ge_a396
      have O425 := O417.wr W419 ge_a396
      have z426 : n0 ≤ h419.size := Nat.le_trans z418 (Keep.of_wr W419).1
      refine OwnK.dup X419 hx (hb hby at_200) (pc' := 201) rfl rfl ?_
      refine OwnK.iconst X419 hx (hb hby at_201) (pc' := 202) rfl (v := (3 : Int32)) (by decide) ?_
      refine OwnK.iload X419 hx (hb hby at_202) (pc' := 204) rfl (v := (-p0)) rfl ?_
      refine OwnK.iastore X419 hx hZ e419 f423 (i := 3) (by decide) (by first | decide | omega) (Nat.le_of_ble_eq_true rfl) (hb hby at_204) (pc' := 205) rfl (fun T427 h427 X427 e427 W427 V427 => ?_)
      have f428 := f420.other W427 q397
      have f429 := f421.wr W427
      have f430 := f422.wr W427
      have f431 : Arv Z h427 a396 _ .int (4 : Int32) [(.int p1), (.int (p1 ^^^ (-1 : Int32))), (.int (p0 + p1)), (.int (-p0))] (.int (0 : Int32)) := V427
      have N432 := Fr.snoc X427 N424 ge_a396
      have O433 := O425.wr W427 ge_a396
      have z434 : n0 ≤ h427.size := Nat.le_trans z426 (Keep.of_wr W427).1
      refine OwnK.astore X427 hx (hb hby at_205) (pc' := 207) rfl rfl (Ls' := #[.val (.int p0), .val (.int p1), .val (.int p2), .val (.int p3), .val (.int p4), .val (.int p5), .val (.int (1 : Int32)), .val (.int (0 : Int32)), .val (.int u359), .val (.int u360), .val (.int u367), .val (.int p0), .val (.int p1), .val (.int (p0 ^^^ p1)), .val (.int (p0 ^^^ (-1 : Int32))), .val (.int p1), .val (.int (p1 ^^^ (-1 : Int32))), .val (.int (p0 + p1)), .val (.int (-p0)), .val (.ref a368), .val (.ref a396), .unset, .unset, .unset, .unset, .unset, .unset, .unset, .unset, .unset]) rfl ?_
      refine OwnK.aload X427 hx (hb hby at_207) (pc' := 209) rfl (v := (.ref a368)) rfl rfl ?_
      refine OwnK.iload X427 hx (hb hby at_209) (pc' := 211) rfl (v := u359) rfl ?_
      refine OwnK.aload X427 hx (hb hby at_211) (pc' := 213) rfl (v := (.ref a396)) rfl rfl ?_
      refine OwnK.iload X427 hx (hb hby at_213) (pc' := 215) rfl (v := u360) rfl ?_
      refine OwnK.iload X427 hx (hb hby at_215) (pc' := 217) rfl (v := u367) rfl ?_
      refine OwnK.callS_ X427 hx hZ hown (y := (⟨"com/example/redbark/redbark/KeyArrays", "copy", "(Ljava/lang/Object;ILjava/lang/Object;II)V"⟩ : MethodName)) (hw _ (List.mem_of_getElem? (i := 5) rfl)) (hw _ (List.mem_of_getElem? (i := 6) rfl)) (hw _ (List.mem_of_getElem? (i := 7) rfl)) (hw _ (List.mem_of_getElem? (i := 8) rfl)) (by decide) (own_copyI l Z a0 hw h427 n0 z434 a368 u359 a396 u360 u367 _ _ _ _ _ _ _ _ _  ge_a396 f428 f431 f429 f430 b1_u359 b1_u360 b1_u367 (by omega) (by omega) rfl  ) (by decide) (W := 0) (by decide) e427 (by rw [hml]; rfl) own_pd_9 (argsL := [(.ref a368), (.int u359), (.ref a396), (.int u360), (.int u367)]) rfl (S := []) rfl (Nat.le_of_eq rfl) (hb hby at_217) (pc' := 220) rfl (by decide) (by decide) (fun T435 v435 L435 X435 hQ435 => ?_)
      obtain ⟨rfl, N435q, K435, V435⟩ := hQ435
      have N436 := Fr.app N432 N435q
      have f437 := f428.keep K435 (ninS q397 nin0)
      have f438 := f429.keep K435
      have f439 := f430.keep K435
      have z440 : n0 ≤ T435.heap.size := Nat.le_trans z434 K435.1
      have O441 := O433.keep K435 (allS ge_a396 all0)
      refine OwnK.aload X435 hx (hb hby at_220) (pc' := 222) rfl (v := (.ref a396)) rfl rfl ?_
      refine OwnK.iconst X435 hx (hb hby at_222) (pc' := 223) rfl (v := (0 : Int32)) (by decide) ?_
      refine OwnK.iaload X435 hx hZ rfl V435 (by decide) (by decide) (v := (.int (own_exp (0 : Int32).toInt u359.toInt u360.toInt u367.toInt p0 p1 (p0 ^^^ p1) (p0 ^^^ (-1 : Int32)) p1 (p1 ^^^ (-1 : Int32)) (p0 + p1) (-p0)))) (own_cpk Value.int _ _ p0 p1 (p0 ^^^ p1) (p0 ^^^ (-1 : Int32)) p1 (p1 ^^^ (-1 : Int32)) (p0 + p1) (-p0) (k := 0) (by omega) (by omega) (by decide) b1_u359 b1_u360 b1_u367 (by decide)) (hb hby at_223) (pc' := 224) rfl ?_
      refine OwnK.iconst X435 hx (hb hby at_224) (pc' := 225) rfl (v := (0 : Int32)) (by decide) ?_
      refine OwnK.iload X435 hx (hb hby at_225) (pc' := 227) rfl (v := u359) rfl ?_
      refine OwnK.iload X435 hx (hb hby at_227) (pc' := 229) rfl (v := u360) rfl ?_
      refine OwnK.iload X435 hx (hb hby at_229) (pc' := 231) rfl (v := u367) rfl ?_
      refine OwnK.iload X435 hx (hb hby at_231) (pc' := 233) rfl (v := p0) rfl ?_
      refine OwnK.iload X435 hx (hb hby at_233) (pc' := 235) rfl (v := p1) rfl ?_
      refine OwnK.iload X435 hx (hb hby at_235) (pc' := 237) rfl (v := (p0 ^^^ p1)) rfl ?_
      refine OwnK.iload X435 hx (hb hby at_237) (pc' := 239) rfl (v := (p0 ^^^ (-1 : Int32))) rfl ?_
      refine OwnK.iload X435 hx (hb hby at_239) (pc' := 241) rfl (v := p1) rfl ?_
      refine OwnK.iload X435 hx (hb hby at_241) (pc' := 243) rfl (v := (p1 ^^^ (-1 : Int32))) rfl ?_
      refine OwnK.iload X435 hx (hb hby at_243) (pc' := 245) rfl (v := (p0 + p1)) rfl ?_
      refine OwnK.iload X435 hx (hb hby at_245) (pc' := 247) rfl (v := (-p0)) rfl ?_
      refine OwnK.callS_ X435 hx hZ hown (y := (⟨"com/example/redbark/redbark/KeyArraysCopyPinLaw", "expI", "(IIIIIIIIIIII)I"⟩ : MethodName)) (hw _ (List.mem_of_getElem? (i := 15) rfl)) (hw _ (List.mem_of_getElem? (i := 16) rfl)) (hw _ (List.mem_of_getElem? (i := 17) rfl)) (hw _ (List.mem_of_getElem? (i := 18) rfl)) (by decide) (own_met3 l Z a0 hw T435.heap (0 : Int32) u359 u360 u367 p0 p1 (p0 ^^^ p1) (p0 ^^^ (-1 : Int32)) p1 (p1 ^^^ (-1 : Int32)) (p0 + p1) (-p0) (by decide) b_u359 b_u360 b_u367 ) (by decide) (W := 1) (by decide) rfl (by rw [hml]; rfl) own_pd_6 (argsL := [(.int (0 : Int32)), (.int u359), (.int u360), (.int u367), (.int p0), (.int p1), (.int (p0 ^^^ p1)), (.int (p0 ^^^ (-1 : Int32))), (.int p1), (.int (p1 ^^^ (-1 : Int32))), (.int (p0 + p1)), (.int (-p0))]) rfl (S := [(.int (own_exp (0 : Int32).toInt u359.toInt u360.toInt u367.toInt p0 p1 (p0 ^^^ p1) (p0 ^^^ (-1 : Int32)) p1 (p1 ^^^ (-1 : Int32)) (p0 + p1) (-p0)))]) rfl (Nat.le_of_eq rfl) (hb hby at_247) (pc' := 250) rfl (by decide) (by decide) (fun T442 v442 L442 X442 hQ442 => ?_)
      obtain ⟨rfl, e442, rfl⟩ := hQ442
      have N443 := Fr.app N436 (Fr.nil n0)
      refine OwnK.icmp_ne X442 hx (hb hby at_250) (by decide) (pcT := 356) (by decide) (pc' := 253) rfl (fun (hc250 : ¬ (own_exp (0 : Int32).toInt u359.toInt u360.toInt u367.toInt p0 p1 (p0 ^^^ p1) (p0 ^^^ (-1 : Int32)) p1 (p1 ^^^ (-1 : Int32)) (p0 + p1) (-p0)).toInt = (own_exp (0 : Int32).toInt u359.toInt u360.toInt u367.toInt p0 p1 (p0 ^^^ p1) (p0 ^^^ (-1 : Int32)) p1 (p1 ^^^ (-1 : Int32)) (p0 + p1) (-p0)).toInt) => absurd rfl hc250) (fun hc250 => ?_)
      refine OwnK.aload X442 hx (hb hby at_253) (pc' := 255) rfl (v := (.ref a396)) rfl rfl ?_
      refine OwnK.iconst X442 hx (hb hby at_255) (pc' := 256) rfl (v := (1 : Int32)) (by decide) ?_
      refine OwnK.iaload X442 hx hZ e442 V435 (by decide) (by decide) (v := (.int (own_exp (1 : Int32).toInt u359.toInt u360.toInt u367.toInt p0 p1 (p0 ^^^ p1) (p0 ^^^ (-1 : Int32)) p1 (p1 ^^^ (-1 : Int32)) (p0 + p1) (-p0)))) (own_cpk Value.int _ _ p0 p1 (p0 ^^^ p1) (p0 ^^^ (-1 : Int32)) p1 (p1 ^^^ (-1 : Int32)) (p0 + p1) (-p0) (k := 1) (by omega) (by omega) (by decide) b1_u359 b1_u360 b1_u367 (by decide)) (hb hby at_256) (pc' := 257) rfl ?_
      refine OwnK.iconst X442 hx (hb hby at_257) (pc' := 258) rfl (v := (1 : Int32)) (by decide) ?_
      refine OwnK.iload X442 hx (hb hby at_258) (pc' := 260) rfl (v := u359) rfl ?_
      refine OwnK.iload X442 hx (hb hby at_260) (pc' := 262) rfl (v := u360) rfl ?_
      refine OwnK.iload X442 hx (hb hby at_262) (pc' := 264) rfl (v := u367) rfl ?_
      refine OwnK.iload X442 hx (hb hby at_264) (pc' := 266) rfl (v := p0) rfl ?_
      refine OwnK.iload X442 hx (hb hby at_266) (pc' := 268) rfl (v := p1) rfl ?_
      refine OwnK.iload X442 hx (hb hby at_268) (pc' := 270) rfl (v := (p0 ^^^ p1)) rfl ?_
      refine OwnK.iload X442 hx (hb hby at_270) (pc' := 272) rfl (v := (p0 ^^^ (-1 : Int32))) rfl ?_
      refine OwnK.iload X442 hx (hb hby at_272) (pc' := 274) rfl (v := p1) rfl ?_
      refine OwnK.iload X442 hx (hb hby at_274) (pc' := 276) rfl (v := (p1 ^^^ (-1 : Int32))) rfl ?_
      refine OwnK.iload X442 hx (hb hby at_276) (pc' := 278) rfl (v := (p0 + p1)) rfl ?_
      refine OwnK.iload X442 hx (hb hby at_278) (pc' := 280) rfl (v := (-p0)) rfl ?_
      refine OwnK.callS_ X442 hx hZ hown (y := (⟨"com/example/redbark/redbark/KeyArraysCopyPinLaw", "expI", "(IIIIIIIIIIII)I"⟩ : MethodName)) (hw _ (List.mem_of_getElem? (i := 15) rfl)) (hw _ (List.mem_of_getElem? (i := 16) rfl)) (hw _ (List.mem_of_getElem? (i := 17) rfl)) (hw _ (List.mem_of_getElem? (i := 18) rfl)) (by decide) (own_met3 l Z a0 hw T435.heap (1 : Int32) u359 u360 u367 p0 p1 (p0 ^^^ p1) (p0 ^^^ (-1 : Int32)) p1 (p1 ^^^ (-1 : Int32)) (p0 + p1) (-p0) (by decide) b_u359 b_u360 b_u367 ) (by decide) (W := 1) (by decide) e442 (by rw [hml]; rfl) own_pd_6 (argsL := [(.int (1 : Int32)), (.int u359), (.int u360), (.int u367), (.int p0), (.int p1), (.int (p0 ^^^ p1)), (.int (p0 ^^^ (-1 : Int32))), (.int p1), (.int (p1 ^^^ (-1 : Int32))), (.int (p0 + p1)), (.int (-p0))]) rfl (S := [(.int (own_exp (1 : Int32).toInt u359.toInt u360.toInt u367.toInt p0 p1 (p0 ^^^ p1) (p0 ^^^ (-1 : Int32)) p1 (p1 ^^^ (-1 : Int32)) (p0 + p1) (-p0)))]) rfl (Nat.le_of_eq rfl) (hb hby at_280) (pc' := 283) rfl (by decide) (by decide) (fun T444 v444 L444 X444 hQ444 => ?_)
      obtain ⟨rfl, e444, rfl⟩ := hQ444
      have N445 := Fr.app N443 (Fr.nil n0)
      refine OwnK.icmp_ne X444 hx (hb hby at_283) (by decide) (pcT := 356) (by decide) (pc' := 286) rfl (fun (hc283 : ¬ (own_exp (1 : Int32).toInt u359.toInt u360.toInt u367.toInt p0 p1 (p0 ^^^ p1) (p0 ^^^ (-1 : Int32)) p1 (p1 ^^^ (-1 : Int32)) (p0 + p1) (-p0)).toInt = (own_exp (1 : Int32).toInt u359.toInt u360.toInt u367.toInt p0 p1 (p0 ^^^ p1) (p0 ^^^ (-1 : Int32)) p1 (p1 ^^^ (-1 : Int32)) (p0 + p1) (-p0)).toInt) => absurd rfl hc283) (fun hc283 => ?_)
      refine OwnK.aload X444 hx (hb hby at_286) (pc' := 288) rfl (v := (.ref a396)) rfl rfl ?_
      refine OwnK.iconst X444 hx (hb hby at_288) (pc' := 289) rfl (v := (2 : Int32)) (by decide) ?_
      refine OwnK.iaload X444 hx hZ e444 V435 (by decide) (by decide) (v := (.int (own_exp (2 : Int32).toInt u359.toInt u360.toInt u367.toInt p0 p1 (p0 ^^^ p1) (p0 ^^^ (-1 : Int32)) p1 (p1 ^^^ (-1 : Int32)) (p0 + p1) (-p0)))) (own_cpk Value.int _ _ p0 p1 (p0 ^^^ p1) (p0 ^^^ (-1 : Int32)) p1 (p1 ^^^ (-1 : Int32)) (p0 + p1) (-p0) (k := 2) (by omega) (by omega) (by decide) b1_u359 b1_u360 b1_u367 (by decide)) (hb hby at_289) (pc' := 290) rfl ?_
      refine OwnK.iconst X444 hx (hb hby at_290) (pc' := 291) rfl (v := (2 : Int32)) (by decide) ?_
      refine OwnK.iload X444 hx (hb hby at_291) (pc' := 293) rfl (v := u359) rfl ?_
      refine OwnK.iload X444 hx (hb hby at_293) (pc' := 295) rfl (v := u360) rfl ?_
      refine OwnK.iload X444 hx (hb hby at_295) (pc' := 297) rfl (v := u367) rfl ?_
      refine OwnK.iload X444 hx (hb hby at_297) (pc' := 299) rfl (v := p0) rfl ?_
      refine OwnK.iload X444 hx (hb hby at_299) (pc' := 301) rfl (v := p1) rfl ?_
      refine OwnK.iload X444 hx (hb hby at_301) (pc' := 303) rfl (v := (p0 ^^^ p1)) rfl ?_
      refine OwnK.iload X444 hx (hb hby at_303) (pc' := 305) rfl (v := (p0 ^^^ (-1 : Int32))) rfl ?_
      refine OwnK.iload X444 hx (hb hby at_305) (pc' := 307) rfl (v := p1) rfl ?_
      refine OwnK.iload X444 hx (hb hby at_307) (pc' := 309) rfl (v := (p1 ^^^ (-1 : Int32))) rfl ?_
      refine OwnK.iload X444 hx (hb hby at_309) (pc' := 311) rfl (v := (p0 + p1)) rfl ?_
      refine OwnK.iload X444 hx (hb hby at_311) (pc' := 313) rfl (v := (-p0)) rfl ?_
      refine OwnK.callS_ X444 hx hZ hown (y := (⟨"com/example/redbark/redbark/KeyArraysCopyPinLaw", "expI", "(IIIIIIIIIIII)I"⟩ : MethodName)) (hw _ (List.mem_of_getElem? (i := 15) rfl)) (hw _ (List.mem_of_getElem? (i := 16) rfl)) (hw _ (List.mem_of_getElem? (i := 17) rfl)) (hw _ (List.mem_of_getElem? (i := 18) rfl)) (by decide) (own_met3 l Z a0 hw T435.heap (2 : Int32) u359 u360 u367 p0 p1 (p0 ^^^ p1) (p0 ^^^ (-1 : Int32)) p1 (p1 ^^^ (-1 : Int32)) (p0 + p1) (-p0) (by decide) b_u359 b_u360 b_u367 ) (by decide) (W := 1) (by decide) e444 (by rw [hml]; rfl) own_pd_6 (argsL := [(.int (2 : Int32)), (.int u359), (.int u360), (.int u367), (.int p0), (.int p1), (.int (p0 ^^^ p1)), (.int (p0 ^^^ (-1 : Int32))), (.int p1), (.int (p1 ^^^ (-1 : Int32))), (.int (p0 + p1)), (.int (-p0))]) rfl (S := [(.int (own_exp (2 : Int32).toInt u359.toInt u360.toInt u367.toInt p0 p1 (p0 ^^^ p1) (p0 ^^^ (-1 : Int32)) p1 (p1 ^^^ (-1 : Int32)) (p0 + p1) (-p0)))]) rfl (Nat.le_of_eq rfl) (hb hby at_313) (pc' := 316) rfl (by decide) (by decide) (fun T446 v446 L446 X446 hQ446 => ?_)
      obtain ⟨rfl, e446, rfl⟩ := hQ446
      have N447 := Fr.app N445 (Fr.nil n0)
      refine OwnK.icmp_ne X446 hx (hb hby at_316) (by decide) (pcT := 356) (by decide) (pc' := 319) rfl (fun (hc316 : ¬ (own_exp (2 : Int32).toInt u359.toInt u360.toInt u367.toInt p0 p1 (p0 ^^^ p1) (p0 ^^^ (-1 : Int32)) p1 (p1 ^^^ (-1 : Int32)) (p0 + p1) (-p0)).toInt = (own_exp (2 : Int32).toInt u359.toInt u360.toInt u367.toInt p0 p1 (p0 ^^^ p1) (p0 ^^^ (-1 : Int32)) p1 (p1 ^^^ (-1 : Int32)) (p0 + p1) (-p0)).toInt) => absurd rfl hc316) (fun hc316 => ?_)
      refine OwnK.aload X446 hx (hb hby at_319) (pc' := 321) rfl (v := (.ref a396)) rfl rfl ?_
      refine OwnK.iconst X446 hx (hb hby at_321) (pc' := 322) rfl (v := (3 : Int32)) (by decide) ?_
      refine OwnK.iaload X446 hx hZ e446 V435 (by decide) (by decide) (v := (.int (own_exp (3 : Int32).toInt u359.toInt u360.toInt u367.toInt p0 p1 (p0 ^^^ p1) (p0 ^^^ (-1 : Int32)) p1 (p1 ^^^ (-1 : Int32)) (p0 + p1) (-p0)))) (own_cpk Value.int _ _ p0 p1 (p0 ^^^ p1) (p0 ^^^ (-1 : Int32)) p1 (p1 ^^^ (-1 : Int32)) (p0 + p1) (-p0) (k := 3) (by omega) (by omega) (by decide) b1_u359 b1_u360 b1_u367 (by decide)) (hb hby at_322) (pc' := 323) rfl ?_
      refine OwnK.iconst X446 hx (hb hby at_323) (pc' := 324) rfl (v := (3 : Int32)) (by decide) ?_
      refine OwnK.iload X446 hx (hb hby at_324) (pc' := 326) rfl (v := u359) rfl ?_
      refine OwnK.iload X446 hx (hb hby at_326) (pc' := 328) rfl (v := u360) rfl ?_
      refine OwnK.iload X446 hx (hb hby at_328) (pc' := 330) rfl (v := u367) rfl ?_
      refine OwnK.iload X446 hx (hb hby at_330) (pc' := 332) rfl (v := p0) rfl ?_
      refine OwnK.iload X446 hx (hb hby at_332) (pc' := 334) rfl (v := p1) rfl ?_
      refine OwnK.iload X446 hx (hb hby at_334) (pc' := 336) rfl (v := (p0 ^^^ p1)) rfl ?_
      refine OwnK.iload X446 hx (hb hby at_336) (pc' := 338) rfl (v := (p0 ^^^ (-1 : Int32))) rfl ?_
      refine OwnK.iload X446 hx (hb hby at_338) (pc' := 340) rfl (v := p1) rfl ?_
      refine OwnK.iload X446 hx (hb hby at_340) (pc' := 342) rfl (v := (p1 ^^^ (-1 : Int32))) rfl ?_
      refine OwnK.iload X446 hx (hb hby at_342) (pc' := 344) rfl (v := (p0 + p1)) rfl ?_
      refine OwnK.iload X446 hx (hb hby at_344) (pc' := 346) rfl (v := (-p0)) rfl ?_
      refine OwnK.callS_ X446 hx hZ hown (y := (⟨"com/example/redbark/redbark/KeyArraysCopyPinLaw", "expI", "(IIIIIIIIIIII)I"⟩ : MethodName)) (hw _ (List.mem_of_getElem? (i := 15) rfl)) (hw _ (List.mem_of_getElem? (i := 16) rfl)) (hw _ (List.mem_of_getElem? (i := 17) rfl)) (hw _ (List.mem_of_getElem? (i := 18) rfl)) (by decide) (own_met3 l Z a0 hw T435.heap (3 : Int32) u359 u360 u367 p0 p1 (p0 ^^^ p1) (p0 ^^^ (-1 : Int32)) p1 (p1 ^^^ (-1 : Int32)) (p0 + p1) (-p0) (by decide) b_u359 b_u360 b_u367 ) (by decide) (W := 1) (by decide) e446 (by rw [hml]; rfl) own_pd_6 (argsL := [(.int (3 : Int32)), (.int u359), (.int u360), (.int u367), (.int p0), (.int p1), (.int (p0 ^^^ p1)), (.int (p0 ^^^ (-1 : Int32))), (.int p1), (.int (p1 ^^^ (-1 : Int32))), (.int (p0 + p1)), (.int (-p0))]) rfl (S := [(.int (own_exp (3 : Int32).toInt u359.toInt u360.toInt u367.toInt p0 p1 (p0 ^^^ p1) (p0 ^^^ (-1 : Int32)) p1 (p1 ^^^ (-1 : Int32)) (p0 + p1) (-p0)))]) rfl (Nat.le_of_eq rfl) (hb hby at_346) (pc' := 349) rfl (by decide) (by decide) (fun T448 v448 L448 X448 hQ448 => ?_)
      obtain ⟨rfl, e448, rfl⟩ := hQ448
      have N449 := Fr.app N447 (Fr.nil n0)
      refine OwnK.icmp_ne X448 hx (hb hby at_349) (by decide) (pcT := 356) (by decide) (pc' := 352) rfl (fun (hc349 : ¬ (own_exp (3 : Int32).toInt u359.toInt u360.toInt u367.toInt p0 p1 (p0 ^^^ p1) (p0 ^^^ (-1 : Int32)) p1 (p1 ^^^ (-1 : Int32)) (p0 + p1) (-p0)).toInt = (own_exp (3 : Int32).toInt u359.toInt u360.toInt u367.toInt p0 p1 (p0 ^^^ p1) (p0 ^^^ (-1 : Int32)) p1 (p1 ^^^ (-1 : Int32)) (p0 + p1) (-p0)).toInt) => absurd rfl hc349) (fun hc349 => ?_)
      refine OwnK.iconst X448 hx (hb hby at_352) (pc' := 353) rfl (v := (1 : Int32)) (by decide) ?_
      refine OwnK.goto_ X448 hx (hb hby at_353) (by decide) (pc' := 357) (by decide) ?_
      refine OwnK.istore X448 hx (hb hby at_357) (pc' := 359) rfl (Ls' := #[.val (.int p0), .val (.int p1), .val (.int p2), .val (.int p3), .val (.int p4), .val (.int p5), .val (.int (1 : Int32)), .val (.int (0 : Int32)), .val (.int u359), .val (.int u360), .val (.int u367), .val (.int p0), .val (.int p1), .val (.int (p0 ^^^ p1)), .val (.int (p0 ^^^ (-1 : Int32))), .val (.int p1), .val (.int (p1 ^^^ (-1 : Int32))), .val (.int (p0 + p1)), .val (.int (-p0)), .val (.ref a368), .val (.ref a396), .val (.int (1 : Int32)), .unset, .unset, .unset, .unset, .unset, .unset, .unset, .unset]) rfl ?_
      refine OwnK.iload X448 hx (hb hby at_359) (pc' := 361) rfl (v := (0 : Int32)) rfl ?_
      refine OwnK.if_ne X448 hx (hb hby at_361) (by decide) (pcT := 412) (by decide) (pc' := 364) rfl (fun (hc361 : ¬ 0 = 0) => absurd hc361 (by decide)) (fun hc361 => ?_)
      refine OwnK.iload X448 hx (hb hby at_364) (pc' := 366) rfl (v := (1 : Int32)) rfl ?_
      refine OwnK.if_eq X448 hx (hb hby at_366) (by decide) (pcT := 409) (by decide) (pc' := 369) rfl (fun (hc366 : 1 = 0) => absurd hc366 (by decide)) (fun hc366 => ?_)
      refine OwnK.aload X448 hx (hb hby at_369) (pc' := 371) rfl (v := (.ref a368)) rfl rfl ?_
      refine OwnK.iconst X448 hx (hb hby at_371) (pc' := 372) rfl (v := (0 : Int32)) (by decide) ?_
      refine OwnK.iaload X448 hx hZ e448 f437 (by decide) (by first | decide | omega) (v := (.int p0)) rfl (hb hby at_372) (pc' := 373) rfl ?_
      refine OwnK.iload X448 hx (hb hby at_373) (pc' := 375) rfl (v := p0) rfl ?_
      refine OwnK.icmp_ne X448 hx (hb hby at_375) (by decide) (pcT := 409) (by decide) (pc' := 378) rfl (fun (hc375 : ¬ p0.toInt = p0.toInt) => absurd rfl hc375) (fun hc375 => ?_)
      refine OwnK.aload X448 hx (hb hby at_378) (pc' := 380) rfl (v := (.ref a368)) rfl rfl ?_
      refine OwnK.iconst X448 hx (hb hby at_380) (pc' := 381) rfl (v := (1 : Int32)) (by decide) ?_
      refine OwnK.iaload X448 hx hZ e448 f437 (by decide) (by first | decide | omega) (v := (.int p1)) rfl (hb hby at_381) (pc' := 382) rfl ?_
      refine OwnK.iload X448 hx (hb hby at_382) (pc' := 384) rfl (v := p1) rfl ?_
      refine OwnK.icmp_ne X448 hx (hb hby at_384) (by decide) (pcT := 409) (by decide) (pc' := 387) rfl (fun (hc384 : ¬ p1.toInt = p1.toInt) => absurd rfl hc384) (fun hc384 => ?_)
      refine OwnK.aload X448 hx (hb hby at_387) (pc' := 389) rfl (v := (.ref a368)) rfl rfl ?_
      refine OwnK.iconst X448 hx (hb hby at_389) (pc' := 390) rfl (v := (2 : Int32)) (by decide) ?_
      refine OwnK.iaload X448 hx hZ e448 f437 (by decide) (by first | decide | omega) (v := (.int (p0 ^^^ p1))) rfl (hb hby at_390) (pc' := 391) rfl ?_
      refine OwnK.iload X448 hx (hb hby at_391) (pc' := 393) rfl (v := (p0 ^^^ p1)) rfl ?_
      refine OwnK.icmp_ne X448 hx (hb hby at_393) (by decide) (pcT := 409) (by decide) (pc' := 396) rfl (fun (hc393 : ¬ (p0 ^^^ p1).toInt = (p0 ^^^ p1).toInt) => absurd rfl hc393) (fun hc393 => ?_)
      refine OwnK.aload X448 hx (hb hby at_396) (pc' := 398) rfl (v := (.ref a368)) rfl rfl ?_
      refine OwnK.iconst X448 hx (hb hby at_398) (pc' := 399) rfl (v := (3 : Int32)) (by decide) ?_
      refine OwnK.iaload X448 hx hZ e448 f437 (by decide) (by first | decide | omega) (v := (.int (p0 ^^^ (-1 : Int32)))) rfl (hb hby at_399) (pc' := 400) rfl ?_
      refine OwnK.iload X448 hx (hb hby at_400) (pc' := 402) rfl (v := (p0 ^^^ (-1 : Int32))) rfl ?_
      refine OwnK.icmp_ne X448 hx (hb hby at_402) (by decide) (pcT := 409) (by decide) (pc' := 405) rfl (fun (hc402 : ¬ (p0 ^^^ (-1 : Int32)).toInt = (p0 ^^^ (-1 : Int32)).toInt) => absurd rfl hc402) (fun hc402 => ?_)
      refine OwnK.iconst X448 hx (hb hby at_405) (pc' := 406) rfl (v := (1 : Int32)) (by decide) ?_
      refine OwnK.goto_ X448 hx (hb hby at_406) (by decide) (pc' := 410) (by decide) ?_
      refine OwnK.istore X448 hx (hb hby at_410) (pc' := 412) rfl (Ls' := #[.val (.int p0), .val (.int p1), .val (.int p2), .val (.int p3), .val (.int p4), .val (.int p5), .val (.int (1 : Int32)), .val (.int (0 : Int32)), .val (.int u359), .val (.int u360), .val (.int u367), .val (.int p0), .val (.int p1), .val (.int (p0 ^^^ p1)), .val (.int (p0 ^^^ (-1 : Int32))), .val (.int p1), .val (.int (p1 ^^^ (-1 : Int32))), .val (.int (p0 + p1)), .val (.int (-p0)), .val (.ref a368), .val (.ref a396), .val (.int (1 : Int32)), .unset, .unset, .unset, .unset, .unset, .unset, .unset, .unset]) rfl ?_
      refine OwnK.iload X448 hx (hb hby at_412) (pc' := 414) rfl (v := (1 : Int32)) rfl ?_
      refine OwnK.retN_ X448 hx hret (by simp) hlk (hb hby at_414) (by decide) (by decide) ?_
      exact ⟨rfl, N449⟩
    · refine OwnK.iconst X0 hx (hb hby at_21) (pc' := 22) rfl (v := (1 : Int32)) (by decide) ?_
      refine OwnK.goto_ X0 hx (hb hby at_22) (by decide) (pc' := 26) (by decide) ?_
      refine OwnK.istore X0 hx (hb hby at_26) (pc' := 28) rfl (Ls' := #[.val (.int p0), .val (.int p1), .val (.int p2), .val (.int p3), .val (.int p4), .val (.int p5), .val (.int (1 : Int32)), .val (.int (1 : Int32)), .unset, .unset, .unset, .unset, .unset, .unset, .unset, .unset, .unset, .unset, .unset, .unset, .unset, .unset, .unset, .unset, .unset, .unset, .unset, .unset, .unset, .unset]) rfl ?_
      refine OwnK.iloadN X0 hx (hb hby at_28) (pc' := 29) rfl (v := p2) rfl ?_
      refine OwnK.iconst X0 hx (hb hby at_29) (pc' := 30) rfl (v := (3 : Int32)) (by decide) ?_
      refine OwnK.iand X0 hx (hb hby at_30) (pc' := 31) rfl ?_
      refine OwnK.istoreG X0 hx (hb hby at_31) (pc' := 33) rfl (Ls' := fun u => #[.val (.int p0), .val (.int p1), .val (.int p2), .val (.int p3), .val (.int p4), .val (.int p5), .val (.int (1 : Int32)), .val (.int (1 : Int32)), .val (.int u), .unset, .unset, .unset, .unset, .unset, .unset, .unset, .unset, .unset, .unset, .unset, .unset, .unset, .unset, .unset, .unset, .unset, .unset, .unset, .unset, .unset]) (fun u => rfl) (fun u450 (hu450 : u450 = (p2 &&& (3 : Int32))) => ?_)
      have b_u450 : 0 ≤ u450.toInt ∧ u450.toInt ≤ 3 := by rw [hu450]; exact own_mm3 _
      have b1_u450 : u450.toInt = ((u450.toInt.toNat : Nat) : Int) := by omega
      have b_u450 : 0 ≤ u450.toInt ∧ u450.toInt ≤ 4 := by omega
      have b2_u450 : u450.toInt ≤ 3 := by rw [hu450]; exact (own_mm3 _).2
      refine OwnK.iloadN X0 hx (hb hby at_33) (pc' := 34) rfl (v := p3) rfl ?_
      refine OwnK.iconst X0 hx (hb hby at_34) (pc' := 35) rfl (v := (3 : Int32)) (by decide) ?_
      refine OwnK.iand X0 hx (hb hby at_35) (pc' := 36) rfl ?_
      refine OwnK.istoreG X0 hx (hb hby at_36) (pc' := 38) rfl (Ls' := fun u => #[.val (.int p0), .val (.int p1), .val (.int p2), .val (.int p3), .val (.int p4), .val (.int p5), .val (.int (1 : Int32)), .val (.int (1 : Int32)), .val (.int u450), .val (.int u), .unset, .unset, .unset, .unset, .unset, .unset, .unset, .unset, .unset, .unset, .unset, .unset, .unset, .unset, .unset, .unset, .unset, .unset, .unset, .unset]) (fun u => rfl) (fun u451 (hu451 : u451 = (p3 &&& (3 : Int32))) => ?_)
      have b_u451 : 0 ≤ u451.toInt ∧ u451.toInt ≤ 3 := by rw [hu451]; exact own_mm3 _
      have b1_u451 : u451.toInt = ((u451.toInt.toNat : Nat) : Int) := by omega
      have b_u451 : 0 ≤ u451.toInt ∧ u451.toInt ≤ 4 := by omega
      have b2_u451 : u451.toInt ≤ 3 := by rw [hu451]; exact (own_mm3 _).2
      refine OwnK.iload X0 hx (hb hby at_38) (pc' := 40) rfl (v := p4) rfl ?_
      refine OwnK.bipush X0 hx (hb hby at_40) (pc' := 42) rfl (v := (7 : Int32)) (by decide) ?_
      refine OwnK.iand X0 hx (hb hby at_42) (pc' := 43) rfl ?_
      refine OwnK.iconst X0 hx (hb hby at_43) (pc' := 44) rfl (v := (5 : Int32)) (by decide) ?_
      refine OwnK.irem X0 hx (hb hby at_44) (pc' := 45) rfl (by decide) ?_
      refine OwnK.istoreG X0 hx (hb hby at_45) (pc' := 47) rfl (Ls' := fun u => #[.val (.int p0), .val (.int p1), .val (.int p2), .val (.int p3), .val (.int p4), .val (.int p5), .val (.int (1 : Int32)), .val (.int (1 : Int32)), .val (.int u450), .val (.int u451), .val (.int u), .unset, .unset, .unset, .unset, .unset, .unset, .unset, .unset, .unset, .unset, .unset, .unset, .unset, .unset, .unset, .unset, .unset, .unset, .unset]) (fun u => rfl) (fun u452 (hu452 : u452 = ((p4 &&& (7 : Int32)) % (5 : Int32))) => ?_)
      have b_u452 : 0 ≤ u452.toInt ∧ u452.toInt ≤ 4 := by rw [hu452]; exact own_len _
      refine OwnK.iload X0 hx (hb hby at_47) (pc' := 49) rfl (v := u452) rfl ?_
      refine OwnK.iconst X0 hx (hb hby at_49) (pc' := 50) rfl (v := (4 : Int32)) (by decide) ?_
      refine OwnK.iload X0 hx (hb hby at_50) (pc' := 52) rfl (v := u450) rfl ?_
      refine OwnK.isub X0 hx (hb hby at_52) (pc' := 53) rfl ?_
      refine OwnK.callS_ X0 hx hZ hown (y := (⟨"java/lang/Math", "min", "(II)I"⟩ : MethodName)) (hw _ (List.mem_of_getElem? (i := 0) rfl)) (hw _ (List.mem_of_getElem? (i := 1) rfl)) (hw _ (List.mem_of_getElem? (i := 2) rfl)) (hw _ (List.mem_of_getElem? (i := 3) rfl)) (by decide) (own_met1 l Z a0 hw h0 u452 ((4 : Int32) - u450)  ) (by decide) (W := 0) (by decide) e0 (by rw [hml]; rfl) own_pd_3 (argsL := [(.int u452), (.int ((4 : Int32) - u450))]) rfl (S := []) rfl (Nat.le_of_eq rfl) (hb hby at_53) (pc' := 56) rfl (by decide) (by decide) (fun T453 v453 L453 X453 hQ453 => ?_)
      obtain ⟨rfl, e453, rfl⟩ := hQ453
      have N454 := Fr.app N0 (Fr.nil n0)
      refine OwnK.istoreG X453 hx (hb hby at_56) (pc' := 58) rfl (Ls' := fun u => #[.val (.int p0), .val (.int p1), .val (.int p2), .val (.int p3), .val (.int p4), .val (.int p5), .val (.int (1 : Int32)), .val (.int (1 : Int32)), .val (.int u450), .val (.int u451), .val (.int u), .unset, .unset, .unset, .unset, .unset, .unset, .unset, .unset, .unset, .unset, .unset, .unset, .unset, .unset, .unset, .unset, .unset, .unset, .unset]) (fun u => rfl) (fun u455 (hu455 : u455 = (if ((4 : Int32) - u450).toInt < u452.toInt then ((4 : Int32) - u450) else u452)) => ?_)
      have c_u455 : 0 ≤ u455.toInt ∧ u455.toInt ≤ u452.toInt ∧ u455.toInt ≤ 4 - u450.toInt := by rw [hu455]; exact own_min4 b_u452 b_u450 b2_u450
      have b_u455 : 0 ≤ u455.toInt ∧ u455.toInt ≤ 4 := by omega
      refine OwnK.iload X453 hx (hb hby at_58) (pc' := 60) rfl (v := u455) rfl ?_
      refine OwnK.iconst X453 hx (hb hby at_60) (pc' := 61) rfl (v := (4 : Int32)) (by decide) ?_
      refine OwnK.iload X453 hx (hb hby at_61) (pc' := 63) rfl (v := u451) rfl ?_
      refine OwnK.isub X453 hx (hb hby at_63) (pc' := 64) rfl ?_
      refine OwnK.callS_ X453 hx hZ hown (y := (⟨"java/lang/Math", "min", "(II)I"⟩ : MethodName)) (hw _ (List.mem_of_getElem? (i := 0) rfl)) (hw _ (List.mem_of_getElem? (i := 1) rfl)) (hw _ (List.mem_of_getElem? (i := 2) rfl)) (hw _ (List.mem_of_getElem? (i := 3) rfl)) (by decide) (own_met1 l Z a0 hw h0 u455 ((4 : Int32) - u451)  ) (by decide) (W := 0) (by decide) e453 (by rw [hml]; rfl) own_pd_3 (argsL := [(.int u455), (.int ((4 : Int32) - u451))]) rfl (S := []) rfl (Nat.le_of_eq rfl) (hb hby at_64) (pc' := 67) rfl (by decide) (by decide) (fun T456 v456 L456 X456 hQ456 => ?_)
      obtain ⟨rfl, e456, rfl⟩ := hQ456
      have N457 := Fr.app N454 (Fr.nil n0)
      refine OwnK.istoreG X456 hx (hb hby at_67) (pc' := 69) rfl (Ls' := fun u => #[.val (.int p0), .val (.int p1), .val (.int p2), .val (.int p3), .val (.int p4), .val (.int p5), .val (.int (1 : Int32)), .val (.int (1 : Int32)), .val (.int u450), .val (.int u451), .val (.int u), .unset, .unset, .unset, .unset, .unset, .unset, .unset, .unset, .unset, .unset, .unset, .unset, .unset, .unset, .unset, .unset, .unset, .unset, .unset]) (fun u => rfl) (fun u458 (hu458 : u458 = (if ((4 : Int32) - u451).toInt < u455.toInt then ((4 : Int32) - u451) else u455)) => ?_)
      have c_u458 : 0 ≤ u458.toInt ∧ u458.toInt ≤ u455.toInt ∧ u458.toInt ≤ 4 - u451.toInt := by rw [hu458]; exact own_min4 b_u455 b_u451 b2_u451
      have b_u458 : 0 ≤ u458.toInt ∧ u458.toInt ≤ 4 := by omega
      have b1_u458 : u458.toInt = ((u458.toInt.toNat : Nat) : Int) := by omega
      refine OwnK.iloadN X456 hx (hb hby at_69) (pc' := 70) rfl (v := p0) rfl ?_
      refine OwnK.istore X456 hx (hb hby at_70) (pc' := 72) rfl (Ls' := #[.val (.int p0), .val (.int p1), .val (.int p2), .val (.int p3), .val (.int p4), .val (.int p5), .val (.int (1 : Int32)), .val (.int (1 : Int32)), .val (.int u450), .val (.int u451), .val (.int u458), .val (.int p0), .unset, .unset, .unset, .unset, .unset, .unset, .unset, .unset, .unset, .unset, .unset, .unset, .unset, .unset, .unset, .unset, .unset, .unset]) rfl ?_
      refine OwnK.iloadN X456 hx (hb hby at_72) (pc' := 73) rfl (v := p1) rfl ?_
      refine OwnK.istore X456 hx (hb hby at_73) (pc' := 75) rfl (Ls' := #[.val (.int p0), .val (.int p1), .val (.int p2), .val (.int p3), .val (.int p4), .val (.int p5), .val (.int (1 : Int32)), .val (.int (1 : Int32)), .val (.int u450), .val (.int u451), .val (.int u458), .val (.int p0), .val (.int p1), .unset, .unset, .unset, .unset, .unset, .unset, .unset, .unset, .unset, .unset, .unset, .unset, .unset, .unset, .unset, .unset, .unset]) rfl ?_
      refine OwnK.iloadN X456 hx (hb hby at_75) (pc' := 76) rfl (v := p0) rfl ?_
      refine OwnK.iloadN X456 hx (hb hby at_76) (pc' := 77) rfl (v := p1) rfl ?_
      refine OwnK.ixor X456 hx (hb hby at_77) (pc' := 78) rfl ?_
      refine OwnK.istore X456 hx (hb hby at_78) (pc' := 80) rfl (Ls' := #[.val (.int p0), .val (.int p1), .val (.int p2), .val (.int p3), .val (.int p4), .val (.int p5), .val (.int (1 : Int32)), .val (.int (1 : Int32)), .val (.int u450), .val (.int u451), .val (.int u458), .val (.int p0), .val (.int p1), .val (.int (p0 ^^^ p1)), .unset, .unset, .unset, .unset, .unset, .unset, .unset, .unset, .unset, .unset, .unset, .unset, .unset, .unset, .unset, .unset]) rfl ?_
      refine OwnK.iloadN X456 hx (hb hby at_80) (pc' := 81) rfl (v := p0) rfl ?_
      refine OwnK.iconst X456 hx (hb hby at_81) (pc' := 82) rfl (v := (-1 : Int32)) (by decide) ?_
      refine OwnK.ixor X456 hx (hb hby at_82) (pc' := 83) rfl ?_
      refine OwnK.istore X456 hx (hb hby at_83) (pc' := 85) rfl (Ls' := #[.val (.int p0), .val (.int p1), .val (.int p2), .val (.int p3), .val (.int p4), .val (.int p5), .val (.int (1 : Int32)), .val (.int (1 : Int32)), .val (.int u450), .val (.int u451), .val (.int u458), .val (.int p0), .val (.int p1), .val (.int (p0 ^^^ p1)), .val (.int (p0 ^^^ (-1 : Int32))), .unset, .unset, .unset, .unset, .unset, .unset, .unset, .unset, .unset, .unset, .unset, .unset, .unset, .unset, .unset]) rfl ?_
      refine OwnK.iload X456 hx (hb hby at_85) (pc' := 87) rfl (v := (1 : Int32)) rfl ?_
      refine OwnK.if_eq X456 hx (hb hby at_87) (by decide) (pcT := 95) (by decide) (pc' := 90) rfl (fun (hc87 : 1 = 0) => absurd hc87 (by decide)) (fun hc87 => ?_)
      refine OwnK.iload X456 hx (hb hby at_90) (pc' := 92) rfl (v := p0) rfl ?_
      refine OwnK.goto_ X456 hx (hb hby at_92) (by decide) (pc' := 96) (by decide) ?_
      refine OwnK.istore X456 hx (hb hby at_96) (pc' := 98) rfl (Ls' := #[.val (.int p0), .val (.int p1), .val (.int p2), .val (.int p3), .val (.int p4), .val (.int p5), .val (.int (1 : Int32)), .val (.int (1 : Int32)), .val (.int u450), .val (.int u451), .val (.int u458), .val (.int p0), .val (.int p1), .val (.int (p0 ^^^ p1)), .val (.int (p0 ^^^ (-1 : Int32))), .val (.int p0), .unset, .unset, .unset, .unset, .unset, .unset, .unset, .unset, .unset, .unset, .unset, .unset, .unset, .unset]) rfl ?_
      refine OwnK.iload X456 hx (hb hby at_98) (pc' := 100) rfl (v := (1 : Int32)) rfl ?_
      refine OwnK.if_eq X456 hx (hb hby at_100) (by decide) (pcT := 108) (by decide) (pc' := 103) rfl (fun (hc100 : 1 = 0) => absurd hc100 (by decide)) (fun hc100 => ?_)
      refine OwnK.iload X456 hx (hb hby at_103) (pc' := 105) rfl (v := p1) rfl ?_
      refine OwnK.goto_ X456 hx (hb hby at_105) (by decide) (pc' := 111) (by decide) ?_
      refine OwnK.istore X456 hx (hb hby at_111) (pc' := 113) rfl (Ls' := #[.val (.int p0), .val (.int p1), .val (.int p2), .val (.int p3), .val (.int p4), .val (.int p5), .val (.int (1 : Int32)), .val (.int (1 : Int32)), .val (.int u450), .val (.int u451), .val (.int u458), .val (.int p0), .val (.int p1), .val (.int (p0 ^^^ p1)), .val (.int (p0 ^^^ (-1 : Int32))), .val (.int p0), .val (.int p1), .unset, .unset, .unset, .unset, .unset, .unset, .unset, .unset, .unset, .unset, .unset, .unset, .unset]) rfl ?_
      refine OwnK.iload X456 hx (hb hby at_113) (pc' := 115) rfl (v := (1 : Int32)) rfl ?_
      refine OwnK.if_eq X456 hx (hb hby at_115) (by decide) (pcT := 123) (by decide) (pc' := 118) rfl (fun (hc115 : 1 = 0) => absurd hc115 (by decide)) (fun hc115 => ?_)
      refine OwnK.iload X456 hx (hb hby at_118) (pc' := 120) rfl (v := (p0 ^^^ p1)) rfl ?_
      refine OwnK.goto_ X456 hx (hb hby at_120) (by decide) (pc' := 126) (by decide) ?_
      refine OwnK.istore X456 hx (hb hby at_126) (pc' := 128) rfl (Ls' := #[.val (.int p0), .val (.int p1), .val (.int p2), .val (.int p3), .val (.int p4), .val (.int p5), .val (.int (1 : Int32)), .val (.int (1 : Int32)), .val (.int u450), .val (.int u451), .val (.int u458), .val (.int p0), .val (.int p1), .val (.int (p0 ^^^ p1)), .val (.int (p0 ^^^ (-1 : Int32))), .val (.int p0), .val (.int p1), .val (.int (p0 ^^^ p1)), .unset, .unset, .unset, .unset, .unset, .unset, .unset, .unset, .unset, .unset, .unset, .unset]) rfl ?_
      refine OwnK.iload X456 hx (hb hby at_128) (pc' := 130) rfl (v := (1 : Int32)) rfl ?_
      refine OwnK.if_eq X456 hx (hb hby at_130) (by decide) (pcT := 138) (by decide) (pc' := 133) rfl (fun (hc130 : 1 = 0) => absurd hc130 (by decide)) (fun hc130 => ?_)
      refine OwnK.iload X456 hx (hb hby at_133) (pc' := 135) rfl (v := (p0 ^^^ (-1 : Int32))) rfl ?_
      refine OwnK.goto_ X456 hx (hb hby at_135) (by decide) (pc' := 140) (by decide) ?_
      refine OwnK.istore X456 hx (hb hby at_140) (pc' := 142) rfl (Ls' := #[.val (.int p0), .val (.int p1), .val (.int p2), .val (.int p3), .val (.int p4), .val (.int p5), .val (.int (1 : Int32)), .val (.int (1 : Int32)), .val (.int u450), .val (.int u451), .val (.int u458), .val (.int p0), .val (.int p1), .val (.int (p0 ^^^ p1)), .val (.int (p0 ^^^ (-1 : Int32))), .val (.int p0), .val (.int p1), .val (.int (p0 ^^^ p1)), .val (.int (p0 ^^^ (-1 : Int32))), .unset, .unset, .unset, .unset, .unset, .unset, .unset, .unset, .unset, .unset, .unset]) rfl ?_
      refine OwnK.iload X456 hx (hb hby at_142) (pc' := 144) rfl (v := (1 : Int32)) rfl ?_
      refine OwnK.if_eq X456 hx (hb hby at_144) (by decide) (pcT := 415) (by decide) (pc' := 147) rfl (fun (hc144 : 1 = 0) => absurd hc144 (by decide)) (fun hc144 => ?_)
      refine OwnK.iconst X456 hx (hb hby at_147) (pc' := 148) rfl (v := (4 : Int32)) (by decide) ?_
      refine OwnK.newP_ X456 hx hZ (hw _ (List.mem_of_getElem? (i := 4) rfl)) e456 (hb hby at_148) (pc' := 150) rfl (n := (4 : Int32)) (by decide) (cap := 4) (by decide) (by decide) (by decide) (by decide) (ad := "[I") (by decide) (fun T459 h459 a459 k459 X459 e459 g459 E459 V459 Q459 => ?_)
      have ge_a459 : n0 ≤ a459 := Nat.le_trans Z0 (Nat.le_of_eq g459.symm)
      have z460 : n0 ≤ h459.size := Nat.le_trans Z0 E459.1
      have O461 := O0.ext E459
      have f462 : Arv Z h459 a459 k459 .int (4 : Int32) [(.int (0 : Int32)), (.int (0 : Int32)), (.int (0 : Int32)), (.int (0 : Int32))] (.int (0 : Int32)) := V459.pad (pad_rep [] (.int (0 : Int32)) 4)
      refine OwnK.dup X459 hx (hb hby at_150) (pc' := 151) rfl rfl ?_
      refine OwnK.iconst X459 hx (hb hby at_151) (pc' := 152) rfl (v := (0 : Int32)) (by decide) ?_
      refine OwnK.iload X459 hx (hb hby at_152) (pc' := 154) rfl (v := p0) rfl ?_
      refine OwnK.iastore X459 hx hZ e459 f462 (i := 0) (by decide) (by first | decide | omega) (Nat.le_of_ble_eq_true rfl) (hb hby at_154) (pc' := 155) rfl (fun T463 h463 X463 e463 W463 V463 => ?_)
      have f464 := Q459.wr W463
      have f465 : Arv Z h463 a459 _ .int (4 : Int32) [(.int p0), (.int (0 : Int32)), (.int (0 : Int32)), (.int (0 : Int32))] (.int (0 : Int32)) := V463
      have N466 := Fr.snoc X463 N457 ge_a459
      have O467 := O461.wr W463 ge_a459
      have z468 : n0 ≤ h463.size := Nat.le_trans z460 (Keep.of_wr W463).1
      refine OwnK.dup X463 hx (hb hby at_155) (pc' := 156) rfl rfl ?_
      refine OwnK.iconst X463 hx (hb hby at_156) (pc' := 157) rfl (v := (1 : Int32)) (by decide) ?_
      refine OwnK.iload X463 hx (hb hby at_157) (pc' := 159) rfl (v := p1) rfl ?_
      refine OwnK.iastore X463 hx hZ e463 f465 (i := 1) (by decide) (by first | decide | omega) (Nat.le_of_ble_eq_true rfl) (hb hby at_159) (pc' := 160) rfl (fun T469 h469 X469 e469 W469 V469 => ?_)
      have f470 := f464.wr W469
      have f471 : Arv Z h469 a459 _ .int (4 : Int32) [(.int p0), (.int p1), (.int (0 : Int32)), (.int (0 : Int32))] (.int (0 : Int32)) := V469
      have N472 := Fr.snoc X469 N466 ge_a459
      have O473 := O467.wr W469 ge_a459
      have z474 : n0 ≤ h469.size := Nat.le_trans z468 (Keep.of_wr W469).1
      refine OwnK.dup X469 hx (hb hby at_160) (pc' := 161) rfl rfl ?_
      refine OwnK.iconst X469 hx (hb hby at_161) (pc' := 162) rfl (v := (2 : Int32)) (by decide) ?_
      refine OwnK.iload X469 hx (hb hby at_162) (pc' := 164) rfl (v := (p0 ^^^ p1)) rfl ?_
      refine OwnK.iastore X469 hx hZ e469 f471 (i := 2) (by decide) (by first | decide | omega) (Nat.le_of_ble_eq_true rfl) (hb hby at_164) (pc' := 165) rfl (fun T475 h475 X475 e475 W475 V475 => ?_)
      have f476 := f470.wr W475
      have f477 : Arv Z h475 a459 _ .int (4 : Int32) [(.int p0), (.int p1), (.int (p0 ^^^ p1)), (.int (0 : Int32))] (.int (0 : Int32)) := V475
      have N478 := Fr.snoc X475 N472 ge_a459
      have O479 := O473.wr W475 ge_a459
      have z480 : n0 ≤ h475.size := Nat.le_trans z474 (Keep.of_wr W475).1
      refine OwnK.dup X475 hx (hb hby at_165) (pc' := 166) rfl rfl ?_
      refine OwnK.iconst X475 hx (hb hby at_166) (pc' := 167) rfl (v := (3 : Int32)) (by decide) ?_
      refine OwnK.iload X475 hx (hb hby at_167) (pc' := 169) rfl (v := (p0 ^^^ (-1 : Int32))) rfl ?_
      refine OwnK.iastore X475 hx hZ e475 f477 (i := 3) (by decide) (by first | decide | omega) (Nat.le_of_ble_eq_true rfl) (hb hby at_169) (pc' := 170) rfl (fun T481 h481 X481 e481 W481 V481 => ?_)
      have f482 := f476.wr W481
      have f483 : Arv Z h481 a459 _ .int (4 : Int32) [(.int p0), (.int p1), (.int (p0 ^^^ p1)), (.int (p0 ^^^ (-1 : Int32)))] (.int (0 : Int32)) := V481
      have N484 := Fr.snoc X481 N478 ge_a459
      have O485 := O479.wr W481 ge_a459
      have z486 : n0 ≤ h481.size := Nat.le_trans z480 (Keep.of_wr W481).1
      refine OwnK.astore X481 hx (hb hby at_170) (pc' := 172) rfl rfl (Ls' := #[.val (.int p0), .val (.int p1), .val (.int p2), .val (.int p3), .val (.int p4), .val (.int p5), .val (.int (1 : Int32)), .val (.int (1 : Int32)), .val (.int u450), .val (.int u451), .val (.int u458), .val (.int p0), .val (.int p1), .val (.int (p0 ^^^ p1)), .val (.int (p0 ^^^ (-1 : Int32))), .val (.int p0), .val (.int p1), .val (.int (p0 ^^^ p1)), .val (.int (p0 ^^^ (-1 : Int32))), .val (.ref a459), .unset, .unset, .unset, .unset, .unset, .unset, .unset, .unset, .unset, .unset]) rfl ?_
      refine OwnK.iload X481 hx (hb hby at_172) (pc' := 174) rfl (v := (1 : Int32)) rfl ?_
      refine OwnK.if_eq X481 hx (hb hby at_174) (by decide) (pcT := 182) (by decide) (pc' := 177) rfl (fun (hc174 : 1 = 0) => absurd hc174 (by decide)) (fun hc174 => ?_)
      refine OwnK.aload X481 hx (hb hby at_177) (pc' := 179) rfl (v := (.ref a459)) rfl rfl ?_
      refine OwnK.goto_ X481 hx (hb hby at_179) (by decide) (pc' := 205) (by decide) ?_
      refine OwnK.astore X481 hx (hb hby at_205) (pc' := 207) rfl rfl (Ls' := #[.val (.int p0), .val (.int p1), .val (.int p2), .val (.int p3), .val (.int p4), .val (.int p5), .val (.int (1 : Int32)), .val (.int (1 : Int32)), .val (.int u450), .val (.int u451), .val (.int u458), .val (.int p0), .val (.int p1), .val (.int (p0 ^^^ p1)), .val (.int (p0 ^^^ (-1 : Int32))), .val (.int p0), .val (.int p1), .val (.int (p0 ^^^ p1)), .val (.int (p0 ^^^ (-1 : Int32))), .val (.ref a459), .val (.ref a459), .unset, .unset, .unset, .unset, .unset, .unset, .unset, .unset, .unset]) rfl ?_
      refine OwnK.aload X481 hx (hb hby at_207) (pc' := 209) rfl (v := (.ref a459)) rfl rfl ?_
      refine OwnK.iload X481 hx (hb hby at_209) (pc' := 211) rfl (v := u450) rfl ?_
      refine OwnK.aload X481 hx (hb hby at_211) (pc' := 213) rfl (v := (.ref a459)) rfl rfl ?_
      refine OwnK.iload X481 hx (hb hby at_213) (pc' := 215) rfl (v := u451) rfl ?_
      refine OwnK.iload X481 hx (hb hby at_215) (pc' := 217) rfl (v := u458) rfl ?_
      refine OwnK.callS_ X481 hx hZ hown (y := (⟨"com/example/redbark/redbark/KeyArrays", "copy", "(Ljava/lang/Object;ILjava/lang/Object;II)V"⟩ : MethodName)) (hw _ (List.mem_of_getElem? (i := 5) rfl)) (hw _ (List.mem_of_getElem? (i := 6) rfl)) (hw _ (List.mem_of_getElem? (i := 7) rfl)) (hw _ (List.mem_of_getElem? (i := 8) rfl)) (by decide) (own_copyI l Z a0 hw h481 n0 z486 a459 u450 a459 u451 u458 _ _ _ _ _ _ _ _ _  ge_a459 f483 f483 f482 f482 b1_u450 b1_u451 b1_u458 (by omega) (by omega) rfl  ) (by decide) (W := 0) (by decide) e481 (by rw [hml]; rfl) own_pd_9 (argsL := [(.ref a459), (.int u450), (.ref a459), (.int u451), (.int u458)]) rfl (S := []) rfl (Nat.le_of_eq rfl) (hb hby at_217) (pc' := 220) rfl (by decide) (by decide) (fun T487 v487 L487 X487 hQ487 => ?_)
      obtain ⟨rfl, N487q, K487, V487⟩ := hQ487
      have N488 := Fr.app N484 N487q
      have f489 := f482.keep K487
      have z490 : n0 ≤ T487.heap.size := Nat.le_trans z486 K487.1
      have O491 := O485.keep K487 (allS ge_a459 all0)
      refine OwnK.aload X487 hx (hb hby at_220) (pc' := 222) rfl (v := (.ref a459)) rfl rfl ?_
      refine OwnK.iconst X487 hx (hb hby at_222) (pc' := 223) rfl (v := (0 : Int32)) (by decide) ?_
      refine OwnK.iaload X487 hx hZ rfl V487 (by decide) (by decide) (v := (.int (own_exp (0 : Int32).toInt u450.toInt u451.toInt u458.toInt p0 p1 (p0 ^^^ p1) (p0 ^^^ (-1 : Int32)) p0 p1 (p0 ^^^ p1) (p0 ^^^ (-1 : Int32))))) (own_cpk Value.int _ _ p0 p1 (p0 ^^^ p1) (p0 ^^^ (-1 : Int32)) p0 p1 (p0 ^^^ p1) (p0 ^^^ (-1 : Int32)) (k := 0) (by omega) (by omega) (by decide) b1_u450 b1_u451 b1_u458 (by decide)) (hb hby at_223) (pc' := 224) rfl ?_
      refine OwnK.iconst X487 hx (hb hby at_224) (pc' := 225) rfl (v := (0 : Int32)) (by decide) ?_
      refine OwnK.iload X487 hx (hb hby at_225) (pc' := 227) rfl (v := u450) rfl ?_
      refine OwnK.iload X487 hx (hb hby at_227) (pc' := 229) rfl (v := u451) rfl ?_
      refine OwnK.iload X487 hx (hb hby at_229) (pc' := 231) rfl (v := u458) rfl ?_
      refine OwnK.iload X487 hx (hb hby at_231) (pc' := 233) rfl (v := p0) rfl ?_
      refine OwnK.iload X487 hx (hb hby at_233) (pc' := 235) rfl (v := p1) rfl ?_
      refine OwnK.iload X487 hx (hb hby at_235) (pc' := 237) rfl (v := (p0 ^^^ p1)) rfl ?_
      refine OwnK.iload X487 hx (hb hby at_237) (pc' := 239) rfl (v := (p0 ^^^ (-1 : Int32))) rfl ?_
      refine OwnK.iload X487 hx (hb hby at_239) (pc' := 241) rfl (v := p0) rfl ?_
      refine OwnK.iload X487 hx (hb hby at_241) (pc' := 243) rfl (v := p1) rfl ?_
      refine OwnK.iload X487 hx (hb hby at_243) (pc' := 245) rfl (v := (p0 ^^^ p1)) rfl ?_
      refine OwnK.iload X487 hx (hb hby at_245) (pc' := 247) rfl (v := (p0 ^^^ (-1 : Int32))) rfl ?_
      refine OwnK.callS_ X487 hx hZ hown (y := (⟨"com/example/redbark/redbark/KeyArraysCopyPinLaw", "expI", "(IIIIIIIIIIII)I"⟩ : MethodName)) (hw _ (List.mem_of_getElem? (i := 15) rfl)) (hw _ (List.mem_of_getElem? (i := 16) rfl)) (hw _ (List.mem_of_getElem? (i := 17) rfl)) (hw _ (List.mem_of_getElem? (i := 18) rfl)) (by decide) (own_met3 l Z a0 hw T487.heap (0 : Int32) u450 u451 u458 p0 p1 (p0 ^^^ p1) (p0 ^^^ (-1 : Int32)) p0 p1 (p0 ^^^ p1) (p0 ^^^ (-1 : Int32)) (by decide) b_u450 b_u451 b_u458 ) (by decide) (W := 1) (by decide) rfl (by rw [hml]; rfl) own_pd_6 (argsL := [(.int (0 : Int32)), (.int u450), (.int u451), (.int u458), (.int p0), (.int p1), (.int (p0 ^^^ p1)), (.int (p0 ^^^ (-1 : Int32))), (.int p0), (.int p1), (.int (p0 ^^^ p1)), (.int (p0 ^^^ (-1 : Int32)))]) rfl (S := [(.int (own_exp (0 : Int32).toInt u450.toInt u451.toInt u458.toInt p0 p1 (p0 ^^^ p1) (p0 ^^^ (-1 : Int32)) p0 p1 (p0 ^^^ p1) (p0 ^^^ (-1 : Int32))))]) rfl (Nat.le_of_eq rfl) (hb hby at_247) (pc' := 250) rfl (by decide) (by decide) (fun T492 v492 L492 X492 hQ492 => ?_)
      obtain ⟨rfl, e492, rfl⟩ := hQ492
      have N493 := Fr.app N488 (Fr.nil n0)
      refine OwnK.icmp_ne X492 hx (hb hby at_250) (by decide) (pcT := 356) (by decide) (pc' := 253) rfl (fun (hc250 : ¬ (own_exp (0 : Int32).toInt u450.toInt u451.toInt u458.toInt p0 p1 (p0 ^^^ p1) (p0 ^^^ (-1 : Int32)) p0 p1 (p0 ^^^ p1) (p0 ^^^ (-1 : Int32))).toInt = (own_exp (0 : Int32).toInt u450.toInt u451.toInt u458.toInt p0 p1 (p0 ^^^ p1) (p0 ^^^ (-1 : Int32)) p0 p1 (p0 ^^^ p1) (p0 ^^^ (-1 : Int32))).toInt) => absurd rfl hc250) (fun hc250 => ?_)
      refine OwnK.aload X492 hx (hb hby at_253) (pc' := 255) rfl (v := (.ref a459)) rfl rfl ?_
      refine OwnK.iconst X492 hx (hb hby at_255) (pc' := 256) rfl (v := (1 : Int32)) (by decide) ?_
      refine OwnK.iaload X492 hx hZ e492 V487 (by decide) (by decide) (v := (.int (own_exp (1 : Int32).toInt u450.toInt u451.toInt u458.toInt p0 p1 (p0 ^^^ p1) (p0 ^^^ (-1 : Int32)) p0 p1 (p0 ^^^ p1) (p0 ^^^ (-1 : Int32))))) (own_cpk Value.int _ _ p0 p1 (p0 ^^^ p1) (p0 ^^^ (-1 : Int32)) p0 p1 (p0 ^^^ p1) (p0 ^^^ (-1 : Int32)) (k := 1) (by omega) (by omega) (by decide) b1_u450 b1_u451 b1_u458 (by decide)) (hb hby at_256) (pc' := 257) rfl ?_
      refine OwnK.iconst X492 hx (hb hby at_257) (pc' := 258) rfl (v := (1 : Int32)) (by decide) ?_
      refine OwnK.iload X492 hx (hb hby at_258) (pc' := 260) rfl (v := u450) rfl ?_
      refine OwnK.iload X492 hx (hb hby at_260) (pc' := 262) rfl (v := u451) rfl ?_
      refine OwnK.iload X492 hx (hb hby at_262) (pc' := 264) rfl (v := u458) rfl ?_
      refine OwnK.iload X492 hx (hb hby at_264) (pc' := 266) rfl (v := p0) rfl ?_
      refine OwnK.iload X492 hx (hb hby at_266) (pc' := 268) rfl (v := p1) rfl ?_
      refine OwnK.iload X492 hx (hb hby at_268) (pc' := 270) rfl (v := (p0 ^^^ p1)) rfl ?_
      refine OwnK.iload X492 hx (hb hby at_270) (pc' := 272) rfl (v := (p0 ^^^ (-1 : Int32))) rfl ?_
      refine OwnK.iload X492 hx (hb hby at_272) (pc' := 274) rfl (v := p0) rfl ?_
      refine OwnK.iload X492 hx (hb hby at_274) (pc' := 276) rfl (v := p1) rfl ?_
      refine OwnK.iload X492 hx (hb hby at_276) (pc' := 278) rfl (v := (p0 ^^^ p1)) rfl ?_
      refine OwnK.iload X492 hx (hb hby at_278) (pc' := 280) rfl (v := (p0 ^^^ (-1 : Int32))) rfl ?_
      refine OwnK.callS_ X492 hx hZ hown (y := (⟨"com/example/redbark/redbark/KeyArraysCopyPinLaw", "expI", "(IIIIIIIIIIII)I"⟩ : MethodName)) (hw _ (List.mem_of_getElem? (i := 15) rfl)) (hw _ (List.mem_of_getElem? (i := 16) rfl)) (hw _ (List.mem_of_getElem? (i := 17) rfl)) (hw _ (List.mem_of_getElem? (i := 18) rfl)) (by decide) (own_met3 l Z a0 hw T487.heap (1 : Int32) u450 u451 u458 p0 p1 (p0 ^^^ p1) (p0 ^^^ (-1 : Int32)) p0 p1 (p0 ^^^ p1) (p0 ^^^ (-1 : Int32)) (by decide) b_u450 b_u451 b_u458 ) (by decide) (W := 1) (by decide) e492 (by rw [hml]; rfl) own_pd_6 (argsL := [(.int (1 : Int32)), (.int u450), (.int u451), (.int u458), (.int p0), (.int p1), (.int (p0 ^^^ p1)), (.int (p0 ^^^ (-1 : Int32))), (.int p0), (.int p1), (.int (p0 ^^^ p1)), (.int (p0 ^^^ (-1 : Int32)))]) rfl (S := [(.int (own_exp (1 : Int32).toInt u450.toInt u451.toInt u458.toInt p0 p1 (p0 ^^^ p1) (p0 ^^^ (-1 : Int32)) p0 p1 (p0 ^^^ p1) (p0 ^^^ (-1 : Int32))))]) rfl (Nat.le_of_eq rfl) (hb hby at_280) (pc' := 283) rfl (by decide) (by decide) (fun T494 v494 L494 X494 hQ494 => ?_)
      obtain ⟨rfl, e494, rfl⟩ := hQ494
      have N495 := Fr.app N493 (Fr.nil n0)
      refine OwnK.icmp_ne X494 hx (hb hby at_283) (by decide) (pcT := 356) (by decide) (pc' := 286) rfl (fun (hc283 : ¬ (own_exp (1 : Int32).toInt u450.toInt u451.toInt u458.toInt p0 p1 (p0 ^^^ p1) (p0 ^^^ (-1 : Int32)) p0 p1 (p0 ^^^ p1) (p0 ^^^ (-1 : Int32))).toInt = (own_exp (1 : Int32).toInt u450.toInt u451.toInt u458.toInt p0 p1 (p0 ^^^ p1) (p0 ^^^ (-1 : Int32)) p0 p1 (p0 ^^^ p1) (p0 ^^^ (-1 : Int32))).toInt) => absurd rfl hc283) (fun hc283 => ?_)
      refine OwnK.aload X494 hx (hb hby at_286) (pc' := 288) rfl (v := (.ref a459)) rfl rfl ?_
      refine OwnK.iconst X494 hx (hb hby at_288) (pc' := 289) rfl (v := (2 : Int32)) (by decide) ?_
      refine OwnK.iaload X494 hx hZ e494 V487 (by decide) (by decide) (v := (.int (own_exp (2 : Int32).toInt u450.toInt u451.toInt u458.toInt p0 p1 (p0 ^^^ p1) (p0 ^^^ (-1 : Int32)) p0 p1 (p0 ^^^ p1) (p0 ^^^ (-1 : Int32))))) (own_cpk Value.int _ _ p0 p1 (p0 ^^^ p1) (p0 ^^^ (-1 : Int32)) p0 p1 (p0 ^^^ p1) (p0 ^^^ (-1 : Int32)) (k := 2) (by omega) (by omega) (by decide) b1_u450 b1_u451 b1_u458 (by decide)) (hb hby at_289) (pc' := 290) rfl ?_
      refine OwnK.iconst X494 hx (hb hby at_290) (pc' := 291) rfl (v := (2 : Int32)) (by decide) ?_
      refine OwnK.iload X494 hx (hb hby at_291) (pc' := 293) rfl (v := u450) rfl ?_
      refine OwnK.iload X494 hx (hb hby at_293) (pc' := 295) rfl (v := u451) rfl ?_
      refine OwnK.iload X494 hx (hb hby at_295) (pc' := 297) rfl (v := u458) rfl ?_
      refine OwnK.iload X494 hx (hb hby at_297) (pc' := 299) rfl (v := p0) rfl ?_
      refine OwnK.iload X494 hx (hb hby at_299) (pc' := 301) rfl (v := p1) rfl ?_
      refine OwnK.iload X494 hx (hb hby at_301) (pc' := 303) rfl (v := (p0 ^^^ p1)) rfl ?_
      refine OwnK.iload X494 hx (hb hby at_303) (pc' := 305) rfl (v := (p0 ^^^ (-1 : Int32))) rfl ?_
      refine OwnK.iload X494 hx (hb hby at_305) (pc' := 307) rfl (v := p0) rfl ?_
      refine OwnK.iload X494 hx (hb hby at_307) (pc' := 309) rfl (v := p1) rfl ?_
      refine OwnK.iload X494 hx (hb hby at_309) (pc' := 311) rfl (v := (p0 ^^^ p1)) rfl ?_
      refine OwnK.iload X494 hx (hb hby at_311) (pc' := 313) rfl (v := (p0 ^^^ (-1 : Int32))) rfl ?_
      refine OwnK.callS_ X494 hx hZ hown (y := (⟨"com/example/redbark/redbark/KeyArraysCopyPinLaw", "expI", "(IIIIIIIIIIII)I"⟩ : MethodName)) (hw _ (List.mem_of_getElem? (i := 15) rfl)) (hw _ (List.mem_of_getElem? (i := 16) rfl)) (hw _ (List.mem_of_getElem? (i := 17) rfl)) (hw _ (List.mem_of_getElem? (i := 18) rfl)) (by decide) (own_met3 l Z a0 hw T487.heap (2 : Int32) u450 u451 u458 p0 p1 (p0 ^^^ p1) (p0 ^^^ (-1 : Int32)) p0 p1 (p0 ^^^ p1) (p0 ^^^ (-1 : Int32)) (by decide) b_u450 b_u451 b_u458 ) (by decide) (W := 1) (by decide) e494 (by rw [hml]; rfl) own_pd_6 (argsL := [(.int (2 : Int32)), (.int u450), (.int u451), (.int u458), (.int p0), (.int p1), (.int (p0 ^^^ p1)), (.int (p0 ^^^ (-1 : Int32))), (.int p0), (.int p1), (.int (p0 ^^^ p1)), (.int (p0 ^^^ (-1 : Int32)))]) rfl (S := [(.int (own_exp (2 : Int32).toInt u450.toInt u451.toInt u458.toInt p0 p1 (p0 ^^^ p1) (p0 ^^^ (-1 : Int32)) p0 p1 (p0 ^^^ p1) (p0 ^^^ (-1 : Int32))))]) rfl (Nat.le_of_eq rfl) (hb hby at_313) (pc' := 316) rfl (by decide) (by decide) (fun T496 v496 L496 X496 hQ496 => ?_)
      obtain ⟨rfl, e496, rfl⟩ := hQ496
      have N497 := Fr.app N495 (Fr.nil n0)
      refine OwnK.icmp_ne X496 hx (hb hby at_316) (by decide) (pcT := 356) (by decide) (pc' := 319) rfl (fun (hc316 : ¬ (own_exp (2 : Int32).toInt u450.toInt u451.toInt u458.toInt p0 p1 (p0 ^^^ p1) (p0 ^^^ (-1 : Int32)) p0 p1 (p0 ^^^ p1) (p0 ^^^ (-1 : Int32))).toInt = (own_exp (2 : Int32).toInt u450.toInt u451.toInt u458.toInt p0 p1 (p0 ^^^ p1) (p0 ^^^ (-1 : Int32)) p0 p1 (p0 ^^^ p1) (p0 ^^^ (-1 : Int32))).toInt) => absurd rfl hc316) (fun hc316 => ?_)
      refine OwnK.aload X496 hx (hb hby at_319) (pc' := 321) rfl (v := (.ref a459)) rfl rfl ?_
      refine OwnK.iconst X496 hx (hb hby at_321) (pc' := 322) rfl (v := (3 : Int32)) (by decide) ?_
      refine OwnK.iaload X496 hx hZ e496 V487 (by decide) (by decide) (v := (.int (own_exp (3 : Int32).toInt u450.toInt u451.toInt u458.toInt p0 p1 (p0 ^^^ p1) (p0 ^^^ (-1 : Int32)) p0 p1 (p0 ^^^ p1) (p0 ^^^ (-1 : Int32))))) (own_cpk Value.int _ _ p0 p1 (p0 ^^^ p1) (p0 ^^^ (-1 : Int32)) p0 p1 (p0 ^^^ p1) (p0 ^^^ (-1 : Int32)) (k := 3) (by omega) (by omega) (by decide) b1_u450 b1_u451 b1_u458 (by decide)) (hb hby at_322) (pc' := 323) rfl ?_
      refine OwnK.iconst X496 hx (hb hby at_323) (pc' := 324) rfl (v := (3 : Int32)) (by decide) ?_
      refine OwnK.iload X496 hx (hb hby at_324) (pc' := 326) rfl (v := u450) rfl ?_
      refine OwnK.iload X496 hx (hb hby at_326) (pc' := 328) rfl (v := u451) rfl ?_
      refine OwnK.iload X496 hx (hb hby at_328) (pc' := 330) rfl (v := u458) rfl ?_
      refine OwnK.iload X496 hx (hb hby at_330) (pc' := 332) rfl (v := p0) rfl ?_
      refine OwnK.iload X496 hx (hb hby at_332) (pc' := 334) rfl (v := p1) rfl ?_
      refine OwnK.iload X496 hx (hb hby at_334) (pc' := 336) rfl (v := (p0 ^^^ p1)) rfl ?_
      refine OwnK.iload X496 hx (hb hby at_336) (pc' := 338) rfl (v := (p0 ^^^ (-1 : Int32))) rfl ?_
      refine OwnK.iload X496 hx (hb hby at_338) (pc' := 340) rfl (v := p0) rfl ?_
      refine OwnK.iload X496 hx (hb hby at_340) (pc' := 342) rfl (v := p1) rfl ?_
      refine OwnK.iload X496 hx (hb hby at_342) (pc' := 344) rfl (v := (p0 ^^^ p1)) rfl ?_
      refine OwnK.iload X496 hx (hb hby at_344) (pc' := 346) rfl (v := (p0 ^^^ (-1 : Int32))) rfl ?_
      refine OwnK.callS_ X496 hx hZ hown (y := (⟨"com/example/redbark/redbark/KeyArraysCopyPinLaw", "expI", "(IIIIIIIIIIII)I"⟩ : MethodName)) (hw _ (List.mem_of_getElem? (i := 15) rfl)) (hw _ (List.mem_of_getElem? (i := 16) rfl)) (hw _ (List.mem_of_getElem? (i := 17) rfl)) (hw _ (List.mem_of_getElem? (i := 18) rfl)) (by decide) (own_met3 l Z a0 hw T487.heap (3 : Int32) u450 u451 u458 p0 p1 (p0 ^^^ p1) (p0 ^^^ (-1 : Int32)) p0 p1 (p0 ^^^ p1) (p0 ^^^ (-1 : Int32)) (by decide) b_u450 b_u451 b_u458 ) (by decide) (W := 1) (by decide) e496 (by rw [hml]; rfl) own_pd_6 (argsL := [(.int (3 : Int32)), (.int u450), (.int u451), (.int u458), (.int p0), (.int p1), (.int (p0 ^^^ p1)), (.int (p0 ^^^ (-1 : Int32))), (.int p0), (.int p1), (.int (p0 ^^^ p1)), (.int (p0 ^^^ (-1 : Int32)))]) rfl (S := [(.int (own_exp (3 : Int32).toInt u450.toInt u451.toInt u458.toInt p0 p1 (p0 ^^^ p1) (p0 ^^^ (-1 : Int32)) p0 p1 (p0 ^^^ p1) (p0 ^^^ (-1 : Int32))))]) rfl (Nat.le_of_eq rfl) (hb hby at_346) (pc' := 349) rfl (by decide) (by decide) (fun T498 v498 L498 X498 hQ498 => ?_)
      obtain ⟨rfl, e498, rfl⟩ := hQ498
      have N499 := Fr.app N497 (Fr.nil n0)
      refine OwnK.icmp_ne X498 hx (hb hby at_349) (by decide) (pcT := 356) (by decide) (pc' := 352) rfl (fun (hc349 : ¬ (own_exp (3 : Int32).toInt u450.toInt u451.toInt u458.toInt p0 p1 (p0 ^^^ p1) (p0 ^^^ (-1 : Int32)) p0 p1 (p0 ^^^ p1) (p0 ^^^ (-1 : Int32))).toInt = (own_exp (3 : Int32).toInt u450.toInt u451.toInt u458.toInt p0 p1 (p0 ^^^ p1) (p0 ^^^ (-1 : Int32)) p0 p1 (p0 ^^^ p1) (p0 ^^^ (-1 : Int32))).toInt) => absurd rfl hc349) (fun hc349 => ?_)
      refine OwnK.iconst X498 hx (hb hby at_352) (pc' := 353) rfl (v := (1 : Int32)) (by decide) ?_
      refine OwnK.goto_ X498 hx (hb hby at_353) (by decide) (pc' := 357) (by decide) ?_
      refine OwnK.istore X498 hx (hb hby at_357) (pc' := 359) rfl (Ls' := #[.val (.int p0), .val (.int p1), .val (.int p2), .val (.int p3), .val (.int p4), .val (.int p5), .val (.int (1 : Int32)), .val (.int (1 : Int32)), .val (.int u450), .val (.int u451), .val (.int u458), .val (.int p0), .val (.int p1), .val (.int (p0 ^^^ p1)), .val (.int (p0 ^^^ (-1 : Int32))), .val (.int p0), .val (.int p1), .val (.int (p0 ^^^ p1)), .val (.int (p0 ^^^ (-1 : Int32))), .val (.ref a459), .val (.ref a459), .val (.int (1 : Int32)), .unset, .unset, .unset, .unset, .unset, .unset, .unset, .unset]) rfl ?_
      refine OwnK.iload X498 hx (hb hby at_359) (pc' := 361) rfl (v := (1 : Int32)) rfl ?_
      refine OwnK.if_ne X498 hx (hb hby at_361) (by decide) (pcT := 412) (by decide) (pc' := 364) rfl (fun hc361 => ?_) (fun (hc361 : 1 = 0) => absurd hc361 (by decide))
      refine OwnK.iload X498 hx (hb hby at_412) (pc' := 414) rfl (v := (1 : Int32)) rfl ?_
      refine OwnK.retN_ X498 hx hret (by simp) hlk (hb hby at_414) (by decide) (by decide) ?_
      exact ⟨rfl, N499⟩
set_option maxRecDepth 65536 in
set_option maxHeartbeats 40000000 in
theorem comes_1 {Post : Tables → Env → Array Value → State → Outcome → State → Prop} (hpost : ∀ tb e args s v u, (limb_1_1.after args s (.returned v) u = true ∧ limb_1_2.after args s (.returned v) u = true ∧ True) → FrameEnd s (.returned v) u (Jvm.fieldLocs frame_1_writes args s ++ Jvm.arrayLocs frame_1_arrays args s ++ Jvm.staticLocs frame_1_statics s) 32 128 → Post tb e args s (.returned v) u) :
    ArmFor flags0 classFile x code maxLocals ret World_1 tables_1 room_1 Calls_1 rest_1 Pre_1 Post := by
  intro l hfl _ _ p e ha hc hk s m args below hf hA hF happ hP
  obtain ⟨hcalls, hrest, hpre⟩ := hP
  obtain ⟨-, -, -, hnamed, -, -, -, hat⟩ := (Spec.applies_iff hf).mp happ
  obtain ⟨hg, hn⟩ := and_e (Cond.before_iff.mp (show (Jvm.Cond.and given_1 narrow_1).before args s = true from hpre))
  obtain ⟨hcnt, hg0⟩ := and_e hg
  obtain ⟨ha0, hg1⟩ := and_e hg0
  obtain ⟨ha1, hg2⟩ := and_e hg1
  obtain ⟨ha2, hg3⟩ := and_e hg2
  obtain ⟨ha3, hg4⟩ := and_e hg3
  obtain ⟨ha4, hg5⟩ := and_e hg4
  have ha5 := hg5
  obtain ⟨w0, w1, w2, w3, w4, w5, rfl⟩ : ∃ w0 w1 w2 w3 w4 w5 : Value, args = #[w0, w1, w2, w3, w4, w5] := by
    have hs : args.size = 6 := by simpa [Cond.value, given_1] using hcnt
    obtain ⟨L⟩ := args
    match L, hs with
    | [w0, w1, w2, w3, w4, w5], _ => exact ⟨w0, w1, w2, w3, w4, w5, rfl⟩
  have hw := fun d (hd : d ∈ tables_1) => atoms_spec (ws := Jvm.Cond.code x code maxLocals ret :: tables_1) hat d (List.mem_cons_of_mem _ hd)
  obtain ⟨hsets, hown0⟩ := atoms_of _ (rest_1_c_eq ▸ (show rest_1_c.before _ s = true from hrest))
  have hfit : Fit s := fun {y c} hc i hi => by
    obtain ⟨ha, rfl⟩ := Array.getElem?_eq_some_iff.mp hc
    have q := List.all_eq_true.mp ((Array.all_eq_true_iff_forall_mem.mp hF) _ (Array.getElem_mem ha)) i (List.mem_range.mpr hi)
    simpa [Array.getElem?_eq_getElem hi] using q
  obtain ⟨i0, e0⟩ := is_v ha0
  obtain rfl : w0 = (.int i0) := Option.some.inj e0
  obtain ⟨i1, e1⟩ := is_v ha1
  obtain rfl : w1 = (.int i1) := Option.some.inj e1
  obtain ⟨i2, e2⟩ := is_v ha2
  obtain rfl : w2 = (.int i2) := Option.some.inj e2
  obtain ⟨i3, e3⟩ := is_v ha3
  obtain rfl : w3 = (.int i3) := Option.some.inj e3
  obtain ⟨i4, e4⟩ := is_v ha4
  obtain rfl : w4 = (.int i4) := Option.some.inj e4
  obtain ⟨i5, e5⟩ := is_v ha5
  obtain rfl : w5 = (.int i5) := Option.some.inj e5
  obtain ⟨_, _, exh, eyh, -⟩ := cmp_v (Or.inl (Cond.before_iff.mp (hsets _ (List.mem_of_getElem? (i := 3) rfl))))
  have qh := own_eqv (Cond.before_iff.mp (hsets _ (List.mem_of_getElem? (i := 3) rfl))) exh (Term.int_eval 127)
  subst qh
  have SH := Sta.start exh (Or.inl (hsets _ (List.mem_of_getElem? (i := 1) rfl)))
  obtain ⟨aC, evC⟩ := arr_v (Cond.before_iff.mp (hsets _ (List.mem_of_getElem? (i := 4) rfl)))
  have SC := Sta.start evC (Or.inr ⟨(hw _ (List.mem_of_getElem? (i := 30) rfl)), (hsets _ (List.mem_of_getElem? (i := 2) rfl))⟩)
  obtain ⟨kC, vsC, AC, CE⟩ := own_cache (fun _ => evC) (Cond.before_iff.mp (hsets _ (List.mem_of_getElem? (i := 4) rfl))) (Cond.before_iff.mp (hsets _ (List.mem_of_getElem? (i := 6) rfl))) (Cond.before_iff.mp (hsets _ (List.mem_of_getElem? (i := 7) rfl)))
  obtain ⟨n, o, h1, h2, h3, _, L, rfl, ⟨rfl, N⟩, hq⟩ := own_law l s _ hw tables_1 s.heap s.heap.size (Nat.le_refl _) i0 i1 i2 i3 i4 i5 aC kC vsC (Old.start s) SH SC AC CE p e ha hc hk s m _ below hf ((Spec.applies_iff_loose hf).mp happ).1 ⟨rfl, State.Warmed39.refl s, rfl⟩ trivial
  refine ⟨n, _, h1, h2, h3, hpost _ _ _ _ _ _ ⟨Cond.after_iff.mpr rfl, Cond.after_iff.mpr (eq_i res_at (Term.int_eval (1)) rfl), trivial⟩ ⟨hq.1, hq.2.1, (hq.2.2.sift fun y hy => Or.inr (N y hy)).mono (by decide) (by decide)⟩⟩
theorem main_1_1 : Claimed_1_1 := comes_1 fun _ _ _ _ _ _ h hF => ⟨h.1, hF⟩
theorem main_1_2 : Claimed_1_2 := comes_1 fun _ _ _ _ _ _ h hF => ⟨h.2.1, hF⟩
end Jvm.Pilot.@@N@@
namespace Jvm.Pilot.@@N@@
open Jvm Jvm.ClassFile Sem Op Lib Jvm.Free Jvm.Stand Jvm.Pilot.@@N@@.Jvm.D
/-! MADE BY PROGRAM (witnessworld.py) out of the Statement's table words and the real class files: 19 classes; the members and pool entries that the words name. The judged class is class 1, her method 6. -/
namespace start1
open Jvm.ClassFile
def u (s : String) : CpInfo := .utf8 (stringToUtf16 s)
/-- a pool by its gaps: so many unusable entries, then the entry; so many at the end -/
def gap : Nat → List CpInfo → List CpInfo
  | 0, r => r
  | n + 1, r => .unusable :: gap n r
def poolList (es : List (Nat × CpInfo)) (last : Nat) : List CpInfo := es.foldr (fun e r => gap e.1 (e.2 :: r)) (gap last [])
def pool (es : List (Nat × CpInfo)) (last : Nat) : Array CpInfo := ⟨poolList es last⟩
def fileOf (pool : Array CpInfo) (this : Nat) (attrs : Array Attribute := #[]) (ms : Array MethodInfo := #[]) (fl : Nat := 33) (sup : Nat := 0) (ifs : Array Nat := #[]) (fds : Array FieldInfo := #[]) : ClassFile where
  minorVersion := 0
  majorVersion := 65
  constantPool := pool
  accessFlags := fl
  thisClass := this
  superClass := sup
  interfaces := ifs
  fields := fds
  methods := ms
  attributes := attrs
def plain (name : String) (sup : Option ClassId) : Class where
  name := name
  kind := .ordinary
  loader := none
  accessFlags := 33
  super := sup
  interfaces := #[]
  cf := none
  fields := #[]
  methods := #[]
  instanceTypes := #[]
  staticTypes := #[]
  resolved := #[]
  callSites := []
  init := .initialized
  statics := none
  mirror := none

def pool0 : Array CpInfo := pool [(5, u "<init>"), (0, u "()V"), (1, .class_ 10), (1, u "java/lang/Object")] 113

def k0c0 : Code := { maxStack := 0, maxLocals := 1, code := object_method_1_code, exceptionTable := #[], attributes := #[] }
def k0m0 : Method := { name := "<init>", desc := "()V", sig := { parameters := [], returnType := none }, accessFlags := 1, code := some k0c0 }
/-- java/lang/Object -/
def k0 : Class := { plain "java/lang/Object" none with
  accessFlags := 33
  interfaces := #[]
  cf := some (fileOf pool0 8 #[] #[{ accessFlags := 1, nameIndex := 5, descriptorIndex := 6, attributes := #[] }] 33 0 #[] #[])
  fields := #[]
  methods := #[k0m0]
  instanceTypes := #[]
  staticTypes := #[]
  resolved := Array.replicate 124 none
  statics := none }

def pool1 : Array CpInfo := pool [(2, .class_ 4), (1, u "java/lang/Object"), (0, u "<init>"), (0, u "()V"), (0, .methodref 8 9), (0, .class_ 10), (0, .nameAndType 11 12), (0, u "com/example/redbark/redbark/KeyArraysCopyPinLaw"), (0, u "inRange"), (0, u "(III)Z"), (0, .methodref 8 14), (0, .nameAndType 15 16), (0, u "atI"), (0, u "(IIIII)I"), (0, .methodref 8 18), (0, .nameAndType 19 20), (0, u "atO"), (0, u "(ILjava/lang/Object;Ljava/lang/Object;Ljava/lang/Object;Ljava/lang/Object;)Ljava/lang/Object;"), (0, .methodref 22 23), (0, .class_ 24), (0, .nameAndType 25 26), (0, u "java/lang/Math"), (0, u "min"), (0, u "(II)I"), (0, .methodref 28 29), (0, .class_ 30), (0, .nameAndType 31 32), (0, u "com/example/redbark/redbark/KeyArrays"), (0, u "copy"), (0, u "(Ljava/lang/Object;ILjava/lang/Object;II)V"), (0, .methodref 8 34), (0, .nameAndType 35 36), (0, u "expI"), (0, u "(IIIIIIIIIIII)I"), (0, .methodref 38 39), (0, .class_ 40), (0, .nameAndType 41 42), (0, u "java/lang/Integer"), (0, u "valueOf"), (0, u "(I)Ljava/lang/Integer;"), (0, .methodref 8 44), (0, .nameAndType 45 46), (0, u "expO"), (0, u "(IIIILjava/lang/Object;Ljava/lang/Object;Ljava/lang/Object;Ljava/lang/Object;Ljava/lang/Object;Ljava/lang/Object;Ljava/lang/Object;Ljava/lang/Object;)Ljava/lang/Object;"), (3, u "law"), (0, u "(IIIIII)Z")] 6

def k1m0 : Method := { name := "<init>", desc := "()V", sig := { parameters := [], returnType := none }, accessFlags := 2, code := none }
def k1c1 : Code := { maxStack := 2, maxLocals := 5, code := method_2_code, exceptionTable := #[], attributes := #[] }
def k1m1 : Method := { name := "atI", desc := "(IIIII)I", sig := { parameters := [.int, .int, .int, .int, .int], returnType := some .int }, accessFlags := 10, code := some k1c1 }
def k1c2 : Code := { maxStack := 2, maxLocals := 5, code := method_3_code, exceptionTable := #[], attributes := #[] }
def k1m2 : Method := { name := "atO", desc := "(ILjava/lang/Object;Ljava/lang/Object;Ljava/lang/Object;Ljava/lang/Object;)Ljava/lang/Object;", sig := { parameters := [.int, (.object "java/lang/Object"), (.object "java/lang/Object"), (.object "java/lang/Object"), (.object "java/lang/Object")], returnType := some (.object "java/lang/Object") }, accessFlags := 10, code := some k1c2 }
def k1c3 : Code := { maxStack := 3, maxLocals := 3, code := method_4_code, exceptionTable := #[], attributes := #[] }
def k1m3 : Method := { name := "inRange", desc := "(III)Z", sig := { parameters := [.int, .int, .int], returnType := some .boolean }, accessFlags := 10, code := some k1c3 }
def k1c4 : Code := { maxStack := 5, maxLocals := 12, code := method_5_code, exceptionTable := #[], attributes := #[] }
def k1m4 : Method := { name := "expI", desc := "(IIIIIIIIIIII)I", sig := { parameters := [.int, .int, .int, .int, .int, .int, .int, .int, .int, .int, .int, .int], returnType := some .int }, accessFlags := 10, code := some k1c4 }
def k1c5 : Code := { maxStack := 5, maxLocals := 12, code := method_6_code, exceptionTable := #[], attributes := #[] }
def k1m5 : Method := { name := "expO", desc := "(IIIILjava/lang/Object;Ljava/lang/Object;Ljava/lang/Object;Ljava/lang/Object;Ljava/lang/Object;Ljava/lang/Object;Ljava/lang/Object;Ljava/lang/Object;)Ljava/lang/Object;", sig := { parameters := [.int, .int, .int, .int, (.object "java/lang/Object"), (.object "java/lang/Object"), (.object "java/lang/Object"), (.object "java/lang/Object"), (.object "java/lang/Object"), (.object "java/lang/Object"), (.object "java/lang/Object"), (.object "java/lang/Object")], returnType := some (.object "java/lang/Object") }, accessFlags := 10, code := some k1c5 }
def k1c6 : Code := { maxStack := 13, maxLocals := 30, code := code, exceptionTable := #[], attributes := #[] }
def k1m6 : Method := { name := "law", desc := "(IIIIII)Z", sig := { parameters := [.int, .int, .int, .int, .int, .int], returnType := some .boolean }, accessFlags := 9, code := some k1c6 }
/-- com/example/redbark/redbark/KeyArraysCopyPinLaw -/
def k1 : Class := { plain "com/example/redbark/redbark/KeyArraysCopyPinLaw" (some 0) with
  accessFlags := 49
  interfaces := #[]
  cf := some (fileOf pool1 8 #[] #[{ accessFlags := 2, nameIndex := 5, descriptorIndex := 6, attributes := #[] }, { accessFlags := 10, nameIndex := 15, descriptorIndex := 16, attributes := #[] }, { accessFlags := 10, nameIndex := 19, descriptorIndex := 20, attributes := #[] }, { accessFlags := 10, nameIndex := 11, descriptorIndex := 12, attributes := #[] }, { accessFlags := 10, nameIndex := 35, descriptorIndex := 36, attributes := #[] }, { accessFlags := 10, nameIndex := 45, descriptorIndex := 46, attributes := #[] }, { accessFlags := 9, nameIndex := 50, descriptorIndex := 51, attributes := #[] }] 49 2 #[] #[])
  fields := #[]
  methods := #[k1m0, k1m1, k1m2, k1m3, k1m4, k1m5, k1m6]
  instanceTypes := #[]
  staticTypes := #[]
  resolved := Array.replicate 58 none
  statics := none }

def pool2 : Array CpInfo := pool [(1, .class_ 2), (0, u "java/lang/Math"), (1, .class_ 6), (1, u "java/lang/Object"), (0, u "<init>"), (0, u "()V"), (89, .class_ 100), (1, u "java/lang/Math$RandomNumberGeneratorHolder"), (71, u "negativeZeroFloatBits"), (0, u "J"), (2, u "negativeZeroDoubleBits"), (24, u "min"), (43, u "$assertionsDisabled"), (0, u "Z"), (88, u "(II)I"), (2, u "twoToTheDoubleScaleDown"), (0, u "D"), (4, u "twoToTheDoubleScaleUp"), (9, u "E"), (3, u "PI"), (2, u "TAU"), (2, u "DEGREES_TO_RADIANS"), (0, u "RADIANS_TO_DEGREES")] 94

def k2m0 : Method := { name := "<init>", desc := "()V", sig := { parameters := [], returnType := none }, accessFlags := 2, code := none }
def k2c1 : Code := { maxStack := 2, maxLocals := 2, code := jdk_29_method_69_code, exceptionTable := #[], attributes := #[] }
def k2m1 : Method := { name := "min", desc := "(II)I", sig := { parameters := [.int, .int], returnType := some .int }, accessFlags := 9, code := some k2c1 }
/-- java/lang/Math -/
def k2 : Class := { plain "java/lang/Math" (some 0) with
  accessFlags := 49
  interfaces := #[]
  cf := some (fileOf pool2 1 #[.nestMembers #[98]] #[{ accessFlags := 2, nameIndex := 7, descriptorIndex := 8, attributes := #[] }, { accessFlags := 9, nameIndex := 201, descriptorIndex := 335, attributes := #[] }] 49 4 #[] #[{ accessFlags := 25, nameIndex := 354, descriptorIndex := 339, attributes := #[] }, { accessFlags := 25, nameIndex := 358, descriptorIndex := 339, attributes := #[] }, { accessFlags := 25, nameIndex := 361, descriptorIndex := 339, attributes := #[] }, { accessFlags := 26, nameIndex := 364, descriptorIndex := 339, attributes := #[] }, { accessFlags := 26, nameIndex := 365, descriptorIndex := 339, attributes := #[] }, { accessFlags := 26, nameIndex := 172, descriptorIndex := 173, attributes := #[] }, { accessFlags := 26, nameIndex := 176, descriptorIndex := 173, attributes := #[] }, { accessFlags := 8, nameIndex := 344, descriptorIndex := 339, attributes := #[] }, { accessFlags := 8, nameIndex := 338, descriptorIndex := 339, attributes := #[] }, { accessFlags := 4120, nameIndex := 245, descriptorIndex := 246, attributes := #[] }])
  fields := #[{ name := "E", type := .double, accessFlags := 25, slot := 0, constantValue := 0 }, { name := "PI", type := .double, accessFlags := 25, slot := 1, constantValue := 0 }, { name := "TAU", type := .double, accessFlags := 25, slot := 2, constantValue := 0 }, { name := "DEGREES_TO_RADIANS", type := .double, accessFlags := 26, slot := 3, constantValue := 0 }, { name := "RADIANS_TO_DEGREES", type := .double, accessFlags := 26, slot := 4, constantValue := 0 }, { name := "negativeZeroFloatBits", type := .long, accessFlags := 26, slot := 5, constantValue := 0 }, { name := "negativeZeroDoubleBits", type := .long, accessFlags := 26, slot := 6, constantValue := 0 }, { name := "twoToTheDoubleScaleUp", type := .double, accessFlags := 8, slot := 7, constantValue := 0 }, { name := "twoToTheDoubleScaleDown", type := .double, accessFlags := 8, slot := 8, constantValue := 0 }, { name := "$assertionsDisabled", type := .boolean, accessFlags := 4120, slot := 9, constantValue := 0 }]
  methods := #[k2m0, k2m1]
  instanceTypes := #[]
  staticTypes := #[.double, .double, .double, .double, .double, .long, .long, .double, .double, .boolean]
  resolved := Array.replicate 460 none
  statics := none }

def pool3 : Array CpInfo := pool [(2, .class_ 4), (1, u "java/lang/Object"), (0, u "<init>"), (0, u "()V"), (2, .class_ 10), (0, u "[I"), (0, .class_ 12), (0, u "[Ljava/lang/Object;"), (17, .methodref 31 32), (0, .class_ 33), (0, .nameAndType 34 35), (0, u "java/lang/System"), (0, u "arraycopy"), (0, u "(Ljava/lang/Object;ILjava/lang/Object;II)V"), (4, .class_ 41), (0, u "com/example/redbark/redbark/KeyArrays"), (17, u "copy")] 4

def k3m0 : Method := { name := "<init>", desc := "()V", sig := { parameters := [], returnType := none }, accessFlags := 2, code := none }
def k3c1 : Code := { maxStack := 5, maxLocals := 6, code := prog_10_method_9_code, exceptionTable := #[], attributes := #[] }
def k3m1 : Method := { name := "copy", desc := "(Ljava/lang/Object;ILjava/lang/Object;II)V", sig := { parameters := [(.object "java/lang/Object"), .int, (.object "java/lang/Object"), .int, .int], returnType := none }, accessFlags := 8, code := some k3c1 }
/-- com/example/redbark/redbark/KeyArrays -/
def k3 : Class := { plain "com/example/redbark/redbark/KeyArrays" (some 0) with
  accessFlags := 48
  interfaces := #[]
  cf := some (fileOf pool3 40 #[] #[{ accessFlags := 2, nameIndex := 5, descriptorIndex := 6, attributes := #[] }, { accessFlags := 8, nameIndex := 59, descriptorIndex := 35, attributes := #[] }] 48 2 #[] #[])
  fields := #[]
  methods := #[k3m0, k3m1]
  instanceTypes := #[]
  staticTypes := #[]
  resolved := Array.replicate 64 none
  statics := none }

def pool4 : Array CpInfo := pool [(2, .class_ 4), (1, u "java/lang/Object"), (0, u "<init>"), (0, u "()V"), (1, .class_ 10), (1, u "java/lang/System"), (0, u "allowSecurityManager"), (0, u "I"), (16, u "cons"), (0, u "Ljava/io/Console;"), (77, .class_ 110), (1, u "java/lang/System$CallersHolder"), (43, u "initialErrStream"), (0, u "Ljava/io/PrintStream;"), (19, u "security"), (0, u "Ljava/lang/SecurityManager;"), (31, .class_ 209), (0, u "java/lang/System$1"), (7, u "props"), (0, u "Ljava/util/Properties;"), (2, u "lineSeparator"), (0, u "Ljava/lang/String;"), (96, .class_ 321), (1, u "java/lang/System$LoggerFinder"), (5, .class_ 328), (0, u "java/lang/System$Logger"), (67, u "err"), (2, u "out"), (91, u "notSupportedJnuEncoding"), (15, u "in"), (17, u "initialIn"), (0, u "Ljava/io/InputStream;"), (35, u "bootLayer"), (0, u "Ljava/lang/ModuleLayer;"), (99, .class_ 664), (0, u "java/lang/System$2"), (9, u "NEVER"), (2, u "MAYBE"), (49, u "arraycopy"), (0, u "(Ljava/lang/Object;ILjava/lang/Object;II)V"), (72, .class_ 802), (0, u "java/lang/System$Logger$Level")] 31

def k4m0 : Method := { name := "<init>", desc := "()V", sig := { parameters := [], returnType := none }, accessFlags := 2, code := none }
def k4m1 : Method := { name := "arraycopy", desc := "(Ljava/lang/Object;ILjava/lang/Object;II)V", sig := { parameters := [(.object "java/lang/Object"), .int, (.object "java/lang/Object"), .int, .int], returnType := none }, accessFlags := 265, code := none }
/-- java/lang/System -/
def k4 : Class := { plain "java/lang/System" (some 0) with
  accessFlags := 49
  interfaces := #[]
  cf := some (fileOf pool4 8 #[.nestMembers #[319, 327, 801, 108, 663, 208]] #[{ accessFlags := 2, nameIndex := 5, descriptorIndex := 6, attributes := #[] }, { accessFlags := 265, nameIndex := 727, descriptorIndex := 728, attributes := #[] }] 49 2 #[] #[{ accessFlags := 25, nameIndex := 507, descriptorIndex := 526, attributes := #[] }, { accessFlags := 25, nameIndex := 399, descriptorIndex := 155, attributes := #[] }, { accessFlags := 25, nameIndex := 396, descriptorIndex := 155, attributes := #[] }, { accessFlags := 10, nameIndex := 525, descriptorIndex := 526, attributes := #[] }, { accessFlags := 26, nameIndex := 674, descriptorIndex := 12, attributes := #[] }, { accessFlags := 26, nameIndex := 677, descriptorIndex := 12, attributes := #[] }, { accessFlags := 10, nameIndex := 11, descriptorIndex := 12, attributes := #[] }, { accessFlags := 74, nameIndex := 175, descriptorIndex := 176, attributes := #[] }, { accessFlags := 10, nameIndex := 491, descriptorIndex := 222, attributes := #[] }, { accessFlags := 74, nameIndex := 29, descriptorIndex := 30, attributes := #[] }, { accessFlags := 74, nameIndex := 154, descriptorIndex := 155, attributes := #[] }, { accessFlags := 10, nameIndex := 217, descriptorIndex := 218, attributes := #[] }, { accessFlags := 10, nameIndex := 221, descriptorIndex := 222, attributes := #[] }, { accessFlags := 8, nameIndex := 562, descriptorIndex := 563, attributes := #[] }])
  fields := #[{ name := "in", type := (.object "java/io/InputStream"), accessFlags := 25, slot := 0, constantValue := 0 }, { name := "out", type := (.object "java/io/PrintStream"), accessFlags := 25, slot := 1, constantValue := 0 }, { name := "err", type := (.object "java/io/PrintStream"), accessFlags := 25, slot := 2, constantValue := 0 }, { name := "initialIn", type := (.object "java/io/InputStream"), accessFlags := 10, slot := 3, constantValue := 0 }, { name := "NEVER", type := .int, accessFlags := 26, slot := 4, constantValue := 0 }, { name := "MAYBE", type := .int, accessFlags := 26, slot := 5, constantValue := 0 }, { name := "allowSecurityManager", type := .int, accessFlags := 10, slot := 6, constantValue := 0 }, { name := "security", type := (.object "java/lang/SecurityManager"), accessFlags := 74, slot := 7, constantValue := 0 }, { name := "notSupportedJnuEncoding", type := (.object "java/lang/String"), accessFlags := 10, slot := 8, constantValue := 0 }, { name := "cons", type := (.object "java/io/Console"), accessFlags := 74, slot := 9, constantValue := 0 }, { name := "initialErrStream", type := (.object "java/io/PrintStream"), accessFlags := 74, slot := 10, constantValue := 0 }, { name := "props", type := (.object "java/util/Properties"), accessFlags := 10, slot := 11, constantValue := 0 }, { name := "lineSeparator", type := (.object "java/lang/String"), accessFlags := 10, slot := 12, constantValue := 0 }, { name := "bootLayer", type := (.object "java/lang/ModuleLayer"), accessFlags := 8, slot := 13, constantValue := 0 }]
  methods := #[k4m0, k4m1]
  instanceTypes := #[]
  staticTypes := #[(.object "java/io/InputStream"), (.object "java/io/PrintStream"), (.object "java/io/PrintStream"), (.object "java/io/InputStream"), .int, .int, .int, (.object "java/lang/SecurityManager"), (.object "java/lang/String"), (.object "java/io/Console"), (.object "java/io/PrintStream"), (.object "java/util/Properties"), (.object "java/lang/String"), (.object "java/lang/ModuleLayer")]
  resolved := Array.replicate 834 none
  statics := none }

def pool5 : Array CpInfo := pool [(1, .class_ 2), (0, u "java/io/Serializable"), (0, .class_ 4), (0, u "java/lang/Object")] 2

/-- java/io/Serializable -/
def k5 : Class := { plain "java/io/Serializable" (some 0) with
  accessFlags := 1537
  interfaces := #[]
  cf := some (fileOf pool5 1 #[] #[] 1537 3 #[] #[])
  fields := #[]
  methods := #[]
  instanceTypes := #[]
  staticTypes := #[]
  resolved := Array.replicate 7 none
  statics := none }

def pool6 : Array CpInfo := pool [(1, .methodref 2 3), (0, .class_ 4), (0, .nameAndType 5 6), (0, u "java/lang/Object"), (0, u "<init>"), (0, u "()V"), (1, .class_ 10), (1, u "java/lang/Number"), (2, .class_ 14), (0, u "java/io/Serializable"), (0, u "serialVersionUID"), (0, u "J")] 20

def k6c0 : Code := { maxStack := 1, maxLocals := 1, code := jdk_18_method_1_code, exceptionTable := #[], attributes := #[] }
def k6m0 : Method := { name := "<init>", desc := "()V", sig := { parameters := [], returnType := none }, accessFlags := 1, code := some k6c0 }
/-- java/lang/Number -/
def k6 : Class := { plain "java/lang/Number" (some 0) with
  accessFlags := 1057
  interfaces := #[5]
  cf := some (fileOf pool6 8 #[] #[{ accessFlags := 1, nameIndex := 5, descriptorIndex := 6, attributes := #[] }] 1057 2 #[13] #[{ accessFlags := 26, nameIndex := 15, descriptorIndex := 16, attributes := #[] }])
  fields := #[{ name := "serialVersionUID", type := .long, accessFlags := 26, slot := 0, constantValue := 0 }]
  methods := #[k6m0]
  instanceTypes := #[]
  staticTypes := #[.long]
  resolved := Array.replicate 37 none
  statics := none }

def pool7 : Array CpInfo := pool [(1, .class_ 2), (0, u "java/lang/Comparable"), (0, .class_ 4), (0, u "java/lang/Object")] 7

/-- java/lang/Comparable -/
def k7 : Class := { plain "java/lang/Comparable" (some 0) with
  accessFlags := 1537
  interfaces := #[]
  cf := some (fileOf pool7 1 #[] #[] 1537 3 #[] #[])
  fields := #[]
  methods := #[]
  instanceTypes := #[]
  staticTypes := #[]
  resolved := Array.replicate 12 none
  statics := none }

def pool8 : Array CpInfo := pool [(1, .class_ 2), (0, u "java/lang/constant/Constable"), (0, .class_ 4), (0, u "java/lang/Object")] 6

/-- java/lang/constant/Constable -/
def k8 : Class := { plain "java/lang/constant/Constable" (some 0) with
  accessFlags := 1537
  interfaces := #[]
  cf := some (fileOf pool8 1 #[] #[] 1537 3 #[] #[])
  fields := #[]
  methods := #[]
  instanceTypes := #[]
  staticTypes := #[]
  resolved := Array.replicate 11 none
  statics := none }

def pool9 : Array CpInfo := pool [(1, .class_ 2), (0, u "java/lang/constant/ConstantDesc"), (0, .class_ 4), (0, u "java/lang/Object")] 32

/-- java/lang/constant/ConstantDesc -/
def k9 : Class := { plain "java/lang/constant/ConstantDesc" (some 0) with
  accessFlags := 1537
  interfaces := #[]
  cf := some (fileOf pool9 1 #[] #[] 1537 3 #[] #[])
  fields := #[]
  methods := #[]
  instanceTypes := #[]
  staticTypes := #[]
  resolved := Array.replicate 37 none
  statics := none }

def pool10 : Array CpInfo := pool [(1, .class_ 2), (0, u "java/lang/Integer"), (16, u "digits"), (0, u "[C"), (46, u "<init>"), (17, u "DigitOnes"), (0, u "[B"), (2, u "DigitTens"), (10, .nameAndType 67 101), (0, u "()V"), (85, u "valueOf"), (0, u "(I)Ljava/lang/Integer;"), (0, .class_ 190), (0, u "java/lang/Integer$IntegerCache"), (0, .fieldref 189 192), (0, .nameAndType 193 194), (0, u "high"), (0, u "I"), (0, .fieldref 189 196), (0, .nameAndType 197 198), (0, u "cache"), (0, u "[Ljava/lang/Integer;"), (0, .methodref 1 200), (0, .nameAndType 67 201), (0, u "(I)V"), (0, .methodref 203 100), (0, .class_ 204), (0, u "java/lang/Number"), (0, .fieldref 1 206), (0, .nameAndType 207 194), (0, u "value"), (94, u "TYPE"), (0, u "Ljava/lang/Class;"), (0, .class_ 305), (0, u "java/lang/Comparable"), (0, .class_ 307), (0, u "java/lang/constant/Constable"), (0, .class_ 309), (0, u "java/lang/constant/ConstantDesc"), (0, u "MIN_VALUE"), (1, u "MAX_VALUE"), (3, u "SIZE"), (1, u "BYTES"), (1, u "serialVersionUID"), (0, u "J")] 131

def k10c0 : Code := { maxStack := 3, maxLocals := 1, code := jdk_33_method_22_code, exceptionTable := #[], attributes := #[] }
def k10m0 : Method := { name := "valueOf", desc := "(I)Ljava/lang/Integer;", sig := { parameters := [.int], returnType := some (.object "java/lang/Integer") }, accessFlags := 9, code := some k10c0 }
def k10c1 : Code := { maxStack := 2, maxLocals := 2, code := jdk_33_method_23_code, exceptionTable := #[], attributes := #[] }
def k10m1 : Method := { name := "<init>", desc := "(I)V", sig := { parameters := [.int], returnType := none }, accessFlags := 1, code := some k10c1 }
/-- java/lang/Integer -/
def k10 : Class := { plain "java/lang/Integer" (some 6) with
  accessFlags := 49
  interfaces := #[7, 8, 9]
  cf := some (fileOf pool10 1 #[.nestMembers #[189]] #[{ accessFlags := 9, nameIndex := 187, descriptorIndex := 188, attributes := #[] }, { accessFlags := 1, nameIndex := 67, descriptorIndex := 201, attributes := #[] }] 49 203 #[304, 306, 308] #[{ accessFlags := 25, nameIndex := 310, descriptorIndex := 194, attributes := #[] }, { accessFlags := 25, nameIndex := 312, descriptorIndex := 194, attributes := #[] }, { accessFlags := 25, nameIndex := 302, descriptorIndex := 303, attributes := #[] }, { accessFlags := 24, nameIndex := 19, descriptorIndex := 20, attributes := #[] }, { accessFlags := 24, nameIndex := 89, descriptorIndex := 86, attributes := #[] }, { accessFlags := 24, nameIndex := 85, descriptorIndex := 86, attributes := #[] }, { accessFlags := 18, nameIndex := 207, descriptorIndex := 194, attributes := #[] }, { accessFlags := 25, nameIndex := 316, descriptorIndex := 194, attributes := #[] }, { accessFlags := 25, nameIndex := 318, descriptorIndex := 194, attributes := #[] }, { accessFlags := 26, nameIndex := 320, descriptorIndex := 321, attributes := #[] }])
  fields := #[{ name := "MIN_VALUE", type := .int, accessFlags := 25, slot := 0, constantValue := 0 }, { name := "MAX_VALUE", type := .int, accessFlags := 25, slot := 1, constantValue := 0 }, { name := "TYPE", type := (.object "java/lang/Class"), accessFlags := 25, slot := 2, constantValue := 0 }, { name := "digits", type := (.array .char), accessFlags := 24, slot := 3, constantValue := 0 }, { name := "DigitTens", type := (.array .byte), accessFlags := 24, slot := 4, constantValue := 0 }, { name := "DigitOnes", type := (.array .byte), accessFlags := 24, slot := 5, constantValue := 0 }, { name := "value", type := .int, accessFlags := 18, slot := 0, constantValue := 0 }, { name := "SIZE", type := .int, accessFlags := 25, slot := 6, constantValue := 0 }, { name := "BYTES", type := .int, accessFlags := 25, slot := 7, constantValue := 0 }, { name := "serialVersionUID", type := .long, accessFlags := 26, slot := 8, constantValue := 0 }]
  methods := #[k10m0, k10m1]
  instanceTypes := #[.int]
  staticTypes := #[.int, .int, (.object "java/lang/Class"), (.array .char), (.array .byte), (.array .byte), .int, .int, .long]
  resolved := Array.replicate 453 none
  statics := none }

def pool11 : Array CpInfo := pool [(2, .class_ 4), (1, u "java/lang/Object"), (0, u "<init>"), (0, u "()V"), (0, .class_ 8), (0, u "java/lang/Integer"), (7, .class_ 18), (1, u "java/lang/Integer$IntegerCache"), (0, u "$assertionsDisabled"), (0, u "Z"), (26, u "high"), (0, u "I"), (8, u "archivedCache"), (0, u "[Ljava/lang/Integer;"), (12, u "cache"), (0, u "low")] 27

def k11m0 : Method := { name := "<init>", desc := "()V", sig := { parameters := [], returnType := none }, accessFlags := 2, code := none }
/-- java/lang/Integer$IntegerCache -/
def k11 : Class := { plain "java/lang/Integer$IntegerCache" (some 0) with
  accessFlags := 48
  interfaces := #[]
  cf := some (fileOf pool11 16 #[.nestHost 7] #[{ accessFlags := 2, nameIndex := 5, descriptorIndex := 6, attributes := #[] }] 48 2 #[] #[{ accessFlags := 24, nameIndex := 72, descriptorIndex := 48, attributes := #[] }, { accessFlags := 24, nameIndex := 47, descriptorIndex := 48, attributes := #[] }, { accessFlags := 24, nameIndex := 71, descriptorIndex := 58, attributes := #[] }, { accessFlags := 8, nameIndex := 57, descriptorIndex := 58, attributes := #[] }, { accessFlags := 4120, nameIndex := 19, descriptorIndex := 20, attributes := #[] }])
  fields := #[{ name := "low", type := .int, accessFlags := 24, slot := 0, constantValue := 0 }, { name := "high", type := .int, accessFlags := 24, slot := 1, constantValue := 0 }, { name := "cache", type := (.array (.object "java/lang/Integer")), accessFlags := 24, slot := 2, constantValue := 0 }, { name := "archivedCache", type := (.array (.object "java/lang/Integer")), accessFlags := 8, slot := 3, constantValue := 0 }, { name := "$assertionsDisabled", type := .boolean, accessFlags := 4120, slot := 4, constantValue := 0 }]
  methods := #[k11m0]
  instanceTypes := #[]
  staticTypes := #[.int, .int, (.array (.object "java/lang/Integer")), (.array (.object "java/lang/Integer")), .boolean]
  resolved := Array.replicate 100 none
  statics := some 0 }

def pool12 : Array CpInfo := pool [(1, u "java/lang/Cloneable"), (0, .class_ 1), (0, u "java/lang/Object"), (0, .class_ 3)] 3

/-- java/lang/Cloneable -/
def k12 : Class := { plain "java/lang/Cloneable" (some 0) with
  accessFlags := 1537
  interfaces := #[]
  cf := some (fileOf pool12 2 #[] #[] 1537 4 #[] #[])
  fields := #[]
  methods := #[]
  instanceTypes := #[]
  staticTypes := #[]
  resolved := Array.replicate 8 none
  statics := none }

/-- the primitive byte -/
def k13 : Class := { plain "byte" none with kind := .primitive 'B', accessFlags := 0x411 }
/-- [B -/
def k14 : Class := { plain "[B" (some 0) with kind := .array 13 .byte, interfaces := #[12, 5], accessFlags := 1041 }

/-- the primitive int -/
def k15 : Class := { plain "int" none with kind := .primitive 'I', accessFlags := 0x411 }
/-- [I -/
def k16 : Class := { plain "[I" (some 0) with kind := .array 15 .int, interfaces := #[12, 5], accessFlags := 1041 }

/-- [Ljava/lang/Integer; -/
def k17 : Class := { plain "[Ljava/lang/Integer;" (some 0) with kind := .array 10 (.object "java/lang/Integer"), interfaces := #[12, 5], accessFlags := 1041 }

/-- [Ljava/lang/Object; -/
def k18 : Class := { plain "[Ljava/lang/Object;" (some 0) with kind := .array 0 (.object "java/lang/Object"), interfaces := #[12, 5], accessFlags := 1041 }

def heap : Heap := #[{ cls := 11, slots := #[.int 0, .int 127, .ref 1, .null, .int 0], vm := .statics 11 },
  { cls := 17, slots := #[.ref 2, .ref 3, .ref 4, .ref 5, .ref 6, .ref 7, .ref 8, .ref 9, .ref 10, .ref 11, .ref 12, .ref 13, .ref 14, .ref 15, .ref 16, .ref 17, .ref 18, .ref 19, .ref 20, .ref 21, .ref 22, .ref 23, .ref 24, .ref 25, .ref 26, .ref 27, .ref 28, .ref 29, .ref 30, .ref 31, .ref 32, .ref 33, .ref 34, .ref 35, .ref 36, .ref 37, .ref 38, .ref 39, .ref 40, .ref 41, .ref 42, .ref 43, .ref 44, .ref 45, .ref 46, .ref 47, .ref 48, .ref 49, .ref 50, .ref 51, .ref 52, .ref 53, .ref 54, .ref 55, .ref 56, .ref 57, .ref 58, .ref 59, .ref 60, .ref 61, .ref 62, .ref 63, .ref 64, .ref 65, .ref 66, .ref 67, .ref 68, .ref 69, .ref 70, .ref 71, .ref 72, .ref 73, .ref 74, .ref 75, .ref 76, .ref 77, .ref 78, .ref 79, .ref 80, .ref 81, .ref 82, .ref 83, .ref 84, .ref 85, .ref 86, .ref 87, .ref 88, .ref 89, .ref 90, .ref 91, .ref 92, .ref 93, .ref 94, .ref 95, .ref 96, .ref 97, .ref 98, .ref 99, .ref 100, .ref 101, .ref 102, .ref 103, .ref 104, .ref 105, .ref 106, .ref 107, .ref 108, .ref 109, .ref 110, .ref 111, .ref 112, .ref 113, .ref 114, .ref 115, .ref 116, .ref 117, .ref 118, .ref 119, .ref 120, .ref 121, .ref 122, .ref 123, .ref 124, .ref 125, .ref 126, .ref 127, .ref 128, .ref 129, .ref 130, .ref 131, .ref 132, .ref 133, .ref 134, .ref 135, .ref 136, .ref 137, .ref 138, .ref 139, .ref 140, .ref 141, .ref 142, .ref 143, .ref 144, .ref 145, .ref 146, .ref 147, .ref 148, .ref 149, .ref 150, .ref 151, .ref 152, .ref 153, .ref 154, .ref 155, .ref 156, .ref 157, .ref 158, .ref 159, .ref 160, .ref 161, .ref 162, .ref 163, .ref 164, .ref 165, .ref 166, .ref 167, .ref 168, .ref 169, .ref 170, .ref 171, .ref 172, .ref 173, .ref 174, .ref 175, .ref 176, .ref 177, .ref 178, .ref 179, .ref 180, .ref 181, .ref 182, .ref 183, .ref 184, .ref 185, .ref 186, .ref 187, .ref 188, .ref 189, .ref 190, .ref 191, .ref 192, .ref 193, .ref 194, .ref 195, .ref 196, .ref 197, .ref 198, .ref 199, .ref 200, .ref 201, .ref 202, .ref 203, .ref 204, .ref 205, .ref 206, .ref 207, .ref 208, .ref 209, .ref 210, .ref 211, .ref 212, .ref 213, .ref 214, .ref 215, .ref 216, .ref 217, .ref 218, .ref 219, .ref 220, .ref 221, .ref 222, .ref 223, .ref 224, .ref 225, .ref 226, .ref 227, .ref 228, .ref 229, .ref 230, .ref 231, .ref 232, .ref 233, .ref 234, .ref 235, .ref 236, .ref 237, .ref 238, .ref 239, .ref 240, .ref 241, .ref 242, .ref 243, .ref 244, .ref 245, .ref 246, .ref 247, .ref 248, .ref 249, .ref 250, .ref 251, .ref 252, .ref 253, .ref 254, .ref 255, .ref 256, .ref 257], vm := .none },
  { cls := 10, slots := #[.int (-128)], vm := .none },
  { cls := 10, slots := #[.int (-127)], vm := .none },
  { cls := 10, slots := #[.int (-126)], vm := .none },
  { cls := 10, slots := #[.int (-125)], vm := .none },
  { cls := 10, slots := #[.int (-124)], vm := .none },
  { cls := 10, slots := #[.int (-123)], vm := .none },
  { cls := 10, slots := #[.int (-122)], vm := .none },
  { cls := 10, slots := #[.int (-121)], vm := .none },
  { cls := 10, slots := #[.int (-120)], vm := .none },
  { cls := 10, slots := #[.int (-119)], vm := .none },
  { cls := 10, slots := #[.int (-118)], vm := .none },
  { cls := 10, slots := #[.int (-117)], vm := .none },
  { cls := 10, slots := #[.int (-116)], vm := .none },
  { cls := 10, slots := #[.int (-115)], vm := .none },
  { cls := 10, slots := #[.int (-114)], vm := .none },
  { cls := 10, slots := #[.int (-113)], vm := .none },
  { cls := 10, slots := #[.int (-112)], vm := .none },
  { cls := 10, slots := #[.int (-111)], vm := .none },
  { cls := 10, slots := #[.int (-110)], vm := .none },
  { cls := 10, slots := #[.int (-109)], vm := .none },
  { cls := 10, slots := #[.int (-108)], vm := .none },
  { cls := 10, slots := #[.int (-107)], vm := .none },
  { cls := 10, slots := #[.int (-106)], vm := .none },
  { cls := 10, slots := #[.int (-105)], vm := .none },
  { cls := 10, slots := #[.int (-104)], vm := .none },
  { cls := 10, slots := #[.int (-103)], vm := .none },
  { cls := 10, slots := #[.int (-102)], vm := .none },
  { cls := 10, slots := #[.int (-101)], vm := .none },
  { cls := 10, slots := #[.int (-100)], vm := .none },
  { cls := 10, slots := #[.int (-99)], vm := .none },
  { cls := 10, slots := #[.int (-98)], vm := .none },
  { cls := 10, slots := #[.int (-97)], vm := .none },
  { cls := 10, slots := #[.int (-96)], vm := .none },
  { cls := 10, slots := #[.int (-95)], vm := .none },
  { cls := 10, slots := #[.int (-94)], vm := .none },
  { cls := 10, slots := #[.int (-93)], vm := .none },
  { cls := 10, slots := #[.int (-92)], vm := .none },
  { cls := 10, slots := #[.int (-91)], vm := .none },
  { cls := 10, slots := #[.int (-90)], vm := .none },
  { cls := 10, slots := #[.int (-89)], vm := .none },
  { cls := 10, slots := #[.int (-88)], vm := .none },
  { cls := 10, slots := #[.int (-87)], vm := .none },
  { cls := 10, slots := #[.int (-86)], vm := .none },
  { cls := 10, slots := #[.int (-85)], vm := .none },
  { cls := 10, slots := #[.int (-84)], vm := .none },
  { cls := 10, slots := #[.int (-83)], vm := .none },
  { cls := 10, slots := #[.int (-82)], vm := .none },
  { cls := 10, slots := #[.int (-81)], vm := .none },
  { cls := 10, slots := #[.int (-80)], vm := .none },
  { cls := 10, slots := #[.int (-79)], vm := .none },
  { cls := 10, slots := #[.int (-78)], vm := .none },
  { cls := 10, slots := #[.int (-77)], vm := .none },
  { cls := 10, slots := #[.int (-76)], vm := .none },
  { cls := 10, slots := #[.int (-75)], vm := .none },
  { cls := 10, slots := #[.int (-74)], vm := .none },
  { cls := 10, slots := #[.int (-73)], vm := .none },
  { cls := 10, slots := #[.int (-72)], vm := .none },
  { cls := 10, slots := #[.int (-71)], vm := .none },
  { cls := 10, slots := #[.int (-70)], vm := .none },
  { cls := 10, slots := #[.int (-69)], vm := .none },
  { cls := 10, slots := #[.int (-68)], vm := .none },
  { cls := 10, slots := #[.int (-67)], vm := .none },
  { cls := 10, slots := #[.int (-66)], vm := .none },
  { cls := 10, slots := #[.int (-65)], vm := .none },
  { cls := 10, slots := #[.int (-64)], vm := .none },
  { cls := 10, slots := #[.int (-63)], vm := .none },
  { cls := 10, slots := #[.int (-62)], vm := .none },
  { cls := 10, slots := #[.int (-61)], vm := .none },
  { cls := 10, slots := #[.int (-60)], vm := .none },
  { cls := 10, slots := #[.int (-59)], vm := .none },
  { cls := 10, slots := #[.int (-58)], vm := .none },
  { cls := 10, slots := #[.int (-57)], vm := .none },
  { cls := 10, slots := #[.int (-56)], vm := .none },
  { cls := 10, slots := #[.int (-55)], vm := .none },
  { cls := 10, slots := #[.int (-54)], vm := .none },
  { cls := 10, slots := #[.int (-53)], vm := .none },
  { cls := 10, slots := #[.int (-52)], vm := .none },
  { cls := 10, slots := #[.int (-51)], vm := .none },
  { cls := 10, slots := #[.int (-50)], vm := .none },
  { cls := 10, slots := #[.int (-49)], vm := .none },
  { cls := 10, slots := #[.int (-48)], vm := .none },
  { cls := 10, slots := #[.int (-47)], vm := .none },
  { cls := 10, slots := #[.int (-46)], vm := .none },
  { cls := 10, slots := #[.int (-45)], vm := .none },
  { cls := 10, slots := #[.int (-44)], vm := .none },
  { cls := 10, slots := #[.int (-43)], vm := .none },
  { cls := 10, slots := #[.int (-42)], vm := .none },
  { cls := 10, slots := #[.int (-41)], vm := .none },
  { cls := 10, slots := #[.int (-40)], vm := .none },
  { cls := 10, slots := #[.int (-39)], vm := .none },
  { cls := 10, slots := #[.int (-38)], vm := .none },
  { cls := 10, slots := #[.int (-37)], vm := .none },
  { cls := 10, slots := #[.int (-36)], vm := .none },
  { cls := 10, slots := #[.int (-35)], vm := .none },
  { cls := 10, slots := #[.int (-34)], vm := .none },
  { cls := 10, slots := #[.int (-33)], vm := .none },
  { cls := 10, slots := #[.int (-32)], vm := .none },
  { cls := 10, slots := #[.int (-31)], vm := .none },
  { cls := 10, slots := #[.int (-30)], vm := .none },
  { cls := 10, slots := #[.int (-29)], vm := .none },
  { cls := 10, slots := #[.int (-28)], vm := .none },
  { cls := 10, slots := #[.int (-27)], vm := .none },
  { cls := 10, slots := #[.int (-26)], vm := .none },
  { cls := 10, slots := #[.int (-25)], vm := .none },
  { cls := 10, slots := #[.int (-24)], vm := .none },
  { cls := 10, slots := #[.int (-23)], vm := .none },
  { cls := 10, slots := #[.int (-22)], vm := .none },
  { cls := 10, slots := #[.int (-21)], vm := .none },
  { cls := 10, slots := #[.int (-20)], vm := .none },
  { cls := 10, slots := #[.int (-19)], vm := .none },
  { cls := 10, slots := #[.int (-18)], vm := .none },
  { cls := 10, slots := #[.int (-17)], vm := .none },
  { cls := 10, slots := #[.int (-16)], vm := .none },
  { cls := 10, slots := #[.int (-15)], vm := .none },
  { cls := 10, slots := #[.int (-14)], vm := .none },
  { cls := 10, slots := #[.int (-13)], vm := .none },
  { cls := 10, slots := #[.int (-12)], vm := .none },
  { cls := 10, slots := #[.int (-11)], vm := .none },
  { cls := 10, slots := #[.int (-10)], vm := .none },
  { cls := 10, slots := #[.int (-9)], vm := .none },
  { cls := 10, slots := #[.int (-8)], vm := .none },
  { cls := 10, slots := #[.int (-7)], vm := .none },
  { cls := 10, slots := #[.int (-6)], vm := .none },
  { cls := 10, slots := #[.int (-5)], vm := .none },
  { cls := 10, slots := #[.int (-4)], vm := .none },
  { cls := 10, slots := #[.int (-3)], vm := .none },
  { cls := 10, slots := #[.int (-2)], vm := .none },
  { cls := 10, slots := #[.int (-1)], vm := .none },
  { cls := 10, slots := #[.int 0], vm := .none },
  { cls := 10, slots := #[.int 1], vm := .none },
  { cls := 10, slots := #[.int 2], vm := .none },
  { cls := 10, slots := #[.int 3], vm := .none },
  { cls := 10, slots := #[.int 4], vm := .none },
  { cls := 10, slots := #[.int 5], vm := .none },
  { cls := 10, slots := #[.int 6], vm := .none },
  { cls := 10, slots := #[.int 7], vm := .none },
  { cls := 10, slots := #[.int 8], vm := .none },
  { cls := 10, slots := #[.int 9], vm := .none },
  { cls := 10, slots := #[.int 10], vm := .none },
  { cls := 10, slots := #[.int 11], vm := .none },
  { cls := 10, slots := #[.int 12], vm := .none },
  { cls := 10, slots := #[.int 13], vm := .none },
  { cls := 10, slots := #[.int 14], vm := .none },
  { cls := 10, slots := #[.int 15], vm := .none },
  { cls := 10, slots := #[.int 16], vm := .none },
  { cls := 10, slots := #[.int 17], vm := .none },
  { cls := 10, slots := #[.int 18], vm := .none },
  { cls := 10, slots := #[.int 19], vm := .none },
  { cls := 10, slots := #[.int 20], vm := .none },
  { cls := 10, slots := #[.int 21], vm := .none },
  { cls := 10, slots := #[.int 22], vm := .none },
  { cls := 10, slots := #[.int 23], vm := .none },
  { cls := 10, slots := #[.int 24], vm := .none },
  { cls := 10, slots := #[.int 25], vm := .none },
  { cls := 10, slots := #[.int 26], vm := .none },
  { cls := 10, slots := #[.int 27], vm := .none },
  { cls := 10, slots := #[.int 28], vm := .none },
  { cls := 10, slots := #[.int 29], vm := .none },
  { cls := 10, slots := #[.int 30], vm := .none },
  { cls := 10, slots := #[.int 31], vm := .none },
  { cls := 10, slots := #[.int 32], vm := .none },
  { cls := 10, slots := #[.int 33], vm := .none },
  { cls := 10, slots := #[.int 34], vm := .none },
  { cls := 10, slots := #[.int 35], vm := .none },
  { cls := 10, slots := #[.int 36], vm := .none },
  { cls := 10, slots := #[.int 37], vm := .none },
  { cls := 10, slots := #[.int 38], vm := .none },
  { cls := 10, slots := #[.int 39], vm := .none },
  { cls := 10, slots := #[.int 40], vm := .none },
  { cls := 10, slots := #[.int 41], vm := .none },
  { cls := 10, slots := #[.int 42], vm := .none },
  { cls := 10, slots := #[.int 43], vm := .none },
  { cls := 10, slots := #[.int 44], vm := .none },
  { cls := 10, slots := #[.int 45], vm := .none },
  { cls := 10, slots := #[.int 46], vm := .none },
  { cls := 10, slots := #[.int 47], vm := .none },
  { cls := 10, slots := #[.int 48], vm := .none },
  { cls := 10, slots := #[.int 49], vm := .none },
  { cls := 10, slots := #[.int 50], vm := .none },
  { cls := 10, slots := #[.int 51], vm := .none },
  { cls := 10, slots := #[.int 52], vm := .none },
  { cls := 10, slots := #[.int 53], vm := .none },
  { cls := 10, slots := #[.int 54], vm := .none },
  { cls := 10, slots := #[.int 55], vm := .none },
  { cls := 10, slots := #[.int 56], vm := .none },
  { cls := 10, slots := #[.int 57], vm := .none },
  { cls := 10, slots := #[.int 58], vm := .none },
  { cls := 10, slots := #[.int 59], vm := .none },
  { cls := 10, slots := #[.int 60], vm := .none },
  { cls := 10, slots := #[.int 61], vm := .none },
  { cls := 10, slots := #[.int 62], vm := .none },
  { cls := 10, slots := #[.int 63], vm := .none },
  { cls := 10, slots := #[.int 64], vm := .none },
  { cls := 10, slots := #[.int 65], vm := .none },
  { cls := 10, slots := #[.int 66], vm := .none },
  { cls := 10, slots := #[.int 67], vm := .none },
  { cls := 10, slots := #[.int 68], vm := .none },
  { cls := 10, slots := #[.int 69], vm := .none },
  { cls := 10, slots := #[.int 70], vm := .none },
  { cls := 10, slots := #[.int 71], vm := .none },
  { cls := 10, slots := #[.int 72], vm := .none },
  { cls := 10, slots := #[.int 73], vm := .none },
  { cls := 10, slots := #[.int 74], vm := .none },
  { cls := 10, slots := #[.int 75], vm := .none },
  { cls := 10, slots := #[.int 76], vm := .none },
  { cls := 10, slots := #[.int 77], vm := .none },
  { cls := 10, slots := #[.int 78], vm := .none },
  { cls := 10, slots := #[.int 79], vm := .none },
  { cls := 10, slots := #[.int 80], vm := .none },
  { cls := 10, slots := #[.int 81], vm := .none },
  { cls := 10, slots := #[.int 82], vm := .none },
  { cls := 10, slots := #[.int 83], vm := .none },
  { cls := 10, slots := #[.int 84], vm := .none },
  { cls := 10, slots := #[.int 85], vm := .none },
  { cls := 10, slots := #[.int 86], vm := .none },
  { cls := 10, slots := #[.int 87], vm := .none },
  { cls := 10, slots := #[.int 88], vm := .none },
  { cls := 10, slots := #[.int 89], vm := .none },
  { cls := 10, slots := #[.int 90], vm := .none },
  { cls := 10, slots := #[.int 91], vm := .none },
  { cls := 10, slots := #[.int 92], vm := .none },
  { cls := 10, slots := #[.int 93], vm := .none },
  { cls := 10, slots := #[.int 94], vm := .none },
  { cls := 10, slots := #[.int 95], vm := .none },
  { cls := 10, slots := #[.int 96], vm := .none },
  { cls := 10, slots := #[.int 97], vm := .none },
  { cls := 10, slots := #[.int 98], vm := .none },
  { cls := 10, slots := #[.int 99], vm := .none },
  { cls := 10, slots := #[.int 100], vm := .none },
  { cls := 10, slots := #[.int 101], vm := .none },
  { cls := 10, slots := #[.int 102], vm := .none },
  { cls := 10, slots := #[.int 103], vm := .none },
  { cls := 10, slots := #[.int 104], vm := .none },
  { cls := 10, slots := #[.int 105], vm := .none },
  { cls := 10, slots := #[.int 106], vm := .none },
  { cls := 10, slots := #[.int 107], vm := .none },
  { cls := 10, slots := #[.int 108], vm := .none },
  { cls := 10, slots := #[.int 109], vm := .none },
  { cls := 10, slots := #[.int 110], vm := .none },
  { cls := 10, slots := #[.int 111], vm := .none },
  { cls := 10, slots := #[.int 112], vm := .none },
  { cls := 10, slots := #[.int 113], vm := .none },
  { cls := 10, slots := #[.int 114], vm := .none },
  { cls := 10, slots := #[.int 115], vm := .none },
  { cls := 10, slots := #[.int 116], vm := .none },
  { cls := 10, slots := #[.int 117], vm := .none },
  { cls := 10, slots := #[.int 118], vm := .none },
  { cls := 10, slots := #[.int 119], vm := .none },
  { cls := 10, slots := #[.int 120], vm := .none },
  { cls := 10, slots := #[.int 121], vm := .none },
  { cls := 10, slots := #[.int 122], vm := .none },
  { cls := 10, slots := #[.int 123], vm := .none },
  { cls := 10, slots := #[.int 124], vm := .none },
  { cls := 10, slots := #[.int 125], vm := .none },
  { cls := 10, slots := #[.int 126], vm := .none },
  { cls := 10, slots := #[.int 127], vm := .none }]
def classes : Array Class := #[k0, k1, k2, k3, k4, k5, k6, k7, k8, k9, k10, k11, k12, k13, k14, k15, k16, k17, k18]
def interned : List (Array UInt16 × Addr) := []
def slotsUsed : Nat := 517
def theMethod : MethodId := ⟨1, 6⟩
def args0 : Array Value := #[.int 5, .int 6, .int 7, .int 8, .int 9, .int 1]
def aboutOver (below : List Frame) : State where
  vm := { classes := classes, interned := interned.toArray }
  heap := heap
  slotsUsed := slotsUsed
  threads := #[{ frames := .invoking theMethod args0 :: below }]
def below0 : List Frame := [.native { method := ⟨0, 0⟩, args := #[] }]
def about1 : State := aboutOver below0
def p0 : Program := .bare "" "" ""
def e0 : Env := launch0.env 0 0 0
theorem w_frames : about1.frames = Frame.invoking theMethod args0 :: below0 := rfl
set_option maxRecDepth 65536 in
theorem w_args : argsFit about1.vm theMethod args0 = true := by decide +kernel
set_option maxRecDepth 65536 in
theorem w_heap : heapFits about1 = true := by decide +kernel
set_option maxRecDepth 65536 in
theorem w_runnable : about1.curStatus? = some .runnable := by decide +kernel
set_option maxRecDepth 65536 in
theorem w_alone : about1.alone = true := by decide +kernel
set_option maxRecDepth 65536 in
theorem w_named : about1.methodNamed? x = some theMethod := by decide +kernel
set_option maxRecDepth 65536 in
theorem w_hears : about1.hears theMethod below0 = true := by decide +kernel
set_option maxRecDepth 65536 in
theorem w_ripe : about1.ripe theMethod args0 below0 = true := by decide +kernel
theorem w_running : about1.status = .running := rfl
set_option maxRecDepth 65536 in
theorem w_room : about1.hasRoom e0.platform room_1 = true :=
  launch0.hasRoom_least _ room_1 (by decide +kernel) (by decide +kernel) (by decide +kernel) (by decide +kernel) (by decide +kernel) (by decide +kernel)
theorem allAtoms_all (ts : List Jvm.Cond) (a : Array Jvm.Value) (st : Jvm.State) : (allAtoms ts).before a st = ts.all (fun c => c.before a st) := by
  induction ts with
  | nil => rfl
  | cons c t ih =>
    show (Jvm.Cond.and c (allAtoms t)).before a st = _
    rw [Jvm.Cond.before_and, ih, List.all_cons]
def words1 : List Jvm.Cond := Jvm.Cond.code x code maxLocals ret :: tables_1
/-- a 'code' word, met by the world's own term for the bytes: nothing is compared byte by byte -/
theorem code_word {y : MethodName} {bytes : ByteArray} {mx : Nat} {rt : Option FieldType} {a : Array Value} {s : State} {m : MethodId} {meth : Method} {c : Code} (h1 : s.methodNamed? y = some m) (h2 : s.vm.method? m = some meth) (h3 : meth.code = some c) (h4 : c.code = bytes)
    (h5 : (c.maxLocals == mx && c.exceptionTable.isEmpty && decide (c.maxStack ≤ mostOperands) && decide (meth.sig.returnType = rt) && !meth.locks && decide (parseMethodDescriptor y.desc = some meth.sig)) = true) : (Jvm.Cond.code y bytes mx rt).before a s = true := by
  simp only [Bool.and_eq_true, beq_iff_eq, Bool.not_eq_true', decide_eq_true_eq] at h5
  obtain ⟨⟨⟨⟨⟨g1, g2⟩, g3⟩, g4⟩, g5⟩, g6⟩ := h5
  simp [Cond.before, Cond.holds, Cond.value, h1, h2, h3, h4, g1, g2, g3, g4, g5, g6]
def isCode : Jvm.Cond → Bool
  | .code _ _ _ _ => true
  | _ => false
theorem all_split {L : List Jvm.Cond} {P : Jvm.Cond → Bool} (h1 : L.all (fun c => isCode c || P c) = true) (h2 : ∀ c ∈ L.filter isCode, P c = true) : L.all P = true := by
  refine List.all_eq_true.mpr fun c hc => ?_
  have h := List.all_eq_true.mp h1 c hc
  rcases Bool.eq_false_or_eq_true (isCode c) with hi | hi
  · exact h2 c (List.mem_filter.mpr ⟨hc, hi⟩)
  · simpa [hi] using h
set_option maxRecDepth 65536 in
theorem w_c0 : (Jvm.Cond.code x code maxLocals ret).before args0 about1 = true := code_word (m := ⟨1, 6⟩) (meth := k1m6) (c := k1c6) (by decide +kernel) rfl rfl rfl (by decide +kernel)
set_option maxRecDepth 65536 in
theorem w_c1 : (Jvm.Cond.code ({ cls := "java/lang/Math", name := "min", desc := "(II)I" } : Jvm.MethodName) jdk_29_method_69_code (2 : Nat) (Option.some Jvm.ClassFile.FieldType.int)).before args0 about1 = true := code_word (m := ⟨2, 1⟩) (meth := k2m1) (c := k2c1) (by decide +kernel) rfl rfl rfl (by decide +kernel)
set_option maxRecDepth 65536 in
theorem w_c2 : (Jvm.Cond.code ({ cls := "com/example/redbark/redbark/KeyArrays", name := "copy", desc := "(Ljava/lang/Object;ILjava/lang/Object;II)V" } : Jvm.MethodName) prog_10_method_9_code (6 : Nat) (Option.none : Option Jvm.ClassFile.FieldType)).before args0 about1 = true := code_word (m := ⟨3, 1⟩) (meth := k3m1) (c := k3c1) (by decide +kernel) rfl rfl rfl (by decide +kernel)
set_option maxRecDepth 65536 in
theorem w_c3 : (Jvm.Cond.code ({ cls := "com/example/redbark/redbark/KeyArraysCopyPinLaw", name := "expI", desc := "(IIIIIIIIIIII)I" } : Jvm.MethodName) method_5_code (12 : Nat) (Option.some Jvm.ClassFile.FieldType.int)).before args0 about1 = true := code_word (m := ⟨1, 4⟩) (meth := k1m4) (c := k1c4) (by decide +kernel) rfl rfl rfl (by decide +kernel)
set_option maxRecDepth 65536 in
theorem w_c4 : (Jvm.Cond.code ({ cls := "com/example/redbark/redbark/KeyArraysCopyPinLaw", name := "inRange", desc := "(III)Z" } : Jvm.MethodName) method_4_code (3 : Nat) (Option.some Jvm.ClassFile.FieldType.boolean)).before args0 about1 = true := code_word (m := ⟨1, 3⟩) (meth := k1m3) (c := k1c3) (by decide +kernel) rfl rfl rfl (by decide +kernel)
set_option maxRecDepth 65536 in
theorem w_c5 : (Jvm.Cond.code ({ cls := "com/example/redbark/redbark/KeyArraysCopyPinLaw", name := "atI", desc := "(IIIII)I" } : Jvm.MethodName) method_2_code (5 : Nat) (Option.some Jvm.ClassFile.FieldType.int)).before args0 about1 = true := code_word (m := ⟨1, 1⟩) (meth := k1m1) (c := k1c1) (by decide +kernel) rfl rfl rfl (by decide +kernel)
set_option maxRecDepth 65536 in
theorem w_c6 : (Jvm.Cond.code ({ cls := "java/lang/Integer", name := "valueOf", desc := "(I)Ljava/lang/Integer;" } : Jvm.MethodName) jdk_33_method_22_code (1 : Nat) (Option.some (Jvm.ClassFile.FieldType.object "java/lang/Integer"))).before args0 about1 = true := code_word (m := ⟨10, 0⟩) (meth := k10m0) (c := k10c0) (by decide +kernel) rfl rfl rfl (by decide +kernel)
set_option maxRecDepth 65536 in
theorem w_c7 : (Jvm.Cond.code ({ cls := "com/example/redbark/redbark/KeyArraysCopyPinLaw", name := "expO", desc := "(IIIILjava/lang/Object;Ljava/lang/Object;Ljava/lang/Object;Ljava/lang/Object;Ljava/lang/Object;Ljava/lang/Object;Ljava/lang/Object;Ljava/lang/Object;)Ljava/lang/Object;" } : Jvm.MethodName) method_6_code (12 : Nat) (Option.some (Jvm.ClassFile.FieldType.object "java/lang/Object"))).before args0 about1 = true := code_word (m := ⟨1, 5⟩) (meth := k1m5) (c := k1c5) (by decide +kernel) rfl rfl rfl (by decide +kernel)
set_option maxRecDepth 65536 in
theorem w_c8 : (Jvm.Cond.code ({ cls := "com/example/redbark/redbark/KeyArraysCopyPinLaw", name := "atO", desc := "(ILjava/lang/Object;Ljava/lang/Object;Ljava/lang/Object;Ljava/lang/Object;)Ljava/lang/Object;" } : Jvm.MethodName) method_3_code (5 : Nat) (Option.some (Jvm.ClassFile.FieldType.object "java/lang/Object"))).before args0 about1 = true := code_word (m := ⟨1, 2⟩) (meth := k1m2) (c := k1c2) (by decide +kernel) rfl rfl rfl (by decide +kernel)
set_option maxRecDepth 65536 in
theorem w_c9 : (Jvm.Cond.code ({ cls := "java/lang/Integer", name := "<init>", desc := "(I)V" } : Jvm.MethodName) jdk_33_method_23_code (2 : Nat) (Option.none : Option Jvm.ClassFile.FieldType)).before args0 about1 = true := code_word (m := ⟨10, 1⟩) (meth := k10m1) (c := k10c1) (by decide +kernel) rfl rfl rfl (by decide +kernel)
set_option maxRecDepth 65536 in
theorem w_c10 : (Jvm.Cond.code ({ cls := "java/lang/Number", name := "<init>", desc := "()V" } : Jvm.MethodName) jdk_18_method_1_code (1 : Nat) (Option.none : Option Jvm.ClassFile.FieldType)).before args0 about1 = true := code_word (m := ⟨6, 0⟩) (meth := k6m0) (c := k6c0) (by decide +kernel) rfl rfl rfl (by decide +kernel)
set_option maxRecDepth 65536 in
theorem w_c11 : (Jvm.Cond.code ({ cls := "java/lang/Object", name := "<init>", desc := "()V" } : Jvm.MethodName) object_method_1_code (1 : Nat) (Option.none : Option Jvm.ClassFile.FieldType)).before args0 about1 = true := code_word (m := ⟨0, 0⟩) (meth := k0m0) (c := k0c0) (by decide +kernel) rfl rfl rfl (by decide +kernel)
def codes1 : List Jvm.Cond := [Jvm.Cond.code x code maxLocals ret, Jvm.Cond.code ({ cls := "java/lang/Math", name := "min", desc := "(II)I" } : Jvm.MethodName) jdk_29_method_69_code (2 : Nat) (Option.some Jvm.ClassFile.FieldType.int), Jvm.Cond.code ({ cls := "com/example/redbark/redbark/KeyArrays", name := "copy", desc := "(Ljava/lang/Object;ILjava/lang/Object;II)V" } : Jvm.MethodName) prog_10_method_9_code (6 : Nat) (Option.none : Option Jvm.ClassFile.FieldType), Jvm.Cond.code ({ cls := "com/example/redbark/redbark/KeyArraysCopyPinLaw", name := "expI", desc := "(IIIIIIIIIIII)I" } : Jvm.MethodName) method_5_code (12 : Nat) (Option.some Jvm.ClassFile.FieldType.int), Jvm.Cond.code ({ cls := "com/example/redbark/redbark/KeyArraysCopyPinLaw", name := "inRange", desc := "(III)Z" } : Jvm.MethodName) method_4_code (3 : Nat) (Option.some Jvm.ClassFile.FieldType.boolean), Jvm.Cond.code ({ cls := "com/example/redbark/redbark/KeyArraysCopyPinLaw", name := "atI", desc := "(IIIII)I" } : Jvm.MethodName) method_2_code (5 : Nat) (Option.some Jvm.ClassFile.FieldType.int), Jvm.Cond.code ({ cls := "java/lang/Integer", name := "valueOf", desc := "(I)Ljava/lang/Integer;" } : Jvm.MethodName) jdk_33_method_22_code (1 : Nat) (Option.some (Jvm.ClassFile.FieldType.object "java/lang/Integer")), Jvm.Cond.code ({ cls := "com/example/redbark/redbark/KeyArraysCopyPinLaw", name := "expO", desc := "(IIIILjava/lang/Object;Ljava/lang/Object;Ljava/lang/Object;Ljava/lang/Object;Ljava/lang/Object;Ljava/lang/Object;Ljava/lang/Object;Ljava/lang/Object;)Ljava/lang/Object;" } : Jvm.MethodName) method_6_code (12 : Nat) (Option.some (Jvm.ClassFile.FieldType.object "java/lang/Object")), Jvm.Cond.code ({ cls := "com/example/redbark/redbark/KeyArraysCopyPinLaw", name := "atO", desc := "(ILjava/lang/Object;Ljava/lang/Object;Ljava/lang/Object;Ljava/lang/Object;)Ljava/lang/Object;" } : Jvm.MethodName) method_3_code (5 : Nat) (Option.some (Jvm.ClassFile.FieldType.object "java/lang/Object")), Jvm.Cond.code ({ cls := "java/lang/Integer", name := "<init>", desc := "(I)V" } : Jvm.MethodName) jdk_33_method_23_code (2 : Nat) (Option.none : Option Jvm.ClassFile.FieldType), Jvm.Cond.code ({ cls := "java/lang/Number", name := "<init>", desc := "()V" } : Jvm.MethodName) jdk_18_method_1_code (1 : Nat) (Option.none : Option Jvm.ClassFile.FieldType), Jvm.Cond.code ({ cls := "java/lang/Object", name := "<init>", desc := "()V" } : Jvm.MethodName) object_method_1_code (1 : Nat) (Option.none : Option Jvm.ClassFile.FieldType)]
set_option maxRecDepth 65536 in
theorem codes_eq : words1.filter isCode = codes1 := rfl
theorem w_codes : ∀ c ∈ words1.filter isCode, c.before args0 about1 = true := by
  rw [codes_eq]
  intro c hc
  simp only [codes1, List.mem_cons, List.not_mem_nil, or_false] at hc
  rcases hc with rfl | rfl | rfl | rfl | rfl | rfl | rfl | rfl | rfl | rfl | rfl | rfl
  · exact w_c0
  · exact w_c1
  · exact w_c2
  · exact w_c3
  · exact w_c4
  · exact w_c5
  · exact w_c6
  · exact w_c7
  · exact w_c8
  · exact w_c9
  · exact w_c10
  · exact w_c11
set_option maxRecDepth 65536 in
theorem w_t1 : (words1.take 24).all (fun c => isCode c || c.before args0 about1) = true := by decide +kernel
set_option maxRecDepth 65536 in
theorem w_t2 : ((words1.drop 24).take 24).all (fun c => isCode c || c.before args0 about1) = true := by decide +kernel
set_option maxRecDepth 65536 in
theorem w_t3 : ((words1.drop 24).drop 24).all (fun c => isCode c || c.before args0 about1) = true := by decide +kernel
theorem w_tables : (allAtoms (Jvm.Cond.code x code maxLocals ret :: tables_1)).before args0 about1 = true := by
  rw [allAtoms_all]
  show words1.all (fun c => c.before args0 about1) = true
  refine all_split ?_ w_codes
  rw [← List.take_append_drop 24 words1, List.all_append, w_t1, ← List.take_append_drop 24 (words1.drop 24), List.all_append, w_t2, w_t3]
  rfl
set_option maxRecDepth 65536 in
theorem w_rest : rest_1_c.before args0 about1 = true := by decide +kernel
set_option maxRecDepth 65536 in
theorem w_case : (Jvm.Cond.and given_1 narrow_1).before args0 about1 = true := by decide +kernel
theorem w_applies : (headSpec (Jvm.Cond.code x code maxLocals ret :: tables_1) room_1).applies x e0.platform about1 = true :=
  (Spec.applies_iff w_frames).mpr ⟨w_running, w_runnable, w_alone, w_named, w_hears, w_ripe, w_room, w_tables⟩
theorem atStart : AtStart classFile x code maxLocals ret World_1 tables_1 room_1 Calls_1 rest_1 Pre_1 launch0 p0 e0 about1 theMethod args0 below0 :=
  ⟨lists_1, trivial, launch0.admits_env _ _ _, launch0.least_env, fairChoices_fair.cas, fairChoices_fair.clock, w_frames, w_args, w_heap, w_applies, trivial, w_rest, w_case⟩
end start1
theorem witness_1 : WitnessClaimed_1 := ⟨start1.p0, start1.e0, start1.about1, start1.theMethod, start1.args0, start1.below0, start1.atStart⟩
end Jvm.Pilot.@@N@@
