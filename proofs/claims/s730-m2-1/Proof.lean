import JvmDerived
import JvmDerived.Pilot.@@N@@Statement
import JvmDerived.Pilot.@@N@@Code
set_option linter.unusedVariables false
set_option linter.unusedSimpArgs false
@@BLOCK:NumsL.lean.txt@@
namespace Jvm.OwnK
open Sem ClassFile Op Lib Jvm.Stand Jvm.Free Jvm.LawKit Jvm.RoadKit Bundle
/-- from the frame f at T the run ends, and P holds of its end -/
def Go (tb : Tables) (e : Env) (below : List Frame) (P : Outcome → State → Prop) (T : State) (f : JFrame) : Prop :=
  ∃ s₂ o, Steps tb e below (T.setTop f) s₂ ∧ s₂.status = .running ∧ Ended s₂ below o ∧ P o s₂
abbrev PQ (s : State) (Q : Option Value → Heap → List Loc → Prop) (C N : Nat) : Outcome → State → Prop := fun o U' => ∃ v L, o = .returned v ∧ Q v U'.heap L ∧ FrameEnd s o U' L C N
theorem Go.st {tb : Tables} {e : Env} {below : List Frame} {P : Outcome → State → Prop} {T T' : State} {f f' : JFrame} (h : ∀ t, Steps tb e below (T'.setTop f') t → Steps tb e below (T.setTop f) t) (k : Go tb e below P T' f') : Go tb e below P T f := by
  obtain ⟨s₂, o, h1, h2⟩ := k; exact ⟨s₂, o, h _ h1, h2⟩
theorem Go.st1 {tb : Tables} {e : Env} {below : List Frame} {P : Outcome → State → Prop} {T T' : State} {f f' : JFrame} (h : Steps tb e below (T.setTop f) (T'.setTop f')) (k : Go tb e below P T' f') : Go tb e below P T f :=
  Go.st (fun t q => h.trans q) k
theorem tI {x : Int32} {n : Int} (h : x.toInt = n) : x = Int32.ofInt n := by subst h; simp
section Steps
variable {p : Program} {l : Launch} {e : Env} {R : Room} {s : State} {m : MethodId} {args : Array Value} {below : List Frame} {meth : Method} {c : Code} {T : State} {locs : List Loc} {cells slots : Nat} {P : Outcome → State → Prop} {pc pc' : Nat} {Ls : Array Slot} {S : List Value} {Z : State} {a0 : Array Value} {h : Heap}
theorem iload (X : Stand p l e R s m args below meth c T locs cells slots) (hx : p.tables.exec = Jvm.exec) {j : Nat} {v : Int32} (hd : decode c.code pc = .ok (.iload j, 2)) (hp : pc' = pc + 2) (hl : Ls[j]? = some (.val (.int v)))
    (k : Go p.tables e below P T (mkF m pc' Ls (.int v :: S))) : Go p.tables e below P T (mkF m pc Ls (S)) := by
  subst hp; exact Go.st (fun t q => XS.iload X.here hx rfl hd  hl q) k
theorem iloadN (X : Stand p l e R s m args below meth c T locs cells slots) (hx : p.tables.exec = Jvm.exec) {j : Fin 4} {v : Int32} (hd : decode c.code pc = .ok (.iload_n j, 1)) (hp : pc' = pc + 1) (hl : Ls[j.val]? = some (.val (.int v)))
    (k : Go p.tables e below P T (mkF m pc' Ls (.int v :: S))) : Go p.tables e below P T (mkF m pc Ls (S)) := by
  subst hp; exact Go.st (fun t q => XS.iloadN X.here hx rfl hd  hl q) k
theorem aload (X : Stand p l e R s m args below meth c T locs cells slots) (hx : p.tables.exec = Jvm.exec) {j : Nat} {v : Value} (hd : decode c.code pc = .ok (.aload j, 2)) (hp : pc' = pc + 2) (hl : Ls[j]? = some (.val v)) (hv : v.isRef = true)
    (k : Go p.tables e below P T (mkF m pc' Ls (v :: S))) : Go p.tables e below P T (mkF m pc Ls (S)) := by
  subst hp; exact Go.st (fun t q => XS.aload X.here hx rfl hd  hl hv q) k
theorem aloadN (X : Stand p l e R s m args below meth c T locs cells slots) (hx : p.tables.exec = Jvm.exec) {j : Fin 4} {v : Value} (hd : decode c.code pc = .ok (.aload_n j, 1)) (hp : pc' = pc + 1) (hl : Ls[j.val]? = some (.val v)) (hv : v.isRef = true)
    (k : Go p.tables e below P T (mkF m pc' Ls (v :: S))) : Go p.tables e below P T (mkF m pc Ls (S)) := by
  subst hp; exact Go.st (fun t q => XS.aloadN X.here hx rfl hd  hl hv q) k
theorem istore (X : Stand p l e R s m args below meth c T locs cells slots) (hx : p.tables.exec = Jvm.exec) {j : Nat} {v : Int32} {Ls' : Array Slot} (hd : decode c.code pc = .ok (.istore j, 2)) (hp : pc' = pc + 2) (hl : storeLocals Ls j (.int v) = some Ls')
    (k : Go p.tables e below P T (mkF m pc' Ls' (S))) : Go p.tables e below P T (mkF m pc Ls (.int v :: S)) := by
  subst hp; exact Go.st (fun t q => XS.istore X.here hx rfl hd rfl hl q) k
theorem istoreN (X : Stand p l e R s m args below meth c T locs cells slots) (hx : p.tables.exec = Jvm.exec) {j : Fin 4} {v : Int32} {Ls' : Array Slot} (hd : decode c.code pc = .ok (.istore_n j, 1)) (hp : pc' = pc + 1) (hl : storeLocals Ls j.val (.int v) = some Ls')
    (k : Go p.tables e below P T (mkF m pc' Ls' (S))) : Go p.tables e below P T (mkF m pc Ls (.int v :: S)) := by
  subst hp; exact Go.st (fun t q => XS.istoreN X.here hx rfl hd rfl hl q) k
theorem astore (X : Stand p l e R s m args below meth c T locs cells slots) (hx : p.tables.exec = Jvm.exec) {j : Nat} {v : Value} {Ls' : Array Slot} (hd : decode c.code pc = .ok (.astore j, 2)) (hp : pc' = pc + 2) (hv : v.isRef = true) (hl : storeLocals Ls j v = some Ls')
    (k : Go p.tables e below P T (mkF m pc' Ls' (S))) : Go p.tables e below P T (mkF m pc Ls (v :: S)) := by
  subst hp; exact Go.st (fun t q => XS.astore X.here hx rfl hd rfl hv hl q) k
theorem astoreN (X : Stand p l e R s m args below meth c T locs cells slots) (hx : p.tables.exec = Jvm.exec) {j : Fin 4} {v : Value} {Ls' : Array Slot} (hd : decode c.code pc = .ok (.astore_n j, 1)) (hp : pc' = pc + 1) (hv : v.isRef = true) (hl : storeLocals Ls j.val v = some Ls')
    (k : Go p.tables e below P T (mkF m pc' Ls' (S))) : Go p.tables e below P T (mkF m pc Ls (v :: S)) := by
  subst hp; exact Go.st (fun t q => XS.astoreN X.here hx rfl hd rfl hv hl q) k
theorem istoreG (X : Stand p l e R s m args below meth c T locs cells slots) (hx : p.tables.exec = Jvm.exec) {j : Nat} {v : Int32} {Ls' : Int32 → Array Slot} (hd : decode c.code pc = .ok (.istore j, 2)) (hp : pc' = pc + 2) (hl : ∀ u, storeLocals Ls j (.int u) = some (Ls' u))
    (k : ∀ u, u = v → Go p.tables e below P T (mkF m pc' (Ls' u) (S))) : Go p.tables e below P T (mkF m pc Ls (.int v :: S)) := istore X hx hd hp (hl v) (k v rfl)
theorem iconst (X : Stand p l e R s m args below meth c T locs cells slots) (hx : p.tables.exec = Jvm.exec) {i : Int} {v : Int32} (hd : decode c.code pc = .ok (.iconst i, 1)) (hp : pc' = pc + 1) (hv : Int32.ofInt i = v)
    (k : Go p.tables e below P T (mkF m pc' Ls (.int v :: S))) : Go p.tables e below P T (mkF m pc Ls (S)) := by
  subst hp hv; exact Go.st (fun t q => XS.iconst X.here hx rfl hd q) k
theorem bipush (X : Stand p l e R s m args below meth c T locs cells slots) (hx : p.tables.exec = Jvm.exec) {i : Int} {v : Int32} (hd : decode c.code pc = .ok (.bipush i, 2)) (hp : pc' = pc + 2) (hv : (Int8.ofInt i).toInt32 = v)
    (k : Go p.tables e below P T (mkF m pc' Ls (.int v :: S))) : Go p.tables e below P T (mkF m pc Ls (S)) := by
  subst hp hv; exact Go.st (fun t q => XS.bipush X.here hx rfl hd q) k
theorem sipush (X : Stand p l e R s m args below meth c T locs cells slots) (hx : p.tables.exec = Jvm.exec) {i : Int} {v : Int32} (hd : decode c.code pc = .ok (.sipush i, 3)) (hp : pc' = pc + 3) (hv : (Int16.ofInt i).toInt32 = v)
    (k : Go p.tables e below P T (mkF m pc' Ls (.int v :: S))) : Go p.tables e below P T (mkF m pc Ls (S)) := by
  subst hp hv; exact Go.st (fun t q => XS.sipush X.here hx rfl hd q) k
theorem aconstNull (X : Stand p l e R s m args below meth c T locs cells slots) (hx : p.tables.exec = Jvm.exec)  (hd : decode c.code pc = .ok (.aconst_null, 1)) (hp : pc' = pc + 1)
    (k : Go p.tables e below P T (mkF m pc' Ls (.null :: S))) : Go p.tables e below P T (mkF m pc Ls (S)) := by
  subst hp; exact Go.st (fun t q => XS.aconstNull X.here hx rfl hd   q) k
theorem iadd (X : Stand p l e R s m args below meth c T locs cells slots) (hx : p.tables.exec = Jvm.exec) {x y : Int32} (hd : decode c.code pc = .ok (.iadd, 1)) (hp : pc' = pc + 1)
    (k : Go p.tables e below P T (mkF m pc' Ls (.int (x + y) :: S))) : Go p.tables e below P T (mkF m pc Ls (.int y :: .int x :: S)) := by
  subst hp; exact Go.st (fun t q => XS.iadd X.here hx rfl hd rfl  q) k
theorem iand (X : Stand p l e R s m args below meth c T locs cells slots) (hx : p.tables.exec = Jvm.exec) {x y : Int32} (hd : decode c.code pc = .ok (.iand, 1)) (hp : pc' = pc + 1)
    (k : Go p.tables e below P T (mkF m pc' Ls (.int (x &&& y) :: S))) : Go p.tables e below P T (mkF m pc Ls (.int y :: .int x :: S)) := by
  subst hp; exact Go.st (fun t q => XS.iand X.here hx rfl hd rfl  q) k
theorem ixor (X : Stand p l e R s m args below meth c T locs cells slots) (hx : p.tables.exec = Jvm.exec) {x y : Int32} (hd : decode c.code pc = .ok (.ixor, 1)) (hp : pc' = pc + 1)
    (k : Go p.tables e below P T (mkF m pc' Ls (.int (x ^^^ y) :: S))) : Go p.tables e below P T (mkF m pc Ls (.int y :: .int x :: S)) := by
  subst hp; exact Go.st (fun t q => XT.ixor X.here hx rfl hd rfl  q) k
theorem iushr (X : Stand p l e R s m args below meth c T locs cells slots) (hx : p.tables.exec = Jvm.exec) {x y : Int32} (hd : decode c.code pc = .ok (.iushr, 1)) (hp : pc' = pc + 1)
    (k : Go p.tables e below P T (mkF m pc' Ls (.int (XT.ushr x y) :: S))) : Go p.tables e below P T (mkF m pc Ls (.int y :: .int x :: S)) := by
  subst hp; exact Go.st (fun t q => XT.iushr X.here hx rfl hd rfl  q) k
theorem irem (X : Stand p l e R s m args below meth c T locs cells slots) (hx : p.tables.exec = Jvm.exec) {x y : Int32} (hd : decode c.code pc = .ok (.irem, 1)) (hp : pc' = pc + 1) (hy : y ≠ 0)
    (k : Go p.tables e below P T (mkF m pc' Ls (.int (x % y) :: S))) : Go p.tables e below P T (mkF m pc Ls (.int y :: .int x :: S)) := by
  subst hp; exact Go.st (fun t q => iremM X hx rfl hd rfl hy q) k
theorem dup (X : Stand p l e R s m args below meth c T locs cells slots) (hx : p.tables.exec = Jvm.exec) {x : Value} (hd : decode c.code pc = .ok (.dup, 1)) (hp : pc' = pc + 1) (hc : x.category = 1)
    (k : Go p.tables e below P T (mkF m pc' Ls (x :: x :: S))) : Go p.tables e below P T (mkF m pc Ls (x :: S)) := by
  subst hp; exact Go.st (fun t q => XS.dup X.here hx rfl hd rfl hc q) k
theorem pop (X : Stand p l e R s m args below meth c T locs cells slots) (hx : p.tables.exec = Jvm.exec) {x : Value} (hd : decode c.code pc = .ok (.pop, 1)) (hp : pc' = pc + 1) (hc : x.category = 1)
    (k : Go p.tables e below P T (mkF m pc' Ls (S))) : Go p.tables e below P T (mkF m pc Ls (x :: S)) := by
  subst hp; exact Go.st (fun t q => XT.pop X.here hx rfl hd rfl hc q) k
theorem goto_ (X : Stand p l e R s m args below meth c T locs cells slots) (hx : p.tables.exec = Jvm.exec) {o : Int} (hd : decode c.code pc = .ok (.goto o, 3)) (ho : 0 ≤ (pc : Int) + o) (hp : ((pc : Int) + o).toNat = pc')
    (k : Go p.tables e below P T (mkF m pc' Ls (S))) : Go p.tables e below P T (mkF m pc Ls (S)) :=
  Go.st (fun t q => XS.goto X.here hx rfl rfl hd ho hp q) k
theorem h_lt (x y : Int32) : if_icmp.holds .lt x y = decide (x.toInt < y.toInt) := by simp [if_icmp.holds, Int32.lt_iff_toInt_lt]
theorem h_le (x y : Int32) : if_icmp.holds .le x y = decide (x.toInt ≤ y.toInt) := by simp [if_icmp.holds, Int32.le_iff_toInt_le]
theorem h_eq (x y : Int32) : if_icmp.holds .eq x y = decide (x.toInt = y.toInt) := by rw [Bool.eq_iff_iff]; simp [if_icmp.holds, Int32.toInt_inj]
theorem h_ne (x y : Int32) : if_icmp.holds .ne x y = decide (¬ x.toInt = y.toInt) := by rw [Bool.eq_iff_iff]; simp [if_icmp.holds, Int32.toInt_inj]
theorem z_any (cd : ClassFile.Cond) (x : Int32) : ifCond.holds cd x = if_icmp.holds cd x 0 := by cases cd <;> simp [ifCond.holds, if_icmp.holds]
theorem z0 : (0 : Int32).toInt = 0 := by decide
theorem icmp_lt (X : Stand p l e R s m args below meth c T locs cells slots) (hx : p.tables.exec = Jvm.exec) {o : Int} {x y : Int32} {pcT : Nat} (hd : decode c.code pc = .ok (.if_icmp .lt o, 3)) (ho : 0 ≤ (pc : Int) + o) (hT : ((pc : Int) + o).toNat = pcT) (hp : pc' = pc + 3)
    (kt : x.toInt < y.toInt → Go p.tables e below P T (mkF m pcT Ls (S))) (kf : y.toInt ≤ x.toInt → Go p.tables e below P T (mkF m pc' Ls (S))) : Go p.tables e below P T (mkF m pc Ls (.int y :: .int x :: S)) := by
  subst hp
  by_cases q : x.toInt < y.toInt
  · exact Go.st (fun t r => XS.icmpYes X.here hx rfl rfl hd rfl (by rw [h_lt]; exact decide_eq_true q) ho hT r) (kt q)
  · exact Go.st (fun t r => XS.icmpNo X.here hx rfl hd rfl (by rw [h_lt]; exact decide_eq_false q) r) (kf (by omega))
theorem if_lt (X : Stand p l e R s m args below meth c T locs cells slots) (hx : p.tables.exec = Jvm.exec) {o : Int} {x : Int32} {pcT : Nat} (hd : decode c.code pc = .ok (.ifCond .lt o, 3)) (ho : 0 ≤ (pc : Int) + o) (hT : ((pc : Int) + o).toNat = pcT) (hp : pc' = pc + 3)
    (kt : x.toInt < 0 → Go p.tables e below P T (mkF m pcT Ls (S))) (kf : 0 ≤ x.toInt → Go p.tables e below P T (mkF m pc' Ls (S))) : Go p.tables e below P T (mkF m pc Ls (.int x :: S)) := by
  subst hp
  by_cases q : x.toInt < 0
  · exact Go.st (fun t r => XS.ifYes X.here hx rfl rfl hd rfl (by rw [z_any, h_lt, z0]; exact decide_eq_true q) ho hT r) (kt q)
  · exact Go.st (fun t r => XS.ifNo X.here hx rfl hd rfl (by rw [z_any, h_lt, z0]; exact decide_eq_false q) r) (kf (by omega))
theorem icmp_le (X : Stand p l e R s m args below meth c T locs cells slots) (hx : p.tables.exec = Jvm.exec) {o : Int} {x y : Int32} {pcT : Nat} (hd : decode c.code pc = .ok (.if_icmp .le o, 3)) (ho : 0 ≤ (pc : Int) + o) (hT : ((pc : Int) + o).toNat = pcT) (hp : pc' = pc + 3)
    (kt : x.toInt ≤ y.toInt → Go p.tables e below P T (mkF m pcT Ls (S))) (kf : y.toInt < x.toInt → Go p.tables e below P T (mkF m pc' Ls (S))) : Go p.tables e below P T (mkF m pc Ls (.int y :: .int x :: S)) := by
  subst hp
  by_cases q : x.toInt ≤ y.toInt
  · exact Go.st (fun t r => XS.icmpYes X.here hx rfl rfl hd rfl (by rw [h_le]; exact decide_eq_true q) ho hT r) (kt q)
  · exact Go.st (fun t r => XS.icmpNo X.here hx rfl hd rfl (by rw [h_le]; exact decide_eq_false q) r) (kf (by omega))
theorem if_eq (X : Stand p l e R s m args below meth c T locs cells slots) (hx : p.tables.exec = Jvm.exec) {o : Int} {x : Int32} {pcT : Nat} (hd : decode c.code pc = .ok (.ifCond .eq o, 3)) (ho : 0 ≤ (pc : Int) + o) (hT : ((pc : Int) + o).toNat = pcT) (hp : pc' = pc + 3)
    (kt : x.toInt = 0 → Go p.tables e below P T (mkF m pcT Ls (S))) (kf : ¬ x.toInt = 0 → Go p.tables e below P T (mkF m pc' Ls (S))) : Go p.tables e below P T (mkF m pc Ls (.int x :: S)) := by
  subst hp
  by_cases q : x.toInt = 0
  · exact Go.st (fun t r => XS.ifYes X.here hx rfl rfl hd rfl (by rw [z_any, h_eq, z0]; exact decide_eq_true q) ho hT r) (kt q)
  · exact Go.st (fun t r => XS.ifNo X.here hx rfl hd rfl (by rw [z_any, h_eq, z0]; exact decide_eq_false q) r) (kf (by omega))
theorem icmp_ne (X : Stand p l e R s m args below meth c T locs cells slots) (hx : p.tables.exec = Jvm.exec) {o : Int} {x y : Int32} {pcT : Nat} (hd : decode c.code pc = .ok (.if_icmp .ne o, 3)) (ho : 0 ≤ (pc : Int) + o) (hT : ((pc : Int) + o).toNat = pcT) (hp : pc' = pc + 3)
    (kt : ¬ x.toInt = y.toInt → Go p.tables e below P T (mkF m pcT Ls (S))) (kf : x.toInt = y.toInt → Go p.tables e below P T (mkF m pc' Ls (S))) : Go p.tables e below P T (mkF m pc Ls (.int y :: .int x :: S)) := by
  subst hp
  by_cases q : ¬ x.toInt = y.toInt
  · exact Go.st (fun t r => XS.icmpYes X.here hx rfl rfl hd rfl (by rw [h_ne]; exact decide_eq_true q) ho hT r) (kt q)
  · exact Go.st (fun t r => XS.icmpNo X.here hx rfl hd rfl (by rw [h_ne]; exact decide_eq_false q) r) (kf (by omega))
theorem ifnonnull_ (X : Stand p l e R s m args below meth c T locs cells slots) (hx : p.tables.exec = Jvm.exec) {o : Int} {v : Value} {pcT : Nat} (hd : decode c.code pc = .ok (.ifnonnull o, 3)) (hv : v.isRef = true) (ho : 0 ≤ (pc : Int) + o) (hT : ((pc : Int) + o).toNat = pcT) (hp : pc' = pc + 3)
    (kt : ¬ v = .null → Go p.tables e below P T (mkF m pcT Ls (S))) (kf : v = .null → Go p.tables e below P T (mkF m pc' Ls (S))) : Go p.tables e below P T (mkF m pc Ls (v :: S)) := by
  subst hp
  by_cases q : ¬ v = .null
  · exact Go.st (fun t r => XT.nonnullYes X.here hx rfl rfl hd rfl hv q ho hT r) (kt q)
  · exact Go.st (fun t r => XT.nonnullNo X.here hx rfl hd rfl (Classical.not_not.mp q) r) (kf (Classical.not_not.mp q))
theorem ifnonnull_ref (X : Stand p l e R s m args below meth c T locs cells slots) (hx : p.tables.exec = Jvm.exec) {o : Int} {a : Addr} {pcT : Nat} (hd : decode c.code pc = .ok (.ifnonnull o, 3)) (ho : 0 ≤ (pc : Int) + o) (hT : ((pc : Int) + o).toNat = pcT) (hp : pc' = pc + 3)
    (k : Go p.tables e below P T (mkF m pcT Ls (S))) : Go p.tables e below P T (mkF m pc Ls (.ref a :: S)) :=
  ifnonnull_ X hx hd rfl ho hT hp (fun _ => k) (fun q => nomatch q)
theorem ldcI (X : Stand p l e R s m args below meth c T locs cells slots) (hx : p.tables.exec = Jvm.exec) (hZ : Z.Warmed39 s.vm) {own : String} (hown : s.vm.findClass own = some m.cls) {i : Nat} {v : Int32} (w : (Cond.constant own i v).before a0 Z = true) (hd : decode c.code pc = .ok (.ldc i, 2)) (hp : pc' = pc + 2)
    (k : Go p.tables e below P T (mkF m pc' Ls (.int v :: S))) : Go p.tables e below P T (mkF m pc Ls (S)) := by
  subst hp; exact Go.st (X.ldcInt hx hown (mv hZ w) (g := mkF m pc Ls S) rfl hd) k
theorem getF_ (X : Stand p l e R s m args below meth c T locs cells slots) (hx : p.tables.exec = Jvm.exec) (hZ : Z.Warmed39 s.vm) {own : String} (hown : s.vm.findClass own = some m.cls) {R0 O n d host : String} {i : Nat} (w : (Cond.fieldLink own i R0 n d).before a0 Z = true ∨ (Cond.fieldLinkNest own i R0 n d host).before a0 Z = true) (via : Via Z R0 O n d) (eT : T.heap = h) {a : Addr} {v : Value} (F : Fld Z h a O n d v) (hd : decode c.code pc = .ok (.getfield i, 3)) (hp : pc' = pc + 3)
    (k : ∀ T', Stand p l e R s m args below meth c T' locs cells slots → T'.heap = h → Go p.tables e below P T' (mkF m pc' Ls (v :: S))) : Go p.tables e below P T (mkF m pc Ls (.ref a :: S)) := by
  subst hp
  obtain ⟨T', X', e', st⟩ := getF X hx hZ hown w via eT F (g := mkF m pc Ls (.ref a :: S)) rfl rfl hd
  exact Go.st st (k T' X' e')
theorem putF_ (X : Stand p l e R s m args below meth c T locs cells slots) (hx : p.tables.exec = Jvm.exec) (hZ : Z.Warmed39 s.vm) {own : String} (hown : s.vm.findClass own = some m.cls) {R0 O n d C : String} {i kk : Nat} {ty : FieldType} (w : (Cond.fieldLink own i R0 n d).before a0 Z = true) (via : Via Z R0 O n d) (eT : T.heap = h) {a : Addr} {v v' old : Value} (F : Fld Z h a O n d old) (E : Exa Z h a C) (L : (Cond.lays C O n d).before a0 Z = true ∨ ((Cond.laysFinal C O n d).before a0 Z = true ∧ own = O ∧ meth.name = "<init>")) (wi : (Cond.instantiable C kk).before a0 Z = true) (hty : parseFieldDescriptor d = some ty) (hn : narrow ty v = v') (hf : fits ty v' = true) (hd : decode c.code pc = .ok (.putfield i, 3)) (hp : pc' = pc + 3)
    (k : ∀ T' h', Stand p l e R s m args below meth c T' (locs ++ [⟨a, Jvm.RoadKit.slotOf Z O n d⟩]) cells slots → T'.heap = h' → Wr h h' a (Jvm.RoadKit.slotOf Z O n d) v' → Go p.tables e below P T' (mkF m pc' Ls (S))) : Go p.tables e below P T (mkF m pc Ls (v :: .ref a :: S)) := by
  subst hp
  obtain ⟨T', h', X', e', W', st⟩ := putFN X hx hZ hown w via eT F E L wi hty hn hf (g := mkF m pc Ls (v :: .ref a :: S)) rfl rfl hd
  exact Go.st st (k T' h' X' e' W')
theorem new_ (X : Stand p l e R s m args below meth c T locs cells slots) (hx : p.tables.exec = Jvm.exec) (hZ : Z.Warmed39 s.vm) {own : String} (hown : s.vm.findClass own = some m.cls) {C : String} {i n : Nat} (w : (Cond.classLink own i C).before a0 Z = true) (wi : (Cond.instantiable C n).before a0 Z = true) (wz : (Cond.initialized C).before a0 Z = true) (eT : T.heap = h) (hd : decode c.code pc = .ok (.new i, 3)) (hp : pc' = pc + 3) (hc : cells + 1 ≤ R.cells) (hl : slots + n ≤ R.slots)
    (k : ∀ T' h' a, Stand p l e R s m args below meth c T' locs (cells + 1) (slots + n) → T'.heap = h' → a = h.size → Ext h h' → Exa Z h' a C → (∀ {O nm d : String} {ty : FieldType}, Laid Z a0 C O nm d → parseFieldDescriptor d = some ty → Fld Z h' a O nm d (defaultValue ty)) → Go p.tables e below P T' (mkF m pc' Ls (.ref a :: S))) : Go p.tables e below P T (mkF m pc Ls (S)) := by
  subst hp
  obtain ⟨T', h', X', e', E', A', D', -, st⟩ := newO X hx hZ hown w wi wz eT (g := mkF m pc Ls S) rfl hd hc hl
  exact Go.st st (k T' h' _ X' e' rfl E' A' D')
theorem jin {j z : Int32} (h0 : 0 ≤ j.toInt) (h1 : j.toInt < z.toInt) : ¬ j < 0 ∧ j < z := ⟨fun q => by have := Int32.lt_iff_toInt_lt.mp q; rw [z0] at this; omega, Int32.lt_iff_toInt_lt.mpr h1⟩
theorem jnat {j : Int32} {i : Nat} (h : j.toInt = i) : j.toNatClampNeg = i := by
  have q : ¬ j < 0 := fun q => by have := Int32.lt_iff_toInt_lt.mp q; rw [z0] at this; omega
  have := nat_of q; omega
theorem newP_ (X : Stand p l e R s m args below meth c T locs cells slots) (hx : p.tables.exec = Jvm.exec) (hZ : Z.Warmed39 s.vm) {aty : ArrayType} (w : (Cond.arrayClass (newarray.typeOf aty)).before a0 Z = true) (eT : T.heap = h) (hd : decode c.code pc = .ok (.newarray aty, 2)) (hp : pc' = pc + 2) {n : Int32} (hn : 0 ≤ n.toInt) {cap : Nat} (hcap : n.toInt ≤ cap) (hb : cap * 8 ≤ 536870912) (hc : cells + 1 ≤ R.cells) (hl : slots + cap ≤ R.slots) {ad : String} (had : "[" ++ (newarray.typeOf aty).toString = ad)
    (k : ∀ T' h' a cA, Stand p l e R s m args below meth c T' locs (cells + 1) (slots + cap) → T'.heap = h' → a = h.size → Ext h h' → Arv Z h' a cA (newarray.typeOf aty) n [] (defaultValue (newarray.typeOf aty)) → Exa Z h' a ad → Go p.tables e below P T' (mkF m pc' Ls (.ref a :: S))) : Go p.tables e below P T (mkF m pc Ls (.int n :: S)) := by
  subst hp
  have hn' : ¬ n < 0 := fun z => by have := Int32.lt_iff_toInt_lt.mp z; rw [z0] at this; omega
  obtain ⟨T', h', cA, X', e', E', A', Q', st⟩ := newPE X hx hZ w eT (g := mkF m pc Ls (.int n :: S)) rfl hd rfl hn' (cap := cap) (by have := nat_of hn'; omega) hb hc hl had
  exact Go.st st (k T' h' _ cA X' e' rfl E' (Arv.new A' hn') Q')
theorem newRA_ (X : Stand p l e R s m args below meth c T locs cells slots) (hx : p.tables.exec = Jvm.exec) (hZ : Z.Warmed39 s.vm) {own : String} (hown : s.vm.findClass own = some m.cls) {C : String} {ty : FieldType} {i : Nat} (hC : (FieldType.array ty).toString = C) (w1 : (Cond.classLink own i C).before a0 Z = true) (w2 : (Cond.arrayOver (.array ty)).before a0 Z = true) (eT : T.heap = h) (hd : decode c.code pc = .ok (.anewarray i, 3)) (hp : pc' = pc + 3) {n : Int32} (hn : 0 ≤ n.toInt) {cap : Nat} (hcap : n.toInt ≤ cap) (hb : cap * 8 ≤ 536870912) (hc : cells + 1 ≤ R.cells) (hl : slots + cap ≤ R.slots) {ad : String} (had : "[" ++ C = ad)
    (k : ∀ T' h' a cA, Stand p l e R s m args below meth c T' locs (cells + 1) (slots + cap) → T'.heap = h' → a = h.size → Ext h h' → Arv Z h' a cA (.array ty) n [] .null → Exa Z h' a ad → OvrA Z cA ty C → Go p.tables e below P T' (mkF m pc' Ls (.ref a :: S))) : Go p.tables e below P T (mkF m pc Ls (.int n :: S)) := by
  subst hp
  have hn' : ¬ n < 0 := fun z => by have := Int32.lt_iff_toInt_lt.mp z; rw [z0] at this; omega
  obtain ⟨T', h', cA, X', e', E', A', Q', O', st⟩ := newRA X hx hZ hown hC w1 w2 eT (g := mkF m pc Ls (.int n :: S)) rfl hd rfl hn' (cap := cap) (by have := nat_of hn'; omega) hb hc hl had
  exact Go.st st (k T' h' _ cA X' e' rfl E' (Arv.new A' hn') Q' O')
theorem iaload (X : Stand p l e R s m args below meth c T locs cells slots) (hx : p.tables.exec = Jvm.exec) (hZ : Z.Warmed39 s.vm) (eT : T.heap = h) {a : Addr} {kA : ClassId} {z j : Int32} {vs : List Value} {dv v : Value} (A : Arv Z h a kA .int z vs dv) (h0 : 0 ≤ j.toInt) (h1 : j.toInt < z.toInt) (hv : vs.getD j.toNatClampNeg dv = v) (hd : decode c.code pc = .ok (.iaload, 1)) (hp : pc' = pc + 1)
    (k : Go p.tables e below P T (mkF m pc' Ls (v :: S))) : Go p.tables e below P T (mkF m pc Ls (.int j :: .ref a :: S)) := by
  subst hp
  obtain ⟨cl, Ar, -, Sz, Nz, H, -⟩ := A
  have hin := inb_of Sz (jin h0 h1)
  exact Go.st (fun t q => X.iaload hx (j := j) (v := v) (by rw [eT]; exact Ar.1) (State.isArrayOf_alike hZ.alike Ar.2.1) Ar.2.2 hin (H.at hin hv) (g := mkF m pc Ls (.int j :: .ref a :: S)) rfl rfl hd t q) k
theorem aaload (X : Stand p l e R s m args below meth c T locs cells slots) (hx : p.tables.exec = Jvm.exec) (hZ : Z.Warmed39 s.vm) (eT : T.heap = h) {a : Addr} {kA : ClassId} {ty : FieldType} {z j : Int32} {vs : List Value} {dv v : Value} (A : Arv Z h a kA ty z vs dv) (hty : ty.isReference = true) (h0 : 0 ≤ j.toInt) (h1 : j.toInt < z.toInt) (hv : vs.getD j.toNatClampNeg dv = v) (hd : decode c.code pc = .ok (.aaload, 1)) (hp : pc' = pc + 1)
    (k : Go p.tables e below P T (mkF m pc' Ls (v :: S))) : Go p.tables e below P T (mkF m pc Ls (.int j :: .ref a :: S)) := by
  subst hp
  obtain ⟨cl, Ar, -, Sz, Nz, H, -⟩ := A
  have hin := inb_of Sz (jin h0 h1)
  exact Go.st (fun t q => X.aaload hx (j := j) (v := v) (by rw [eT]; exact Ar.1) (State.isArrayOf_alike hZ.alike Ar.2.1) hty Ar.2.2 hin (H.at hin hv) (g := mkF m pc Ls (.int j :: .ref a :: S)) rfl rfl hd t q) k
theorem arrlen (X : Stand p l e R s m args below meth c T locs cells slots) (hx : p.tables.exec = Jvm.exec) (hZ : Z.Warmed39 s.vm) (eT : T.heap = h) {a : Addr} {kA : ClassId} {ty : FieldType} {z : Int32} {vs : List Value} {dv : Value} (A : Arv Z h a kA ty z vs dv) (hd : decode c.code pc = .ok (.arraylength, 1)) (hp : pc' = pc + 1)
    (k : Go p.tables e below P T (mkF m pc' Ls (.int z :: S))) : Go p.tables e below P T (mkF m pc Ls (.ref a :: S)) := by
  subst hp
  obtain ⟨cl, Ar, -, Sz, Nz, H, -⟩ := A
  refine Go.st (fun t q => X.arraylength hx (by rw [eT]; exact Ar.1) (State.isArrayOf_alike hZ.alike Ar.2.1) (g := mkF m pc Ls (.ref a :: S)) rfl rfl hd t q) ?_
  rw [len_of Sz Nz]
  exact k
theorem iastore (X : Stand p l e R s m args below meth c T locs cells slots) (hx : p.tables.exec = Jvm.exec) (hZ : Z.Warmed39 s.vm) (eT : T.heap = h) {a : Addr} {kA : ClassId} {z j : Int32} {x : Int32} {vs : List Value} {dv : Value} (A : Arv Z h a kA .int z vs dv) {i : Nat} (hi : j.toInt = i) (hz : (i : Int) < z.toInt) (hl : i < vs.length) (hd : decode c.code pc = .ok (.iastore, 1)) (hp : pc' = pc + 1)
    (k : ∀ T' h', Stand p l e R s m args below meth c T' (locs ++ [⟨a, j.toNatClampNeg⟩]) cells slots → T'.heap = h' → Wr h h' a j.toNatClampNeg (.int x) → Arv Z h' a kA .int z (vs.set i (.int x)) dv → Go p.tables e below P T' (mkF m pc' Ls (S))) : Go p.tables e below P T (mkF m pc Ls (.int x :: .int j :: .ref a :: S)) := by
  subst hp
  obtain ⟨cl, Ar, q1, Sz, Nz, H, G⟩ := A
  have hin := inb_of Sz (jin (j := j) (z := z) (by omega) (by omega))
  obtain ⟨T', h', X', e', W', st⟩ := stI X hx hZ eT Ar (j := j) hin (g := mkF m pc Ls (.int x :: .int j :: .ref a :: S)) rfl rfl hd
  exact Go.st st (k T' h' X' e' W' (Arv.set Ar q1 Sz Nz H G rfl W' i (jnat hi) hl))
theorem aastore (X : Stand p l e R s m args below meth c T locs cells slots) (hx : p.tables.exec = Jvm.exec) (hZ : Z.Warmed39 s.vm) (eT : T.heap = h) {a : Addr} {kA : ClassId} {ty : FieldType} {z j : Int32} {v : Value} {vs : List Value} {dv : Value} (A : Arv Z h a kA ty z vs dv) (hty : ty.isReference = true) (hfv : fits ty v = true) (F : Sto Z h a v) {i : Nat} (hi : j.toInt = i) (hz : (i : Int) < z.toInt) (hl : i < vs.length) (hd : decode c.code pc = .ok (.aastore, 1)) (hp : pc' = pc + 1)
    (k : ∀ T' h', Stand p l e R s m args below meth c T' (locs ++ [⟨a, j.toNatClampNeg⟩]) cells slots → T'.heap = h' → Wr h h' a j.toNatClampNeg v → Arv Z h' a kA ty z (vs.set i v) dv → Go p.tables e below P T' (mkF m pc' Ls (S))) : Go p.tables e below P T (mkF m pc Ls (v :: .int j :: .ref a :: S)) := by
  subst hp
  obtain ⟨cl, Ar, q1, Sz, Nz, H, G⟩ := A
  have hin := inb_of Sz (jin (j := j) (z := z) (by omega) (by omega))
  obtain ⟨T', h', X', e', W', st⟩ := stR X hx hZ eT Ar (j := j) hin hty F (g := mkF m pc Ls (v :: .int j :: .ref a :: S)) rfl rfl hd
  exact Go.st st (k T' h' X' e' W' (Arv.set Ar q1 Sz Nz H G hfv W' i (jnat hi) hl))
theorem stoOfA {a y : Addr} {kA : ClassId} {ty t0 : FieldType} {z : Int32} {vs : List Value} {dv : Value} {C : String} (A : Arv Z h a kA ty z vs dv) (O : OvrA Z kA t0 C) (I : Ins Z h y C true) : Sto Z h a (.ref y) := by
  obtain ⟨c, Ar, q, _⟩ := A; exact Sto.ofVA Ar q O I
theorem initO_ (X : Stand p l e R s m args below meth c T locs cells slots) (hx : p.tables.exec = Jvm.exec) (hZ : Z.Warmed39 s.vm) {own : String} (hown : s.vm.findClass own = some m.cls) {i : Nat} (w1 : (Cond.methodLink own i Lib.objectInit).before a0 Z = true) (w2 : (Cond.instanceMethod Lib.objectInit).before a0 Z = true) (w3 : (Cond.code Lib.objectInit ⟨#[0xb1]⟩ 1 none).before a0 Z = true) (eT : T.heap = h) (hsize : Ls.size = c.maxLocals) {a : Addr} (hd : decode c.code pc = .ok (.invokespecial i, 3)) (hp : pc' = pc + 3) (hf : 1 ≤ R.frames) {W : Nat} (hW : (S.map fun v => v.category).sum ≤ W) (hl : W + 12 ≤ R.locals)
    (k : ∀ T', Stand p l e R s m args below meth c T' locs cells slots → T'.heap = h → Go p.tables e below P T' (mkF m pc' Ls (S))) : Go p.tables e below P T (mkF m pc Ls (.ref a :: S)) := by
  subst hp
  obtain ⟨T', X', e', st⟩ := initO X hx hZ hown w1 w2 w3 eT (g := mkF m pc Ls (.ref a :: S)) rfl hsize rfl hd hf (W := W) (by show 2 * 0 + _ ≤ _; simpa using hW) hl
  exact Go.st st (k T' X' e')
theorem callS_ (X : Stand p l e R s m args below meth c T locs cells slots) (hx : p.tables.exec = Jvm.exec) (hZ : Z.Warmed39 s.vm) {own : String} (hown : s.vm.findClass own = some m.cls) {y : MethodName} {i : Nat} {bytes : ByteArray} {maxL : Nat} {ret : Option FieldType} {rm : Room} {Q : Option Value → Heap → List Loc → Prop} {argsL S0 : List Value} (w1 : (Cond.methodLink own i y).before a0 Z = true) (w2 : (Cond.static y).before a0 Z = true) (w3 : (Cond.initialized y.cls).before a0 Z = true) (w4 : (Cond.code y bytes maxL ret).before a0 Z = true) (hy : y.cls ≠ "java/lang/invoke/MethodHandle" ∧ y.cls ≠ "java/lang/invoke/VarHandle") (hM : MetFree l y (head1 [Cond.code y bytes maxL ret] rm) (fun ar U => ar = argsL.toArray ∧ Z.Warmed39 U.vm ∧ U.heap = h) (fun _ _ _ _ _ => True) (fun _ U o U' => ∃ v L, o = .returned v ∧ Q v U'.heap L ∧ FrameEnd U o U' L rm.cells rm.slots)) (hf : rm.frames + 1 ≤ R.frames) {W : Nat} (hl : W + (maxL + 11) + rm.locals ≤ R.locals) (eT : T.heap = h) (hsize : Ls.size = c.maxLocals) {ps : List FieldType} {rt : Option FieldType} (hdesc : parseMethodDescriptor y.desc = some ⟨ps, rt⟩) (hlen : argsL.length = ps.length) (hS : S0 = argsL.reverse ++ S) (hW : (S.map fun v => v.category).sum ≤ W) (hd : decode c.code pc = .ok (.invokestatic i, 3)) (hp : pc' = pc + 3) (hc : cells + rm.cells ≤ R.cells) (hs : slots + rm.slots ≤ R.slots)
    (k : ∀ T' v L, Stand p l e R s m args below meth c T' (locs ++ L) (cells + rm.cells) (slots + rm.slots) → Q v T'.heap L → Go p.tables e below P T' (mkF m pc' Ls (v.toList ++ S))) : Go p.tables e below P T (mkF m pc Ls (S0)) := by
  subst hp hS
  obtain ⟨v, vm₁, ⟨T', L', k', n'⟩, -, X', ⟨L, hQ, l', y', z'⟩, st⟩ := Jvm.LawKit.callS X hx hown (mvT hZ w1) (mvT hZ w2) (mvT hZ w3) (mvT hZ w4) hy (backOf (W := W) hM hZ w4 w3 hf hl) (g := mkF m pc Ls (argsL.reverse ++ S)) rfl hsize (argsL := argsL) (rest := S) (lenOf hdesc hlen) rfl (by show 2 * 0 + _ ≤ _; simpa using hW) hd (fun _ _ => ⟨rfl, eT, hc, hs⟩)
  dsimp only [Pt.U, Pt.locs, Pt.cells, Pt.slots] at X' l' y' z' st hQ
  subst l' y' z'
  exact Go.st st (k T' v L X' hQ)
theorem callI_ (X : Stand p l e R s m args below meth c T locs cells slots) (hx : p.tables.exec = Jvm.exec) (hZ : Z.Warmed39 s.vm) {own : String} (hown : s.vm.findClass own = some m.cls) {y : MethodName} {i : Nat} {a : Addr} {bytes : ByteArray} {maxL : Nat} {ret : Option FieldType} {rm : Room} {Q : Option Value → Heap → List Loc → Prop} {argsL S0 : List Value} (hy1 : y.name = "<init>") (w1 : (Cond.methodLink own i y).before a0 Z = true) (w2 : (Cond.instanceMethod y).before a0 Z = true) (w3 : (Cond.initialized y.cls).before a0 Z = true) (w4 : (Cond.code y bytes maxL none).before a0 Z = true) (hret : ret = none) (hy : y.cls ≠ "java/lang/invoke/MethodHandle" ∧ y.cls ≠ "java/lang/invoke/VarHandle") (hM : MetFree l y (head1 [Cond.code y bytes maxL ret] rm) (fun ar U => ar = (.ref a :: argsL).toArray ∧ Z.Warmed39 U.vm ∧ U.heap = h) (fun _ _ _ _ _ => True) (fun _ U o U' => ∃ v L, o = .returned v ∧ Q v U'.heap L ∧ FrameEnd U o U' L rm.cells rm.slots)) (hf : rm.frames + 1 ≤ R.frames) {W : Nat} (hl : W + (maxL + 11) + rm.locals ≤ R.locals) (eT : T.heap = h) (hsize : Ls.size = c.maxLocals) {ps : List FieldType} {rt : Option FieldType} (hdesc : parseMethodDescriptor y.desc = some ⟨ps, rt⟩) (hlen : argsL.length = ps.length) (hS : S0 = argsL.reverse ++ .ref a :: S) (hW : (S.map fun v => v.category).sum ≤ W) (hd : decode c.code pc = .ok (.invokespecial i, 3)) (hp : pc' = pc + 3) (hc : cells + rm.cells ≤ R.cells) (hs : slots + rm.slots ≤ R.slots)
    (k : ∀ T' v L, Stand p l e R s m args below meth c T' (locs ++ L) (cells + rm.cells) (slots + rm.slots) → Q v T'.heap L → Go p.tables e below P T' (mkF m pc' Ls (v.toList ++ S))) : Go p.tables e below P T (mkF m pc Ls (S0)) := by
  subst hp hS hret
  obtain ⟨v, vm₁, ⟨T', L', k', n'⟩, -, X', ⟨L, hQ, l', y', z'⟩, st⟩ := X.specialBack hx hy1 hown (mvT hZ w1) (mvT hZ w2) (mvT hZ w4) hy (backOf (W := W) hM hZ w4 w3 hf hl) (g := mkF m pc Ls (argsL.reverse ++ .ref a :: S)) rfl hsize (Steps.refl _) (a := a) (argsL := argsL) (rest := S) (lenOf hdesc hlen) rfl (by show 2 * 0 + _ ≤ _; simpa using hW) hd (fun _ _ => ⟨rfl, eT, hc, hs⟩)
  dsimp only [Pt.U, Pt.locs, Pt.cells, Pt.slots] at X' l' y' z' st hQ
  subst l' y' z'
  exact Go.st1 st (k T' v L X' hQ)
theorem callV_ (X : Stand p l e R s m args below meth c T locs cells slots) (hx : p.tables.exec = Jvm.exec) (hZ : Z.Warmed39 s.vm) {own : String} (hown : s.vm.findClass own = some m.cls) {C : String} {y z : MethodName} {i : Nat} {a : Addr} {bytes : ByteArray} {maxL : Nat} {ret : Option FieldType} {rm : Room} {Q : Option Value → Heap → List Loc → Prop} {argsL S0 : List Value} (w1 : (Cond.methodLink own i y).before a0 Z = true) (w2 : (Cond.declares y).before a0 Z = true) (nf : NotFace s y) (w3 : (Cond.selects C y z).before a0 Z = true) (w4 : (Cond.instanceMethod z).before a0 Z = true) (w5 : (Cond.code z bytes maxL ret).before a0 Z = true) (w6 : (Cond.initialized z.cls).before a0 Z = true) (hy : y.cls ≠ "java/lang/invoke/MethodHandle" ∧ y.cls ≠ "java/lang/invoke/VarHandle") (E : Exa Z h a C) (hM : MetFree l z (head1 [Cond.code z bytes maxL ret] rm) (fun ar U => ar = (.ref a :: argsL).toArray ∧ Z.Warmed39 U.vm ∧ U.heap = h) (fun _ _ _ _ _ => True) (fun _ U o U' => ∃ v L, o = .returned v ∧ Q v U'.heap L ∧ FrameEnd U o U' L rm.cells rm.slots)) (hf : rm.frames + 1 ≤ R.frames) {W : Nat} (hl : W + (maxL + 11) + rm.locals ≤ R.locals) (eT : T.heap = h) (hsize : Ls.size = c.maxLocals) {ps : List FieldType} {rt : Option FieldType} (hdesc : parseMethodDescriptor y.desc = some ⟨ps, rt⟩) (hlen : argsL.length = ps.length) (hS : S0 = argsL.reverse ++ .ref a :: S) (hW : (S.map fun v => v.category).sum ≤ W) (hd : decode c.code pc = .ok (.invokevirtual i, 3)) (hp : pc' = pc + 3) (hc : cells + rm.cells ≤ R.cells) (hs : slots + rm.slots ≤ R.slots)
    (k : ∀ T' v L, Stand p l e R s m args below meth c T' (locs ++ L) (cells + rm.cells) (slots + rm.slots) → Q v T'.heap L → Go p.tables e below P T' (mkF m pc' Ls (v.toList ++ S))) : Go p.tables e below P T (mkF m pc Ls (S0)) := by
  subst hp hS
  obtain ⟨cq, kq, qa, qb, qc⟩ := isOf hZ eT E
  obtain ⟨v, vm₁, ⟨T', L', k', n'⟩, -, X', ⟨L, hQ, l', y', z'⟩, st⟩ := X.virtualBack hx hown (mvT hZ w1) (mvT hZ w2) nf (mvT hZ w3) (mvT hZ w4) hy (backOf (W := W) hM hZ w5 w6 hf hl) qa qc (g := mkF m pc Ls (argsL.reverse ++ .ref a :: S)) rfl hsize (Steps.refl _) (argsL := argsL) (rest := S) (lenOf hdesc hlen) rfl (by show 2 * 0 + _ ≤ _; simpa using hW) hd (fun _ _ => ⟨rfl, eT, hc, hs⟩)
  dsimp only [Pt.U, Pt.locs, Pt.cells, Pt.slots] at X' l' y' z' st hQ
  subst l' y' z'
  exact Go.st1 st (k T' v L X' hQ)
theorem selfSel {y z : MethodName} {a : Array Value} (hc : z.cls = y.cls) (wz : (Cond.selects z.cls z z).before a s = true) (hpriv : s.PrivateAt y) (hinst : (Cond.instanceMethod y).before a s = true) (hy : y.cls ≠ "java/lang/invoke/MethodHandle" ∧ y.cls ≠ "java/lang/invoke/VarHandle") : (Cond.selects y.cls y y).before a s = true := by
  obtain ⟨c2, r2, m2, -, -, q3, -, kP, hkP, hkPi⟩ := Cond.selects_spec wz
  exact selects_self_of_private (by rw [← hc]; exact findClass_of_methodNamed q3) hkP hkPi hpriv hinst hy
theorem callP_ (X : Stand p l e R s m args below meth c T locs cells slots) (hx : p.tables.exec = Jvm.exec) (hZ : Z.Warmed39 s.vm) {own : String} (hown : s.vm.findClass own = some m.cls) {y z : MethodName} {i : Nat} {a : Addr} {C : String} {bytes : ByteArray} {maxL : Nat} {ret : Option FieldType} {rm : Room} {Q : Option Value → Heap → List Loc → Prop} {argsL S0 : List Value} (w1 : (Cond.methodLink own i y).before a0 Z = true) (w2 : (Cond.instanceMethod y).before a0 Z = true) (hcl : z.cls = y.cls) (wz : (Cond.selects z.cls z z).before a0 Z = true) (w3 : (Cond.privateMethod y).before a0 Z = true) (w4 : (Cond.code y bytes maxL ret).before a0 Z = true) (w5 : (Cond.initialized y.cls).before a0 Z = true) (hy : y.cls ≠ "java/lang/invoke/MethodHandle" ∧ y.cls ≠ "java/lang/invoke/VarHandle") (E : Exa Z h a C) (hM : MetFree l y (head1 [Cond.code y bytes maxL ret] rm) (fun ar U => ar = (.ref a :: argsL).toArray ∧ Z.Warmed39 U.vm ∧ U.heap = h) (fun _ _ _ _ _ => True) (fun _ U o U' => ∃ v L, o = .returned v ∧ Q v U'.heap L ∧ FrameEnd U o U' L rm.cells rm.slots)) (hf : rm.frames + 1 ≤ R.frames) {W : Nat} (hl : W + (maxL + 11) + rm.locals ≤ R.locals) (eT : T.heap = h) (hsize : Ls.size = c.maxLocals) {ps : List FieldType} {rt : Option FieldType} (hdesc : parseMethodDescriptor y.desc = some ⟨ps, rt⟩) (hlen : argsL.length = ps.length) (hS : S0 = argsL.reverse ++ .ref a :: S) (hW : (S.map fun v => v.category).sum ≤ W) (hd : decode c.code pc = .ok (.invokevirtual i, 3)) (hp : pc' = pc + 3) (hc : cells + rm.cells ≤ R.cells) (hs : slots + rm.slots ≤ R.slots)
    (k : ∀ T' v L, Stand p l e R s m args below meth c T' (locs ++ L) (cells + rm.cells) (slots + rm.slots) → Q v T'.heap L → Go p.tables e below P T' (mkF m pc' Ls (v.toList ++ S))) : Go p.tables e below P T (mkF m pc Ls (S0)) := by
  subst hp hS
  obtain ⟨cq, q1, q2⟩ := E.cell
  have hpr := Cond.privateMethod_at (mvP hZ w3 (args := args))
  obtain ⟨v, vm₁, ⟨T', L', k', n'⟩, -, X', ⟨L, hQ, l', y', z'⟩, st⟩ := X.privateBack hx hown (mvT hZ w1) (mvT hZ w2) (selfSel hcl (mvT hZ wz) hpr (mvT hZ w2) hy) hpr (mvT hZ w4) hy (backOf (W := W) hM hZ w4 w5 hf hl) (g := mkF m pc Ls (argsL.reverse ++ .ref a :: S)) rfl hsize (Steps.refl _) (a := a) (by rw [eT]; exact q1) q2 (argsL := argsL) (rest := S) (lenOf hdesc hlen) rfl (by show 2 * 0 + _ ≤ _; simpa using hW) hd (fun _ _ => ⟨rfl, eT, hc, hs⟩)
  dsimp only [Pt.U, Pt.locs, Pt.cells, Pt.slots] at X' l' y' z' st hQ
  subst l' y' z'
  exact Go.st1 st (k T' v L X' hQ)
theorem met {y : MethodName} {bytes : ByteArray} {maxL : Nat} {ret : Option FieldType} {rm : Room} {as' : Array Value} {Q : Option Value → Heap → List Loc → Prop} {ws : List Jvm.Cond} {C N : Nat} (hpl : plainFor y = true) (ef : ∀ m, entryFrame m as' maxL = mkF m 0 Ls [])
    (body : ∀ (p : Program) (e : Env) (s : State) (m : MethodId) (below : List Frame) (meth : Method) (c : Code) (T : State), Stand p l e rm s m as' below meth c T [] 0 0 → p.tables.exec = Jvm.exec → Z.Warmed39 s.vm → c.code = bytes → c.maxLocals = maxL → s.vm.findClass y.cls = some m.cls → meth.name = y.name → meth.sig.returnType = ret → meth.locks = false → T.heap = h →
      Go p.tables e below (PQ s Q C N) T (mkF m 0 Ls [])) :
    MetFree l y (head1 (Cond.code y bytes maxL ret :: ws) rm) (fun a U => a = as' ∧ Z.Warmed39 U.vm ∧ U.heap = h) (fun _ _ _ _ _ => True) (fun _ U o U' => ∃ v L, o = .returned v ∧ Q v U'.heap L ∧ FrameEnd U o U' L C N) := by
  refine MetFree.of_bodySF hpl hisR ?_
  intro p e s m args below meth c s₁ Bd hml0 hP hK
  obtain ⟨rfl, hZ, hh⟩ := hP
  have e0 : s₁.heap = h := by rw [← hh, Bd.state]; rfl
  obtain ⟨s₂, o, h1, h2⟩ := body p e s m below meth c s₁ (Stand.of_body Bd) Bd.exec hZ Bd.bytes hml0 (findClass_of_methodNamed Bd.named) (name_of_methodNamed Bd.named Bd.method).1 Bd.returns Bd.notSynchronized e0
  exact ⟨s₂, o, castTop (ef m) h1, h2⟩
theorem ret_ (X : Stand p l e R s m args below meth c T locs cells slots) (hx : p.tables.exec = Jvm.exec) {Q : Option Value → Heap → List Loc → Prop} {C N : Nat} {w : Value} {t : FieldType} {i : Instr} (hret : meth.sig.returnType = some t) (hlk : meth.locks = false) (hn : narrow t w = w)
    (hi : (i = .ireturn ∧ (t = .int ∨ t = .boolean ∨ t = .byte ∨ t = .char ∨ t = .short) ∧ ∃ z, w = .int z) ∨ (i = .lreturn ∧ t = .long ∧ ∃ z, w = .long z) ∨ (i = .dreturn ∧ t = .double ∧ ∃ z, w = .double z) ∨ (i = .freturn ∧ t = .float ∧ ∃ z, w = .float z) ∨ (i = .areturn ∧ t.isReference = true ∧ w.isRef = true))
    (hd : decode c.code pc = .ok (i, 1)) (hC : cells ≤ C) (hN : slots ≤ N) (q : Q (some w) T.heap locs) : Go p.tables e below (PQ s Q C N) T (mkF m pc Ls (w :: S)) := by
  obtain ⟨fs, hr, hrun, hended, hW, hsame⟩ := X.leave (v := some w) (fun h => by rw [hret] at h; cases h) hlk
  exact ⟨_, _, retOut X hx hret hn hi hd hr, hrun, hended, _, _, rfl, q, ⟨_, rfl⟩, hW, hsame.mono hC hN⟩
theorem retI_ (X : Stand p l e R s m args below meth c T locs cells slots) (hx : p.tables.exec = Jvm.exec) {Q : Option Value → Heap → List Loc → Prop} {C N : Nat} {z : Int32} (hret : meth.sig.returnType = some .int) (hlk : meth.locks = false) (hd : decode c.code pc = .ok (.ireturn, 1)) (hC : cells ≤ C) (hN : slots ≤ N) (q : Q (some (.int z)) T.heap locs) : Go p.tables e below (PQ s Q C N) T (mkF m pc Ls (.int z :: S)) :=
  ret_ X hx hret hlk rfl (Or.inl ⟨rfl, Or.inl rfl, z, rfl⟩) hd hC hN q
theorem retA_ (X : Stand p l e R s m args below meth c T locs cells slots) (hx : p.tables.exec = Jvm.exec) {Q : Option Value → Heap → List Loc → Prop} {C N : Nat} {w : Value} {t : FieldType} (hret : meth.sig.returnType = some t) (ht : t.isReference = true) (hw : w.isRef = true) (hlk : meth.locks = false) (hd : decode c.code pc = .ok (.areturn, 1)) (hC : cells ≤ C) (hN : slots ≤ N) (q : Q (some w) T.heap locs) : Go p.tables e below (PQ s Q C N) T (mkF m pc Ls (w :: S)) :=
  ret_ X hx hret hlk (by cases t <;> first | (cases ht; done) | rfl) (Or.inr (Or.inr (Or.inr (Or.inr ⟨rfl, ht, hw⟩)))) hd hC hN q
theorem retN_ (X : Stand p l e R s m args below meth c T locs cells slots) (hx : p.tables.exec = Jvm.exec) {Q : Option Value → Heap → List Loc → Prop} {C N : Nat} {z : Int32} {t : FieldType} (hret : meth.sig.returnType = some t) (ht : t = .boolean ∨ t = .byte ∨ t = .char ∨ t = .short) (hlk : meth.locks = false) (hd : decode c.code pc = .ok (.ireturn, 1)) (hC : cells ≤ C) (hN : slots ≤ N) (q : Q (some (.int (nar t z))) T.heap locs) : Go p.tables e below (PQ s Q C N) T (mkF m pc Ls (.int z :: S)) := by
  obtain ⟨fs, hr, hrun, hended, hW, hsame⟩ := X.leave (v := some (.int (nar t z))) (fun h => by rw [hret] at h; cases h) hlk
  exact ⟨_, _, retN X hx hret ht hd hr, hrun, hended, _, _, rfl, q, ⟨_, rfl⟩, hW, hsame.mono hC hN⟩
theorem retV_ (X : Stand p l e R s m args below meth c T locs cells slots) (hx : p.tables.exec = Jvm.exec) {Q : Option Value → Heap → List Loc → Prop} {C N : Nat} (hret : meth.sig.returnType = none) (hlk : meth.locks = false) (hd : decode c.code pc = .ok (.return_, 1)) (hC : cells ≤ C) (hN : slots ≤ N) (q : Q none T.heap locs) : Go p.tables e below (PQ s Q C N) T (mkF m pc Ls []) := by
  obtain ⟨fs, hr, hrun, hended, hW, hsame⟩ := X.leave (v := none) (fun _ => rfl) hlk
  exact ⟨_, _, X.returnOut hx hret hd hr, hrun, hended, _, _, rfl, q, ⟨_, rfl⟩, hW, hsame.mono hC hN⟩
end Steps
end Jvm.OwnK
namespace Jvm.Pilot.@@N@@
open Jvm Jvm.ClassFile Sem Op Lib Jvm.Free Jvm.Stand Jvm.LawKit Jvm.RoadKit Bundle Jvm.Pilot.@@N@@.Jvm.D
theorem own_ef_7n (p1 : Int32) (p2 : Int32)  (m : MethodId) : entryFrame m #[(.int p1), (.int p2), .null] 3 = mkF m 0 #[.val (.int p1), .val (.int p2), .val .null] [] := by first | (simp [entryFrame, mkF, argsToLocals, Value.category]; done) | rfl
theorem own_d7_0 : decode jdk_41_method_11_code 0 = .ok (.iload_n 0, 1) := by decide +kernel
theorem own_d7_1 : decode jdk_41_method_11_code 1 = .ok (.ifCond .lt 8, 3) := by decide +kernel
theorem own_d7_4 : decode jdk_41_method_11_code 4 = .ok (.iload_n 0, 1) := by decide +kernel
theorem own_d7_5 : decode jdk_41_method_11_code 5 = .ok (.iload_n 1, 1) := by decide +kernel
theorem own_d7_6 : decode jdk_41_method_11_code 6 = .ok (.if_icmp .lt 10, 3) := by decide +kernel
theorem own_d7_16 : decode jdk_41_method_11_code 16 = .ok (.iload_n 0, 1) := by decide +kernel
theorem own_d7_17 : decode jdk_41_method_11_code 17 = .ok (.ireturn, 1) := by decide +kernel
theorem own_pl_7 : plainFor (⟨"jdk/internal/util/Preconditions", "checkIndex", "(IILjava/util/function/BiFunction;)I"⟩ : MethodName) = true := plainFor_of_name (by first | (simp [plainName, overriddenIn]; done) | decide +kernel)
theorem own_ef_6 (p1 : Int32) (p2 : Int32)  (m : MethodId) : entryFrame m #[(.int p1), (.int p2)] 2 = mkF m 0 #[.val (.int p1), .val (.int p2)] [] := by first | (simp [entryFrame, mkF, argsToLocals, Value.category]; done) | rfl
theorem own_d6_0 : decode jdk_31_method_17_code 0 = .ok (.iload_n 0, 1) := by decide +kernel
theorem own_d6_1 : decode jdk_31_method_17_code 1 = .ok (.iload_n 1, 1) := by decide +kernel
theorem own_d6_2 : decode jdk_31_method_17_code 2 = .ok (.aconst_null, 1) := by decide +kernel
theorem own_d6_3 : decode jdk_31_method_17_code 3 = .ok (.invokestatic 105, 3) := by decide +kernel
theorem own_pd_8 : parseMethodDescriptor "(IILjava/util/function/BiFunction;)I" = some ⟨[.int, .int, (.object "java/util/function/BiFunction")], some .int⟩ := by decide +kernel
theorem own_d6_6 : decode jdk_31_method_17_code 6 = .ok (.ireturn, 1) := by decide +kernel
theorem own_pl_6 : plainFor (⟨"java/util/Objects", "checkIndex", "(II)I"⟩ : MethodName) = true := plainFor_of_name (by first | (simp [plainName, overriddenIn]; done) | decide +kernel)
theorem own_ef_1 (p1 : Addr)  (m : MethodId) : entryFrame m #[(.ref p1)] 1 = mkF m 0 #[.val (.ref p1)] [] := by first | (simp [entryFrame, mkF, argsToLocals, Value.category]; done) | rfl
theorem own_d1_0 : decode prog_9_method_1_code 0 = .ok (.aload_n 0, 1) := by decide +kernel
theorem own_d1_1 : decode prog_9_method_1_code 1 = .ok (.invokespecial 3, 3) := by decide +kernel
theorem own_d1_4 : decode prog_9_method_1_code 4 = .ok (.aload_n 0, 1) := by decide +kernel
theorem own_d1_5 : decode prog_9_method_1_code 5 = .ok (.iconst 1, 1) := by decide +kernel
theorem own_d1_6 : decode prog_9_method_1_code 6 = .ok (.anewarray 9, 3) := by decide +kernel
theorem own_d1_9 : decode prog_9_method_1_code 9 = .ok (.dup, 1) := by decide +kernel
theorem own_d1_10 : decode prog_9_method_1_code 10 = .ok (.iconst 0, 1) := by decide +kernel
theorem own_d1_11 : decode prog_9_method_1_code 11 = .ok (.bipush 16, 2) := by decide +kernel
theorem own_d1_13 : decode prog_9_method_1_code 13 = .ok (.newarray .int, 2) := by decide +kernel
theorem own_d1_15 : decode prog_9_method_1_code 15 = .ok (.aastore, 1) := by decide +kernel
theorem own_d1_16 : decode prog_9_method_1_code 16 = .ok (.putfield 11, 3) := by decide +kernel
theorem own_d1_19 : decode prog_9_method_1_code 19 = .ok (.return_, 1) := by decide +kernel
theorem own_pl_1 : plainFor (⟨"com/example/strict_reach/strictreach/IntList", "<init>", "()V"⟩ : MethodName) = true := plainFor_of_name (by first | (simp [plainName, overriddenIn]; done) | decide +kernel)
theorem own_ef_4 (p1 : Addr)  (m : MethodId) : entryFrame m #[(.ref p1)] 3 = mkF m 0 #[.val (.ref p1), .unset, .unset] [] := by first | (simp [entryFrame, mkF, argsToLocals, Value.category]; done) | rfl
theorem own_d4_0 : decode prog_9_method_9_code 0 = .ok (.aload_n 0, 1) := by decide +kernel
theorem own_d4_1 : decode prog_9_method_9_code 1 = .ok (.getfield 19, 3) := by decide +kernel
theorem own_d4_4 : decode prog_9_method_9_code 4 = .ok (.ldc 42, 2) := by decide +kernel
theorem own_d4_6 : decode prog_9_method_9_code 6 = .ok (.if_icmp .ne 13, 3) := by decide +kernel
theorem own_d4_19 : decode prog_9_method_9_code 19 = .ok (.aload_n 0, 1) := by decide +kernel
theorem own_d4_20 : decode prog_9_method_9_code 20 = .ok (.getfield 19, 3) := by decide +kernel
theorem own_d4_23 : decode prog_9_method_9_code 23 = .ok (.bipush 12, 2) := by decide +kernel
theorem own_d4_25 : decode prog_9_method_9_code 25 = .ok (.iushr, 1) := by decide +kernel
theorem own_d4_26 : decode prog_9_method_9_code 26 = .ok (.istore_n 1, 1) := by decide +kernel
theorem own_d4_27 : decode prog_9_method_9_code 27 = .ok (.iload_n 1, 1) := by decide +kernel
theorem own_d4_28 : decode prog_9_method_9_code 28 = .ok (.aload_n 0, 1) := by decide +kernel
theorem own_d4_29 : decode prog_9_method_9_code 29 = .ok (.getfield 11, 3) := by decide +kernel
theorem own_d4_32 : decode prog_9_method_9_code 32 = .ok (.arraylength, 1) := by decide +kernel
theorem own_d4_33 : decode prog_9_method_9_code 33 = .ok (.if_icmp .ne 24, 3) := by decide +kernel
theorem own_d4_57 : decode prog_9_method_9_code 57 = .ok (.aload_n 0, 1) := by decide +kernel
theorem own_d4_58 : decode prog_9_method_9_code 58 = .ok (.getfield 11, 3) := by decide +kernel
theorem own_d4_61 : decode prog_9_method_9_code 61 = .ok (.iload_n 1, 1) := by decide +kernel
theorem own_d4_62 : decode prog_9_method_9_code 62 = .ok (.aaload, 1) := by decide +kernel
theorem own_d4_63 : decode prog_9_method_9_code 63 = .ok (.astore_n 2, 1) := by decide +kernel
theorem own_d4_64 : decode prog_9_method_9_code 64 = .ok (.aload_n 2, 1) := by decide +kernel
theorem own_d4_65 : decode prog_9_method_9_code 65 = .ok (.ifnonnull 19, 3) := by decide +kernel
theorem own_d4_84 : decode prog_9_method_9_code 84 = .ok (.aload_n 0, 1) := by decide +kernel
theorem own_d4_85 : decode prog_9_method_9_code 85 = .ok (.getfield 19, 3) := by decide +kernel
theorem own_d4_88 : decode prog_9_method_9_code 88 = .ok (.sipush 4095, 3) := by decide +kernel
theorem own_d4_91 : decode prog_9_method_9_code 91 = .ok (.iand, 1) := by decide +kernel
theorem own_d4_92 : decode prog_9_method_9_code 92 = .ok (.aload_n 2, 1) := by decide +kernel
theorem own_d4_93 : decode prog_9_method_9_code 93 = .ok (.arraylength, 1) := by decide +kernel
theorem own_d4_94 : decode prog_9_method_9_code 94 = .ok (.if_icmp .ne 19, 3) := by decide +kernel
theorem own_d4_113 : decode prog_9_method_9_code 113 = .ok (.aload_n 2, 1) := by decide +kernel
theorem own_d4_114 : decode prog_9_method_9_code 114 = .ok (.areturn, 1) := by decide +kernel
theorem own_pl_4 : plainFor (⟨"com/example/strict_reach/strictreach/IntList", "room", "()[I"⟩ : MethodName) = true := plainFor_of_name (by first | (simp [plainName, overriddenIn]; done) | decide +kernel)
theorem own_ef_3 (p1 : Addr) (p2 : Int32)  (m : MethodId) : entryFrame m #[(.ref p1), (.int p2)] 2 = mkF m 0 #[.val (.ref p1), .val (.int p2)] [] := by first | (simp [entryFrame, mkF, argsToLocals, Value.category]; done) | rfl
theorem own_d3_0 : decode prog_9_method_2_code 0 = .ok (.aload_n 0, 1) := by decide +kernel
theorem own_d3_1 : decode prog_9_method_2_code 1 = .ok (.invokevirtual 15, 3) := by decide +kernel
theorem own_pd_2 : parseMethodDescriptor "()[I" = some ⟨[], some (.array .int)⟩ := by decide +kernel
theorem own_d3_4 : decode prog_9_method_2_code 4 = .ok (.aload_n 0, 1) := by decide +kernel
theorem own_d3_5 : decode prog_9_method_2_code 5 = .ok (.getfield 19, 3) := by decide +kernel
theorem own_d3_8 : decode prog_9_method_2_code 8 = .ok (.sipush 4095, 3) := by decide +kernel
theorem own_d3_11 : decode prog_9_method_2_code 11 = .ok (.iand, 1) := by decide +kernel
theorem own_d3_12 : decode prog_9_method_2_code 12 = .ok (.iload_n 1, 1) := by decide +kernel
theorem own_d3_13 : decode prog_9_method_2_code 13 = .ok (.iastore, 1) := by decide +kernel
theorem own_d3_14 : decode prog_9_method_2_code 14 = .ok (.aload_n 0, 1) := by decide +kernel
theorem own_d3_15 : decode prog_9_method_2_code 15 = .ok (.dup, 1) := by decide +kernel
theorem own_d3_16 : decode prog_9_method_2_code 16 = .ok (.getfield 19, 3) := by decide +kernel
theorem own_d3_19 : decode prog_9_method_2_code 19 = .ok (.iconst 1, 1) := by decide +kernel
theorem own_d3_20 : decode prog_9_method_2_code 20 = .ok (.iadd, 1) := by decide +kernel
theorem own_d3_21 : decode prog_9_method_2_code 21 = .ok (.putfield 19, 3) := by decide +kernel
theorem own_d3_24 : decode prog_9_method_2_code 24 = .ok (.return_, 1) := by decide +kernel
theorem own_pl_3 : plainFor (⟨"com/example/strict_reach/strictreach/IntList", "add", "(I)V"⟩ : MethodName) = true := plainFor_of_name (by first | (simp [plainName, overriddenIn]; done) | decide +kernel)
theorem own_ef_8 (p1 : Addr)  (m : MethodId) : entryFrame m #[(.ref p1)] 1 = mkF m 0 #[.val (.ref p1)] [] := by first | (simp [entryFrame, mkF, argsToLocals, Value.category]; done) | rfl
theorem own_d8_0 : decode prog_9_method_6_code 0 = .ok (.aload_n 0, 1) := by decide +kernel
theorem own_d8_1 : decode prog_9_method_6_code 1 = .ok (.getfield 19, 3) := by decide +kernel
theorem own_d8_4 : decode prog_9_method_6_code 4 = .ok (.ireturn, 1) := by decide +kernel
theorem own_pl_8 : plainFor (⟨"com/example/strict_reach/strictreach/IntList", "size", "()I"⟩ : MethodName) = true := plainFor_of_name (by first | (simp [plainName, overriddenIn]; done) | decide +kernel)
theorem own_ef_9 (p1 : Addr) (p2 : Int32)  (m : MethodId) : entryFrame m #[(.ref p1), (.int p2)] 2 = mkF m 0 #[.val (.ref p1), .val (.int p2)] [] := by first | (simp [entryFrame, mkF, argsToLocals, Value.category]; done) | rfl
theorem own_d9_0 : decode prog_9_method_4_code 0 = .ok (.iload_n 1, 1) := by decide +kernel
theorem own_d9_1 : decode prog_9_method_4_code 1 = .ok (.aload_n 0, 1) := by decide +kernel
theorem own_d9_2 : decode prog_9_method_4_code 2 = .ok (.getfield 19, 3) := by decide +kernel
theorem own_d9_5 : decode prog_9_method_4_code 5 = .ok (.invokestatic 35, 3) := by decide +kernel
theorem own_pd_5 : parseMethodDescriptor "(II)I" = some ⟨[.int, .int], some .int⟩ := by decide +kernel
theorem own_d9_8 : decode prog_9_method_4_code 8 = .ok (.pop, 1) := by decide +kernel
theorem own_d9_9 : decode prog_9_method_4_code 9 = .ok (.aload_n 0, 1) := by decide +kernel
theorem own_d9_10 : decode prog_9_method_4_code 10 = .ok (.getfield 11, 3) := by decide +kernel
theorem own_d9_13 : decode prog_9_method_4_code 13 = .ok (.iload_n 1, 1) := by decide +kernel
theorem own_d9_14 : decode prog_9_method_4_code 14 = .ok (.bipush 12, 2) := by decide +kernel
theorem own_d9_16 : decode prog_9_method_4_code 16 = .ok (.iushr, 1) := by decide +kernel
theorem own_d9_17 : decode prog_9_method_4_code 17 = .ok (.aaload, 1) := by decide +kernel
theorem own_d9_18 : decode prog_9_method_4_code 18 = .ok (.iload_n 1, 1) := by decide +kernel
theorem own_d9_19 : decode prog_9_method_4_code 19 = .ok (.sipush 4095, 3) := by decide +kernel
theorem own_d9_22 : decode prog_9_method_4_code 22 = .ok (.iand, 1) := by decide +kernel
theorem own_d9_23 : decode prog_9_method_4_code 23 = .ok (.iaload, 1) := by decide +kernel
theorem own_d9_24 : decode prog_9_method_4_code 24 = .ok (.ireturn, 1) := by decide +kernel
theorem own_pl_9 : plainFor (⟨"com/example/strict_reach/strictreach/IntList", "get", "(I)I"⟩ : MethodName) = true := plainFor_of_name (by first | (simp [plainName, overriddenIn]; done) | decide +kernel)
theorem own_ef_5 (p1 : Addr) (p2 : Int32) (p3 : Int32)  (m : MethodId) : entryFrame m #[(.ref p1), (.int p2), (.int p3)] 3 = mkF m 0 #[.val (.ref p1), .val (.int p2), .val (.int p3)] [] := by first | (simp [entryFrame, mkF, argsToLocals, Value.category]; done) | rfl
theorem own_d5_0 : decode prog_9_method_5_code 0 = .ok (.iload_n 1, 1) := by decide +kernel
theorem own_d5_1 : decode prog_9_method_5_code 1 = .ok (.aload_n 0, 1) := by decide +kernel
theorem own_d5_2 : decode prog_9_method_5_code 2 = .ok (.getfield 19, 3) := by decide +kernel
theorem own_d5_5 : decode prog_9_method_5_code 5 = .ok (.invokestatic 35, 3) := by decide +kernel
theorem own_d5_8 : decode prog_9_method_5_code 8 = .ok (.pop, 1) := by decide +kernel
theorem own_d5_9 : decode prog_9_method_5_code 9 = .ok (.aload_n 0, 1) := by decide +kernel
theorem own_d5_10 : decode prog_9_method_5_code 10 = .ok (.getfield 11, 3) := by decide +kernel
theorem own_d5_13 : decode prog_9_method_5_code 13 = .ok (.iload_n 1, 1) := by decide +kernel
theorem own_d5_14 : decode prog_9_method_5_code 14 = .ok (.bipush 12, 2) := by decide +kernel
theorem own_d5_16 : decode prog_9_method_5_code 16 = .ok (.iushr, 1) := by decide +kernel
theorem own_d5_17 : decode prog_9_method_5_code 17 = .ok (.aaload, 1) := by decide +kernel
theorem own_d5_18 : decode prog_9_method_5_code 18 = .ok (.iload_n 1, 1) := by decide +kernel
theorem own_d5_19 : decode prog_9_method_5_code 19 = .ok (.sipush 4095, 3) := by decide +kernel
theorem own_d5_22 : decode prog_9_method_5_code 22 = .ok (.iand, 1) := by decide +kernel
theorem own_d5_23 : decode prog_9_method_5_code 23 = .ok (.iload_n 2, 1) := by decide +kernel
theorem own_d5_24 : decode prog_9_method_5_code 24 = .ok (.iastore, 1) := by decide +kernel
theorem own_d5_25 : decode prog_9_method_5_code 25 = .ok (.return_, 1) := by decide +kernel
theorem own_pl_5 : plainFor (⟨"com/example/strict_reach/strictreach/IntList", "set", "(II)V"⟩ : MethodName) = true := plainFor_of_name (by first | (simp [plainName, overriddenIn]; done) | decide +kernel)
theorem own_ef_10 (p1 : Int32) (p2 : Int32) (p3 : Int32) (p4 : Addr)  (m : MethodId) : entryFrame m #[(.int p1), (.int p2), (.int p3), (.ref p4)] 4 = mkF m 0 #[.val (.int p1), .val (.int p2), .val (.int p3), .val (.ref p4)] [] := by first | (simp [entryFrame, mkF, argsToLocals, Value.category]; done) | rfl
theorem own_d10_0 : decode method_2_code 0 = .ok (.iload_n 0, 1) := by decide +kernel
theorem own_d10_1 : decode method_2_code 1 = .ok (.iload_n 1, 1) := by decide +kernel
theorem own_d10_2 : decode method_2_code 2 = .ok (.if_icmp .ne 5, 3) := by decide +kernel
theorem own_d10_7 : decode method_2_code 7 = .ok (.aload_n 3, 1) := by decide +kernel
theorem own_d10_8 : decode method_2_code 8 = .ok (.iload_n 0, 1) := by decide +kernel
theorem own_d10_9 : decode method_2_code 9 = .ok (.iaload, 1) := by decide +kernel
theorem own_d10_10 : decode method_2_code 10 = .ok (.ireturn, 1) := by decide +kernel
theorem own_d10_5 : decode method_2_code 5 = .ok (.iload_n 2, 1) := by decide +kernel
theorem own_d10_6 : decode method_2_code 6 = .ok (.ireturn, 1) := by decide +kernel
theorem own_pl_10 : plainFor (⟨"com/example/strict_reach/strictreach/IntListSetPinLaw", "expect", "(III[I)I"⟩ : MethodName) = true := plainFor_of_name (by first | (simp [plainName, overriddenIn]; done) | decide +kernel)
theorem own_ef_0 (p0 : Int32) (p1 : Int32) (p2 : Int32) (p3 : Int32) (p4 : Int32)  (m : MethodId) : entryFrame m #[(.int p0), (.int p1), (.int p2), (.int p3), (.int p4)] maxLocals = mkF m 0 #[.val (.int p0), .val (.int p1), .val (.int p2), .val (.int p3), .val (.int p4), .unset, .unset, .unset, .unset, .unset] [] := by first | (simp [entryFrame, mkF, argsToLocals, Value.category, maxLocals]; done) | rfl
theorem own_pd_1 : parseMethodDescriptor "()V" = some ⟨[], none⟩ := by decide +kernel
theorem own_pd_4 : parseMethodDescriptor "(I)V" = some ⟨[.int], none⟩ := by decide +kernel
theorem own_pd_6 : parseMethodDescriptor "(II)V" = some ⟨[.int, .int], none⟩ := by decide +kernel
theorem own_pd_0 : parseMethodDescriptor "()I" = some ⟨[], some .int⟩ := by decide +kernel
theorem own_pd_3 : parseMethodDescriptor "(I)I" = some ⟨[.int], some .int⟩ := by decide +kernel
theorem own_pd_7 : parseMethodDescriptor "(III[I)I" = some ⟨[.int, .int, .int, (.array .int)], some .int⟩ := by decide +kernel
theorem own_pl_0 : plainFor x = true := plainFor_of_name (by first | (simp [plainName, overriddenIn]; done) | decide +kernel)
def own_IL (Z : State) (h : Heap) (a B K : Addr) (kB kK : ClassId) (sz cap : Int32) (vs : List Value) : Prop := Exa Z h a "com/example/strict_reach/strictreach/IntList" ∧ Fld Z h a "com/example/strict_reach/strictreach/IntList" "size" "I" (.int sz) ∧ Fld Z h a "com/example/strict_reach/strictreach/IntList" "blocks" "[[I" (.ref B) ∧ Arv Z h B kB (.array .int) (1 : Int32) [.ref K] .null ∧ Arv Z h K kK .int cap vs (.int (0 : Int32)) ∧ Exa Z h B "[[I" ∧ Exa Z h K "[I" ∧ OvrA Z kB .int "[I" ∧ a ≠ B ∧ a ≠ K ∧ B ≠ K
theorem own_sh {x : Int32} (h0 : 0 ≤ x.toInt) (h1 : x.toInt < 4096) : XT.ushr x (12 : Int32) = 0 := by
  have e : (XT.ushr x (12 : Int32)).toInt = x.toInt / 2 ^ 12 := Jvm.Kit.i32_iushr (Jvm.Kit.i32_nonneg.mpr h0) (n := ((12 : Int32) &&& 31).toUInt32) (k := 12) (by decide) (by decide)
  refine Int32.toInt_inj.mp ?_
  rw [e]
  show x.toInt / 4096 = 0
  omega
theorem own_an {x : Int32} (h0 : 0 ≤ x.toInt) (h1 : x.toInt < 4096) : (x &&& (4095 : Int32)) = x := by
  refine Int32.toInt_inj.mp ?_
  rw [Jvm.Kit.i32_mask x 4095 (k := 12) (by decide) (by decide)]
  omega
theorem own_inc {x : Int32} (h0 : 0 ≤ x.toInt) (h1 : x.toInt < 4096) : (x + (1 : Int32)).toInt = x.toInt + 1 := XT.add32 (y := 1) (by show XT.fits32 (x.toInt + 1); unfold XT.fits32; omega)
theorem own_n (x : Int32) : ((1 : Int32) + (x &&& (3 : Int32))) = 1 ∨ ((1 : Int32) + (x &&& (3 : Int32))) = 2 ∨ ((1 : Int32) + (x &&& (3 : Int32))) = 3 ∨ ((1 : Int32) + (x &&& (3 : Int32))) = 4 := by
  have h := Jvm.Kit.i32_mask x 3 (k := 2) (by decide) (by decide)
  have q : (x &&& (3 : Int32)).toInt = 0 ∨ (x &&& (3 : Int32)).toInt = 1 ∨ (x &&& (3 : Int32)).toInt = 2 ∨ (x &&& (3 : Int32)).toInt = 3 := by omega
  rcases q with q | q | q | q
  · exact Or.inl (by rw [show (x &&& (3 : Int32)) = 0 from Int32.toInt_inj.mp (by rw [q]; decide)]; decide)
  · exact Or.inr (Or.inl (by rw [show (x &&& (3 : Int32)) = 1 from Int32.toInt_inj.mp (by rw [q]; decide)]; decide))
  · exact Or.inr (Or.inr (Or.inl (by rw [show (x &&& (3 : Int32)) = 2 from Int32.toInt_inj.mp (by rw [q]; decide)]; decide)))
  · exact Or.inr (Or.inr (Or.inr (by rw [show (x &&& (3 : Int32)) = 3 from Int32.toInt_inj.mp (by rw [q]; decide)]; decide)))
theorem own_imod (x n : Int32) (k : Int) (hk : n.toInt = k) (hp : 0 < k) : 0 ≤ ((x &&& (2147483647 : Int32)) % n).toInt ∧ ((x &&& (2147483647 : Int32)) % n).toInt < k := by
  have h := Jvm.Kit.i32_mask x 2147483647 (k := 31) (by decide) (by decide)
  have e := Jvm.Kit.i32_rem_nonneg (x := x &&& 2147483647) (y := n) (by omega)
  rw [hk] at e
  rw [e]
  exact ⟨Int.emod_nonneg _ (by omega), Int.emod_lt_of_pos _ hp⟩
theorem own_i1 (x : Int32) : ((x &&& (2147483647 : Int32)) % (1 : Int32)) = 0 := by
  have h := own_imod x 1 1 (by decide) (by decide)
  have q : ((x &&& (2147483647 : Int32)) % (1 : Int32)).toInt = 0 := by omega
  rcases q with q
  · exact Int32.toInt_inj.mp (by rw [q]; decide)
theorem own_i2 (x : Int32) : ((x &&& (2147483647 : Int32)) % (2 : Int32)) = 0 ∨ ((x &&& (2147483647 : Int32)) % (2 : Int32)) = 1 := by
  have h := own_imod x 2 2 (by decide) (by decide)
  have q : ((x &&& (2147483647 : Int32)) % (2 : Int32)).toInt = 0 ∨ ((x &&& (2147483647 : Int32)) % (2 : Int32)).toInt = 1 := by omega
  rcases q with q | q
  · exact Or.inl (Int32.toInt_inj.mp (by rw [q]; decide))
  · exact Or.inr (Int32.toInt_inj.mp (by rw [q]; decide))
theorem own_i3 (x : Int32) : ((x &&& (2147483647 : Int32)) % (3 : Int32)) = 0 ∨ ((x &&& (2147483647 : Int32)) % (3 : Int32)) = 1 ∨ ((x &&& (2147483647 : Int32)) % (3 : Int32)) = 2 := by
  have h := own_imod x 3 3 (by decide) (by decide)
  have q : ((x &&& (2147483647 : Int32)) % (3 : Int32)).toInt = 0 ∨ ((x &&& (2147483647 : Int32)) % (3 : Int32)).toInt = 1 ∨ ((x &&& (2147483647 : Int32)) % (3 : Int32)).toInt = 2 := by omega
  rcases q with q | q | q
  · exact Or.inl (Int32.toInt_inj.mp (by rw [q]; decide))
  · exact Or.inr (Or.inl (Int32.toInt_inj.mp (by rw [q]; decide)))
  · exact Or.inr (Or.inr (Int32.toInt_inj.mp (by rw [q]; decide)))
theorem own_i4 (x : Int32) : ((x &&& (2147483647 : Int32)) % (4 : Int32)) = 0 ∨ ((x &&& (2147483647 : Int32)) % (4 : Int32)) = 1 ∨ ((x &&& (2147483647 : Int32)) % (4 : Int32)) = 2 ∨ ((x &&& (2147483647 : Int32)) % (4 : Int32)) = 3 := by
  have h := own_imod x 4 4 (by decide) (by decide)
  have q : ((x &&& (2147483647 : Int32)) % (4 : Int32)).toInt = 0 ∨ ((x &&& (2147483647 : Int32)) % (4 : Int32)).toInt = 1 ∨ ((x &&& (2147483647 : Int32)) % (4 : Int32)).toInt = 2 ∨ ((x &&& (2147483647 : Int32)) % (4 : Int32)).toInt = 3 := by omega
  rcases q with q | q | q | q
  · exact Or.inl (Int32.toInt_inj.mp (by rw [q]; decide))
  · exact Or.inr (Or.inl (Int32.toInt_inj.mp (by rw [q]; decide)))
  · exact Or.inr (Or.inr (Or.inl (Int32.toInt_inj.mp (by rw [q]; decide))))
  · exact Or.inr (Or.inr (Or.inr (Int32.toInt_inj.mp (by rw [q]; decide))))

def own_Qmet7 (h0 : Heap) (p1 : Int32) (p2 : Int32) (v : Option Value) (h : Heap) (L : List Loc) : Prop := v = some (.int p1) ∧ h = h0 ∧ L = []
set_option maxRecDepth 65536 in
set_option maxHeartbeats 40000000 in
theorem own_met7 (l : Launch) (Z : State) (a0 : Array Value) (hw : ∀ d ∈ tables_1, d.before a0 Z = true) (h0 : Heap) (p1 : Int32) (p2 : Int32)  (h0_ : 0 ≤ p1.toInt) (h1_ : p1.toInt < p2.toInt) :
    MetFree l (⟨"jdk/internal/util/Preconditions", "checkIndex", "(IILjava/util/function/BiFunction;)I"⟩ : MethodName) (head1 [Jvm.Cond.code (⟨"jdk/internal/util/Preconditions", "checkIndex", "(IILjava/util/function/BiFunction;)I"⟩ : MethodName) jdk_41_method_11_code 3 (some .int)] ({ frames := 0, cells := 0, slots := 0, locals := 0 } : Room)) (fun a U => a = #[(.int p1), (.int p2), .null] ∧ Z.Warmed39 U.vm ∧ U.heap = h0) (fun _ _ _ _ _ => True) (fun _ U o U' => ∃ v L, o = .returned v ∧ (own_Qmet7 h0 p1 p2 ) v U'.heap L ∧ FrameEnd U o U' L ({ frames := 0, cells := 0, slots := 0, locals := 0 } : Room).cells ({ frames := 0, cells := 0, slots := 0, locals := 0 } : Room).slots) := by
  refine OwnK.met (Q := (own_Qmet7 h0 p1 p2 )) (C := ({ frames := 0, cells := 0, slots := 0, locals := 0 } : Room).cells) (N := ({ frames := 0, cells := 0, slots := 0, locals := 0 } : Room).slots) own_pl_7 (own_ef_7n p1 p2) ?_
  intro p e s m below meth c T0 X0 hx hZ hby hml hown hnm hret hlk e0
  refine OwnK.iloadN X0 hx (hb hby own_d7_0) (pc' := 1) rfl (v := p1) rfl ?_
  refine OwnK.if_lt X0 hx (hb hby own_d7_1) (by decide) (pcT := 9) (by decide) (pc' := 4) rfl (fun (hc1 : p1.toInt < 0) => by omega) (fun hc1 => ?_)
  refine OwnK.iloadN X0 hx (hb hby own_d7_4) (pc' := 5) rfl (v := p1) rfl ?_
  refine OwnK.iloadN X0 hx (hb hby own_d7_5) (pc' := 6) rfl (v := p2) rfl ?_
  refine OwnK.icmp_lt X0 hx (hb hby own_d7_6) (by decide) (pcT := 16) (by decide) (pc' := 9) rfl (fun hc6 => ?_) (fun (hc6 : p2.toInt ≤ p1.toInt) => by omega)
  refine OwnK.iloadN X0 hx (hb hby own_d7_16) (pc' := 17) rfl (v := p1) rfl ?_
  refine OwnK.retI_ X0 hx hret hlk (hb hby own_d7_17) (by decide) (by decide) ?_
  exact ⟨by rfl, e0, rfl⟩
def own_Qmet6 (h0 : Heap) (p1 : Int32) (p2 : Int32) (v : Option Value) (h : Heap) (L : List Loc) : Prop := v = some (.int p1) ∧ h = h0 ∧ L = []
set_option maxRecDepth 65536 in
set_option maxHeartbeats 40000000 in
theorem own_met6 (l : Launch) (Z : State) (a0 : Array Value) (hw : ∀ d ∈ tables_1, d.before a0 Z = true) (h0 : Heap) (p1 : Int32) (p2 : Int32)  (h0_ : 0 ≤ p1.toInt) (h1_ : p1.toInt < p2.toInt) :
    MetFree l (⟨"java/util/Objects", "checkIndex", "(II)I"⟩ : MethodName) (head1 [Jvm.Cond.code (⟨"java/util/Objects", "checkIndex", "(II)I"⟩ : MethodName) jdk_31_method_17_code 2 (some .int)] ({ frames := 1, cells := 0, slots := 0, locals := 14 } : Room)) (fun a U => a = #[(.int p1), (.int p2)] ∧ Z.Warmed39 U.vm ∧ U.heap = h0) (fun _ _ _ _ _ => True) (fun _ U o U' => ∃ v L, o = .returned v ∧ (own_Qmet6 h0 p1 p2 ) v U'.heap L ∧ FrameEnd U o U' L ({ frames := 1, cells := 0, slots := 0, locals := 14 } : Room).cells ({ frames := 1, cells := 0, slots := 0, locals := 14 } : Room).slots) := by
  refine OwnK.met (Q := (own_Qmet6 h0 p1 p2 )) (C := ({ frames := 1, cells := 0, slots := 0, locals := 14 } : Room).cells) (N := ({ frames := 1, cells := 0, slots := 0, locals := 14 } : Room).slots) own_pl_6 (own_ef_6 p1 p2) ?_
  intro p e s m below meth c T0 X0 hx hZ hby hml hown hnm hret hlk e0
  refine OwnK.iloadN X0 hx (hb hby own_d6_0) (pc' := 1) rfl (v := p1) rfl ?_
  refine OwnK.iloadN X0 hx (hb hby own_d6_1) (pc' := 2) rfl (v := p2) rfl ?_
  refine OwnK.aconstNull X0 hx (hb hby own_d6_2) (pc' := 3) rfl ?_
  refine OwnK.callS_ X0 hx hZ hown (y := (⟨"jdk/internal/util/Preconditions", "checkIndex", "(IILjava/util/function/BiFunction;)I"⟩ : MethodName)) (hw _ (List.mem_of_getElem? (i := 37) rfl)) (hw _ (List.mem_of_getElem? (i := 38) rfl)) (hw _ (List.mem_of_getElem? (i := 39) rfl)) (hw _ (List.mem_of_getElem? (i := 40) rfl)) (by decide) (own_met7 l Z a0 hw h0 p1 p2 h0_ h1_ ) (by decide) (W := 0) (by decide) e0 (by rw [hml]; rfl) own_pd_8 (argsL := [(.int p1), (.int p2), .null]) rfl (S := []) rfl (Nat.le_of_eq rfl) (hb hby own_d6_3) (pc' := 6) rfl (by decide) (by decide) (fun T1 v1 L1 X1 hQ1 => ?_)
  obtain ⟨rfl, e1, rfl⟩ := hQ1
  refine OwnK.retI_ X1 hx hret hlk (hb hby own_d6_6) (by decide) (by decide) ?_
  exact ⟨by rfl, e1, rfl⟩
def own_Qmet1 (Z : State) (h0 : Heap) (n0 : Nat) (p1 : Addr) (v : Option Value) (h : Heap) (L : List Loc) : Prop := ∃ B K kB kK, v = none ∧ Fr n0 L ∧ Keep h0 h [p1] ∧ h0.size ≤ B ∧ h0.size ≤ K ∧ own_IL Z h p1 B K kB kK (0 : Int32) (16 : Int32) [(.int (0 : Int32)), (.int (0 : Int32)), (.int (0 : Int32)), (.int (0 : Int32)), (.int (0 : Int32)), (.int (0 : Int32)), (.int (0 : Int32)), (.int (0 : Int32)), (.int (0 : Int32)), (.int (0 : Int32)), (.int (0 : Int32)), (.int (0 : Int32)), (.int (0 : Int32)), (.int (0 : Int32)), (.int (0 : Int32)), (.int (0 : Int32))]
set_option maxRecDepth 65536 in
set_option maxHeartbeats 40000000 in
theorem own_met1 (l : Launch) (Z : State) (a0 : Array Value) (hw : ∀ d ∈ tables_1, d.before a0 Z = true) (h0 : Heap) (n0 : Nat) (Z0 : n0 ≤ h0.size) (p1 : Addr)  (ge_p1 : n0 ≤ p1) (F0 : Fld Z h0 p1 "com/example/strict_reach/strictreach/IntList" "blocks" "[[I" .null) (F1 : Fld Z h0 p1 "com/example/strict_reach/strictreach/IntList" "size" "I" (.int (0 : Int32))) (E0 : Exa Z h0 p1 "com/example/strict_reach/strictreach/IntList") :
    MetFree l (⟨"com/example/strict_reach/strictreach/IntList", "<init>", "()V"⟩ : MethodName) (head1 [Jvm.Cond.code (⟨"com/example/strict_reach/strictreach/IntList", "<init>", "()V"⟩ : MethodName) prog_9_method_1_code 1 none] ({ frames := 1, cells := 2, slots := 17, locals := 12 } : Room)) (fun a U => a = #[(.ref p1)] ∧ Z.Warmed39 U.vm ∧ U.heap = h0) (fun _ _ _ _ _ => True) (fun _ U o U' => ∃ v L, o = .returned v ∧ (own_Qmet1 Z h0 n0 p1 ) v U'.heap L ∧ FrameEnd U o U' L ({ frames := 1, cells := 2, slots := 17, locals := 12 } : Room).cells ({ frames := 1, cells := 2, slots := 17, locals := 12 } : Room).slots) := by
  refine OwnK.met (Q := (own_Qmet1 Z h0 n0 p1 )) (C := ({ frames := 1, cells := 2, slots := 17, locals := 12 } : Room).cells) (N := ({ frames := 1, cells := 2, slots := 17, locals := 12 } : Room).slots) own_pl_1 (own_ef_1 p1) ?_
  intro p e s m below meth c T0 X0 hx hZ hby hml hown hnm hret hlk e0
  have N0 := Fr.nil n0
  have K0 := Keep.refl h0 [p1]
  refine OwnK.aloadN X0 hx (hb hby own_d1_0) (pc' := 1) rfl (v := (.ref p1)) rfl rfl ?_
  refine OwnK.initO_ X0 hx hZ hown (hw _ (List.mem_of_getElem? (i := 7) rfl)) (hw _ (List.mem_of_getElem? (i := 8) rfl)) (hw _ (List.mem_of_getElem? (i := 9) rfl)) e0 (by rw [hml]; rfl) (hb hby own_d1_1) (pc' := 4) rfl (by decide) (W := 0) (Nat.le_of_eq rfl) (by decide) (fun T1 X1 e1 => ?_)
  refine OwnK.aloadN X1 hx (hb hby own_d1_4) (pc' := 5) rfl (v := (.ref p1)) rfl rfl ?_
  refine OwnK.iconst X1 hx (hb hby own_d1_5) (pc' := 6) rfl (v := (1 : Int32)) (by decide) ?_
  refine OwnK.newRA_ X1 hx hZ hown (ty := .int) (by decide) (hw _ (List.mem_of_getElem? (i := 10) rfl)) (hw _ (List.mem_of_getElem? (i := 11) rfl)) e1 (hb hby own_d1_6) (pc' := 9) rfl (n := (1 : Int32)) (by decide) (cap := 1) (by decide) (by decide) (by decide) (by decide) (ad := "[[I") (by decide) (fun T2 h2 a2 k2 X2 e2 g2 E2 V2 Q2 O2 => ?_)
  have q3 : p1 ≠ a2 := Nat.ne_of_lt (Nat.lt_of_lt_of_le F0.lt (Nat.le_of_eq g2.symm))
  have ge_a2 : n0 ≤ a2 := Nat.le_trans Z0 (Nat.le_of_eq g2.symm)
  have sz_a2 : h0.size ≤ a2 := Nat.le_trans K0.1 (Nat.le_of_eq g2.symm)
  have z4 : n0 ≤ h2.size := Nat.le_trans Z0 E2.1
  have K5 := K0.ext E2
  have f6 := F0.ext E2
  have f7 := F1.ext E2
  have f8 := E0.ext E2
  have f9 : Arv Z h2 a2 k2 (.array .int) (1 : Int32) [.null] .null := V2.pad (pad_rep [] .null 1)
  refine OwnK.dup X2 hx (hb hby own_d1_9) (pc' := 10) rfl rfl ?_
  refine OwnK.iconst X2 hx (hb hby own_d1_10) (pc' := 11) rfl (v := (0 : Int32)) (by decide) ?_
  refine OwnK.bipush X2 hx (hb hby own_d1_11) (pc' := 13) rfl (v := (16 : Int32)) (by decide) ?_
  refine OwnK.newP_ X2 hx hZ (hw _ (List.mem_of_getElem? (i := 0) rfl)) e2 (hb hby own_d1_13) (pc' := 15) rfl (n := (16 : Int32)) (by decide) (cap := 16) (by decide) (by decide) (by decide) (by decide) (ad := "[I") (by decide) (fun T10 h10 a10 k10 X10 e10 g10 E10 V10 Q10 => ?_)
  have q11 : a2 ≠ a10 := Nat.ne_of_lt (Nat.lt_of_lt_of_le f9.lt (Nat.le_of_eq g10.symm))
  have q12 : p1 ≠ a10 := Nat.ne_of_lt (Nat.lt_of_lt_of_le f6.lt (Nat.le_of_eq g10.symm))
  have ge_a10 : n0 ≤ a10 := Nat.le_trans z4 (Nat.le_of_eq g10.symm)
  have sz_a10 : h0.size ≤ a10 := Nat.le_trans K5.1 (Nat.le_of_eq g10.symm)
  have z13 : n0 ≤ h10.size := Nat.le_trans z4 E10.1
  have K14 := K5.ext E10
  have f15 := f6.ext E10
  have f16 := f7.ext E10
  have f17 := f8.ext E10
  have f18 := f9.ext E10
  have f19 := Q2.ext E10
  have f20 : Arv Z h10 a10 k10 .int (16 : Int32) [(.int (0 : Int32)), (.int (0 : Int32)), (.int (0 : Int32)), (.int (0 : Int32)), (.int (0 : Int32)), (.int (0 : Int32)), (.int (0 : Int32)), (.int (0 : Int32)), (.int (0 : Int32)), (.int (0 : Int32)), (.int (0 : Int32)), (.int (0 : Int32)), (.int (0 : Int32)), (.int (0 : Int32)), (.int (0 : Int32)), (.int (0 : Int32))] (.int (0 : Int32)) := V10.pad (pad_rep [] (.int (0 : Int32)) 16)
  refine OwnK.aastore X10 hx hZ e10 f18 rfl rfl (OwnK.stoOfA f18 O2 (Ins.self Q10)) (i := 0) (by decide) (by first | decide | omega) (Nat.le_of_ble_eq_true rfl) (hb hby own_d1_15) (pc' := 16) rfl (fun T21 h21 X21 e21 W21 V21 => ?_)
  have f22 := f15.other W21 (Or.inl q3)
  have f23 := f16.other W21 (Or.inl q3)
  have f24 := f17.wr W21
  have f25 := f19.wr W21
  have f26 := f20.other W21 (Ne.symm q11)
  have f27 := Q10.wr W21
  have f28 : Arv Z h21 a2 _ (.array .int) (1 : Int32) [(.ref a10)] .null := V21
  have N29 := Fr.snoc X21 N0 ge_a2
  have K30 := K14.wr W21 (Or.inr sz_a2)
  have z31 : n0 ≤ h21.size := Nat.le_trans z13 (Keep.of_wr W21).1
  refine OwnK.putF_ X21 hx hZ hown (hw _ (List.mem_of_getElem? (i := 13) rfl)) Via.refl e21 f22 f24 (Or.inl (hw _ (List.mem_of_getElem? (i := 14) rfl))) (hw _ (List.mem_of_getElem? (i := 2) rfl)) (ty := (.array (.array .int))) (by decide) (v' := (.ref a2)) rfl rfl (hb hby own_d1_16) (pc' := 19) rfl (fun T32 h32 X32 e32 W32 => ?_)
  have f33 := f22.same W32
  have f34 := f23.other W32 (Or.inr (slot_ne (Or.inl (hw _ (List.mem_of_getElem? (i := 25) rfl))) (Or.inl (hw _ (List.mem_of_getElem? (i := 14) rfl))) (by decide) (t := .int) (t' := (.array (.array .int))) (by decide) (by decide)))
  have f35 := f24.wr W32
  have f36 := f28.other W32 (Ne.symm q3)
  have f37 := f25.wr W32
  have f38 := f26.other W32 (Ne.symm q12)
  have f39 := f27.wr W32
  have N40 := Fr.snoc X32 N29 ge_p1
  have K41 := K30.wr W32 (Or.inl (List.mem_of_getElem? (i := 0) rfl))
  have z42 : n0 ≤ h32.size := Nat.le_trans z31 (Keep.of_wr W32).1
  refine OwnK.retV_ X32 hx hret hlk (hb hby own_d1_19) (by decide) (by decide) ?_
  rw [show T32.heap = h32 from e32]
  exact ⟨a2, a10, _, _, rfl, N40, K41, sz_a2, sz_a10, ⟨f35, f34, f33, f36, f38, f37, f39, O2, q3, q12, q11⟩⟩
def own_Qmet4 (h0 : Heap) (p1 : Addr) (B K : Addr) (kB kK : ClassId) (sz cap : Int32) (vs : List Value) (v : Option Value) (h : Heap) (L : List Loc) : Prop := v = some (.ref K) ∧ h = h0 ∧ L = []
set_option maxRecDepth 65536 in
set_option maxHeartbeats 40000000 in
theorem own_met4 (l : Launch) (Z : State) (a0 : Array Value) (hw : ∀ d ∈ tables_1, d.before a0 Z = true) (h0 : Heap) (p1 : Addr) (B K : Addr) (kB kK : ClassId) (sz cap : Int32) (vs : List Value) (hI : own_IL Z h0 p1 B K kB kK sz cap vs) (hbd : 0 ≤ sz.toInt ∧ sz.toInt < 4096) (hne : ¬ sz.toInt = cap.toInt) :
    MetFree l (⟨"com/example/strict_reach/strictreach/IntList", "room", "()[I"⟩ : MethodName) (head1 [Jvm.Cond.code (⟨"com/example/strict_reach/strictreach/IntList", "room", "()[I"⟩ : MethodName) prog_9_method_9_code 3 (some (.array .int))] ({ frames := 0, cells := 0, slots := 0, locals := 0 } : Room)) (fun a U => a = #[(.ref p1)] ∧ Z.Warmed39 U.vm ∧ U.heap = h0) (fun _ _ _ _ _ => True) (fun _ U o U' => ∃ v L, o = .returned v ∧ (own_Qmet4 h0 p1 B K kB kK sz cap vs) v U'.heap L ∧ FrameEnd U o U' L ({ frames := 0, cells := 0, slots := 0, locals := 0 } : Room).cells ({ frames := 0, cells := 0, slots := 0, locals := 0 } : Room).slots) := by
  refine OwnK.met (Q := (own_Qmet4 h0 p1 B K kB kK sz cap vs)) (C := ({ frames := 0, cells := 0, slots := 0, locals := 0 } : Room).cells) (N := ({ frames := 0, cells := 0, slots := 0, locals := 0 } : Room).slots) own_pl_4 (own_ef_4 p1) ?_
  intro p e s m below meth c T0 X0 hx hZ hby hml hown hnm hret hlk e0
  obtain ⟨IE, IS, IB, IAB, IAK, IEB, IEK, IO, IaB, IaK, IBK⟩ := hI
  have hsh := own_sh hbd.1 hbd.2
  have hshI : (XT.ushr sz (12 : Int32)).toInt = 0 := by rw [hsh]; decide
  have han := own_an hbd.1 hbd.2
  rw [← han] at hne
  refine OwnK.aloadN X0 hx (hb hby own_d4_0) (pc' := 1) rfl (v := (.ref p1)) rfl rfl ?_
  refine OwnK.getF_ X0 hx hZ hown (host := "") (Or.inl (hw _ (List.mem_of_getElem? (i := 24) rfl))) Via.refl e0 IS (hb hby own_d4_1) (pc' := 4) rfl (fun T1 X1 e1 => ?_)
  refine OwnK.ldcI X1 hx hZ hown (hw _ (List.mem_of_getElem? (i := 26) rfl)) (hb hby own_d4_4) (pc' := 6) rfl ?_
  refine OwnK.icmp_ne X1 hx (hb hby own_d4_6) (by decide) (pcT := 19) (by decide) (pc' := 9) rfl (fun hc6 => ?_) (fun (hc6 : sz.toInt = 2147483647) => by omega)
  refine OwnK.aloadN X1 hx (hb hby own_d4_19) (pc' := 20) rfl (v := (.ref p1)) rfl rfl ?_
  refine OwnK.getF_ X1 hx hZ hown (host := "") (Or.inl (hw _ (List.mem_of_getElem? (i := 24) rfl))) Via.refl e1 IS (hb hby own_d4_20) (pc' := 23) rfl (fun T2 X2 e2 => ?_)
  refine OwnK.bipush X2 hx (hb hby own_d4_23) (pc' := 25) rfl (v := (12 : Int32)) (by decide) ?_
  refine OwnK.iushr X2 hx (hb hby own_d4_25) (pc' := 26) rfl ?_
  refine OwnK.istoreN X2 hx (hb hby own_d4_26) (pc' := 27) rfl (Ls' := #[.val (.ref p1), .val (.int (XT.ushr sz (12 : Int32))), .unset]) rfl ?_
  refine OwnK.iloadN X2 hx (hb hby own_d4_27) (pc' := 28) rfl (v := (XT.ushr sz (12 : Int32))) rfl ?_
  refine OwnK.aloadN X2 hx (hb hby own_d4_28) (pc' := 29) rfl (v := (.ref p1)) rfl rfl ?_
  refine OwnK.getF_ X2 hx hZ hown (host := "") (Or.inl (hw _ (List.mem_of_getElem? (i := 13) rfl))) Via.refl e2 IB (hb hby own_d4_29) (pc' := 32) rfl (fun T3 X3 e3 => ?_)
  refine OwnK.arrlen X3 hx hZ e3 IAB (hb hby own_d4_32) (pc' := 33) rfl ?_
  refine OwnK.icmp_ne X3 hx (hb hby own_d4_33) (by decide) (pcT := 57) (by decide) (pc' := 36) rfl (fun hc33 => ?_) (fun (hc33 : (XT.ushr sz (12 : Int32)).toInt = 1) => by omega)
  refine OwnK.aloadN X3 hx (hb hby own_d4_57) (pc' := 58) rfl (v := (.ref p1)) rfl rfl ?_
  refine OwnK.getF_ X3 hx hZ hown (host := "") (Or.inl (hw _ (List.mem_of_getElem? (i := 13) rfl))) Via.refl e3 IB (hb hby own_d4_58) (pc' := 61) rfl (fun T4 X4 e4 => ?_)
  refine OwnK.iloadN X4 hx (hb hby own_d4_61) (pc' := 62) rfl (v := (XT.ushr sz (12 : Int32))) rfl ?_
  refine OwnK.aaload X4 hx hZ e4 IAB rfl (by rw [hsh]; decide) (by rw [hsh]; decide) (v := (.ref K)) (by rw [hsh]; rfl) (hb hby own_d4_62) (pc' := 63) rfl ?_
  refine OwnK.astoreN X4 hx (hb hby own_d4_63) (pc' := 64) rfl rfl (Ls' := #[.val (.ref p1), .val (.int (XT.ushr sz (12 : Int32))), .val (.ref K)]) rfl ?_
  refine OwnK.aloadN X4 hx (hb hby own_d4_64) (pc' := 65) rfl (v := (.ref K)) rfl rfl ?_
  refine OwnK.ifnonnull_ref X4 hx (hb hby own_d4_65) (by decide) (pcT := 84) (by decide) (pc' := 68) rfl ?_
  refine OwnK.aloadN X4 hx (hb hby own_d4_84) (pc' := 85) rfl (v := (.ref p1)) rfl rfl ?_
  refine OwnK.getF_ X4 hx hZ hown (host := "") (Or.inl (hw _ (List.mem_of_getElem? (i := 24) rfl))) Via.refl e4 IS (hb hby own_d4_85) (pc' := 88) rfl (fun T5 X5 e5 => ?_)
  refine OwnK.sipush X5 hx (hb hby own_d4_88) (pc' := 91) rfl (v := (4095 : Int32)) (by decide) ?_
  refine OwnK.iand X5 hx (hb hby own_d4_91) (pc' := 92) rfl ?_
  refine OwnK.aloadN X5 hx (hb hby own_d4_92) (pc' := 93) rfl (v := (.ref K)) rfl rfl ?_
  refine OwnK.arrlen X5 hx hZ e5 IAK (hb hby own_d4_93) (pc' := 94) rfl ?_
  refine OwnK.icmp_ne X5 hx (hb hby own_d4_94) (by decide) (pcT := 113) (by decide) (pc' := 97) rfl (fun hc94 => ?_) (fun (hc94 : (sz &&& (4095 : Int32)).toInt = cap.toInt) => absurd hc94 hne)
  refine OwnK.aloadN X5 hx (hb hby own_d4_113) (pc' := 114) rfl (v := (.ref K)) rfl rfl ?_
  refine OwnK.retA_ X5 hx hret rfl rfl hlk (hb hby own_d4_114) (by decide) (by decide) ?_
  exact ⟨rfl, e5, rfl⟩
def own_Qmet3 (Z : State) (h0 : Heap) (n0 : Nat) (p1 : Addr) (p2 : Int32) (B K : Addr) (kB kK : ClassId) (sz cap : Int32) (vs : List Value) (i : Nat) (v : Option Value) (h : Heap) (L : List Loc) : Prop := v = none ∧ Fr n0 L ∧ Keep h0 h [p1, K] ∧ own_IL Z h p1 B K kB kK (sz + (1 : Int32)) cap (vs.set i (.int p2))
set_option maxRecDepth 65536 in
set_option maxHeartbeats 40000000 in
theorem own_met3 (l : Launch) (Z : State) (a0 : Array Value) (hw : ∀ d ∈ tables_1, d.before a0 Z = true) (h0 : Heap) (n0 : Nat) (Z0 : n0 ≤ h0.size) (p1 : Addr) (p2 : Int32) (B K : Addr) (kB kK : ClassId) (sz cap : Int32) (vs : List Value) (i : Nat) (ge_p1 : n0 ≤ p1) (hI : own_IL Z h0 p1 B K kB kK sz cap vs) (geK : n0 ≤ K) (hi : sz.toInt = i) (hl : i < vs.length) (hcap : (i : Int) < cap.toInt ∧ cap.toInt ≤ 4096) (hne : ¬ sz.toInt = cap.toInt) :
    MetFree l (⟨"com/example/strict_reach/strictreach/IntList", "add", "(I)V"⟩ : MethodName) (head1 [Jvm.Cond.code (⟨"com/example/strict_reach/strictreach/IntList", "add", "(I)V"⟩ : MethodName) prog_9_method_2_code 2 none] ({ frames := 1, cells := 0, slots := 0, locals := 14 } : Room)) (fun a U => a = #[(.ref p1), (.int p2)] ∧ Z.Warmed39 U.vm ∧ U.heap = h0) (fun _ _ _ _ _ => True) (fun _ U o U' => ∃ v L, o = .returned v ∧ (own_Qmet3 Z h0 n0 p1 p2 B K kB kK sz cap vs i) v U'.heap L ∧ FrameEnd U o U' L ({ frames := 1, cells := 0, slots := 0, locals := 14 } : Room).cells ({ frames := 1, cells := 0, slots := 0, locals := 14 } : Room).slots) := by
  refine OwnK.met (Q := (own_Qmet3 Z h0 n0 p1 p2 B K kB kK sz cap vs i)) (C := ({ frames := 1, cells := 0, slots := 0, locals := 14 } : Room).cells) (N := ({ frames := 1, cells := 0, slots := 0, locals := 14 } : Room).slots) own_pl_3 (own_ef_3 p1 p2) ?_
  intro p e s m below meth c T0 X0 hx hZ hby hml hown hnm hret hlk e0
  have N0 := Fr.nil n0
  have K0 := Keep.refl h0 [p1, K]
  obtain ⟨IE, IS, IB, IAB, IAK, IEB, IEK, IO, IaB, IaK, IBK⟩ := hI
  have hbd : 0 ≤ sz.toInt ∧ sz.toInt < 4096 := by omega
  refine OwnK.aloadN X0 hx (hb hby own_d3_0) (pc' := 1) rfl (v := (.ref p1)) rfl rfl ?_
  refine OwnK.callP_ X0 hx hZ hown (y := (⟨"com/example/strict_reach/strictreach/IntList", "room", "()[I"⟩ : MethodName)) (z := (⟨"com/example/strict_reach/strictreach/IntList", "add", "(I)V"⟩ : MethodName)) (a := p1) (hw _ (List.mem_of_getElem? (i := 20) rfl)) (hw _ (List.mem_of_getElem? (i := 21) rfl)) rfl (hw _ (List.mem_of_getElem? (i := 18) rfl)) (hw _ (List.mem_of_getElem? (i := 22) rfl)) (hw _ (List.mem_of_getElem? (i := 23) rfl)) (hw _ (List.mem_of_getElem? (i := 3) rfl)) (by decide) IE (own_met4 l Z a0 hw h0 p1 B K _ _ sz cap _ ⟨IE, IS, IB, IAB, IAK, IEB, IEK, IO, IaB, IaK, IBK⟩ hbd hne) (by decide) (W := 0) (by decide) e0 (by rw [hml]; rfl) own_pd_2 (argsL := []) rfl (S := []) rfl (Nat.le_of_eq rfl) (hb hby own_d3_1) (pc' := 4) rfl (by decide) (by decide) (fun T1 v1 L1 X1 hQ1 => ?_)
  obtain ⟨rfl, e1, rfl⟩ := hQ1
  have N2 := Fr.app N0 (Fr.nil n0)
  refine OwnK.aloadN X1 hx (hb hby own_d3_4) (pc' := 5) rfl (v := (.ref p1)) rfl rfl ?_
  refine OwnK.getF_ X1 hx hZ hown (host := "") (Or.inl (hw _ (List.mem_of_getElem? (i := 24) rfl))) Via.refl e1 IS (hb hby own_d3_5) (pc' := 8) rfl (fun T3 X3 e3 => ?_)
  refine OwnK.sipush X3 hx (hb hby own_d3_8) (pc' := 11) rfl (v := (4095 : Int32)) (by decide) ?_
  refine OwnK.iand X3 hx (hb hby own_d3_11) (pc' := 12) rfl ?_
  refine OwnK.iloadN X3 hx (hb hby own_d3_12) (pc' := 13) rfl (v := p2) rfl ?_
  refine OwnK.iastore X3 hx hZ e3 IAK (i := i) (by rw [own_an hbd.1 hbd.2]; exact hi) (by omega) (by omega) (hb hby own_d3_13) (pc' := 14) rfl (fun T4 h4 X4 e4 W4 V4 => ?_)
  have f5 := IE.wr W4
  have f6 := IS.other W4 (Or.inl IaK)
  have f7 := IB.other W4 (Or.inl IaK)
  have f8 := IAB.other W4 IBK
  have f9 := IEB.wr W4
  have f10 := IEK.wr W4
  have N11 := Fr.snoc X4 N2 geK
  have K12 := K0.wr W4 (Or.inl (List.mem_of_getElem? (i := 1) rfl))
  have z13 : n0 ≤ h4.size := Nat.le_trans Z0 (Keep.of_wr W4).1
  refine OwnK.aloadN X4 hx (hb hby own_d3_14) (pc' := 15) rfl (v := (.ref p1)) rfl rfl ?_
  refine OwnK.dup X4 hx (hb hby own_d3_15) (pc' := 16) rfl rfl ?_
  refine OwnK.getF_ X4 hx hZ hown (host := "") (Or.inl (hw _ (List.mem_of_getElem? (i := 24) rfl))) Via.refl e4 f6 (hb hby own_d3_16) (pc' := 19) rfl (fun T14 X14 e14 => ?_)
  refine OwnK.iconst X14 hx (hb hby own_d3_19) (pc' := 20) rfl (v := (1 : Int32)) (by decide) ?_
  refine OwnK.iadd X14 hx (hb hby own_d3_20) (pc' := 21) rfl ?_
  refine OwnK.putF_ X14 hx hZ hown (hw _ (List.mem_of_getElem? (i := 24) rfl)) Via.refl e14 f6 f5 (Or.inl (hw _ (List.mem_of_getElem? (i := 25) rfl))) (hw _ (List.mem_of_getElem? (i := 2) rfl)) (ty := .int) (by decide) (v' := (.int (sz + (1 : Int32)))) rfl rfl (hb hby own_d3_21) (pc' := 24) rfl (fun T15 h15 X15 e15 W15 => ?_)
  have f16 := f6.same W15
  have f17 := f5.wr W15
  have f18 := f7.other W15 (Or.inr (slot_ne (Or.inl (hw _ (List.mem_of_getElem? (i := 14) rfl))) (Or.inl (hw _ (List.mem_of_getElem? (i := 25) rfl))) (by decide) (t := (.array (.array .int))) (t' := .int) (by decide) (by decide)))
  have f19 := f8.other W15 (Ne.symm IaB)
  have f20 := V4.other W15 (Ne.symm IaK)
  have f21 := f9.wr W15
  have f22 := f10.wr W15
  have N23 := Fr.snoc X15 N11 ge_p1
  have K24 := K12.wr W15 (Or.inl (List.mem_of_getElem? (i := 0) rfl))
  have z25 : n0 ≤ h15.size := Nat.le_trans z13 (Keep.of_wr W15).1
  refine OwnK.retV_ X15 hx hret hlk (hb hby own_d3_24) (by decide) (by decide) ?_
  rw [show T15.heap = h15 from e15]
  exact ⟨rfl, N23, K24, ⟨f17, f16, f18, f19, f20, f21, f22, IO, IaB, IaK, IBK⟩⟩
def own_Qmet8 (h0 : Heap) (p1 : Addr) (B K : Addr) (kB kK : ClassId) (sz cap : Int32) (vs : List Value) (v : Option Value) (h : Heap) (L : List Loc) : Prop := v = some (.int sz) ∧ h = h0 ∧ L = []
set_option maxRecDepth 65536 in
set_option maxHeartbeats 40000000 in
theorem own_met8 (l : Launch) (Z : State) (a0 : Array Value) (hw : ∀ d ∈ tables_1, d.before a0 Z = true) (h0 : Heap) (p1 : Addr) (B K : Addr) (kB kK : ClassId) (sz cap : Int32) (vs : List Value) (hI : own_IL Z h0 p1 B K kB kK sz cap vs) :
    MetFree l (⟨"com/example/strict_reach/strictreach/IntList", "size", "()I"⟩ : MethodName) (head1 [Jvm.Cond.code (⟨"com/example/strict_reach/strictreach/IntList", "size", "()I"⟩ : MethodName) prog_9_method_6_code 1 (some .int)] ({ frames := 0, cells := 0, slots := 0, locals := 0 } : Room)) (fun a U => a = #[(.ref p1)] ∧ Z.Warmed39 U.vm ∧ U.heap = h0) (fun _ _ _ _ _ => True) (fun _ U o U' => ∃ v L, o = .returned v ∧ (own_Qmet8 h0 p1 B K kB kK sz cap vs) v U'.heap L ∧ FrameEnd U o U' L ({ frames := 0, cells := 0, slots := 0, locals := 0 } : Room).cells ({ frames := 0, cells := 0, slots := 0, locals := 0 } : Room).slots) := by
  refine OwnK.met (Q := (own_Qmet8 h0 p1 B K kB kK sz cap vs)) (C := ({ frames := 0, cells := 0, slots := 0, locals := 0 } : Room).cells) (N := ({ frames := 0, cells := 0, slots := 0, locals := 0 } : Room).slots) own_pl_8 (own_ef_8 p1) ?_
  intro p e s m below meth c T0 X0 hx hZ hby hml hown hnm hret hlk e0
  obtain ⟨IE, IS, IB, IAB, IAK, IEB, IEK, IO, IaB, IaK, IBK⟩ := hI
  refine OwnK.aloadN X0 hx (hb hby own_d8_0) (pc' := 1) rfl (v := (.ref p1)) rfl rfl ?_
  refine OwnK.getF_ X0 hx hZ hown (host := "") (Or.inl (hw _ (List.mem_of_getElem? (i := 24) rfl))) Via.refl e0 IS (hb hby own_d8_1) (pc' := 4) rfl (fun T1 X1 e1 => ?_)
  refine OwnK.retI_ X1 hx hret hlk (hb hby own_d8_4) (by decide) (by decide) ?_
  exact ⟨by rfl, e1, rfl⟩
def own_Qmet9 (h0 : Heap) (p1 : Addr) (p2 : Int32) (B K : Addr) (kB kK : ClassId) (sz cap : Int32) (vs : List Value) (i : Nat) (el : Int32) (v : Option Value) (h : Heap) (L : List Loc) : Prop := v = some (.int el) ∧ h = h0 ∧ L = []
set_option maxRecDepth 65536 in
set_option maxHeartbeats 40000000 in
theorem own_met9 (l : Launch) (Z : State) (a0 : Array Value) (hw : ∀ d ∈ tables_1, d.before a0 Z = true) (h0 : Heap) (p1 : Addr) (p2 : Int32) (B K : Addr) (kB kK : ClassId) (sz cap : Int32) (vs : List Value) (i : Nat) (el : Int32) (hI : own_IL Z h0 p1 B K kB kK sz cap vs) (hi : p2.toInt = i) (hsz : (i : Int) < sz.toInt ∧ sz.toInt ≤ cap.toInt ∧ cap.toInt ≤ 4096) (hv : vs.getD i (.int (0 : Int32)) = .int el) :
    MetFree l (⟨"com/example/strict_reach/strictreach/IntList", "get", "(I)I"⟩ : MethodName) (head1 [Jvm.Cond.code (⟨"com/example/strict_reach/strictreach/IntList", "get", "(I)I"⟩ : MethodName) prog_9_method_4_code 2 (some .int)] ({ frames := 2, cells := 0, slots := 0, locals := 27 } : Room)) (fun a U => a = #[(.ref p1), (.int p2)] ∧ Z.Warmed39 U.vm ∧ U.heap = h0) (fun _ _ _ _ _ => True) (fun _ U o U' => ∃ v L, o = .returned v ∧ (own_Qmet9 h0 p1 p2 B K kB kK sz cap vs i el) v U'.heap L ∧ FrameEnd U o U' L ({ frames := 2, cells := 0, slots := 0, locals := 27 } : Room).cells ({ frames := 2, cells := 0, slots := 0, locals := 27 } : Room).slots) := by
  refine OwnK.met (Q := (own_Qmet9 h0 p1 p2 B K kB kK sz cap vs i el)) (C := ({ frames := 2, cells := 0, slots := 0, locals := 27 } : Room).cells) (N := ({ frames := 2, cells := 0, slots := 0, locals := 27 } : Room).slots) own_pl_9 (own_ef_9 p1 p2) ?_
  intro p e s m below meth c T0 X0 hx hZ hby hml hown hnm hret hlk e0
  obtain ⟨IE, IS, IB, IAB, IAK, IEB, IEK, IO, IaB, IaK, IBK⟩ := hI
  have hsh := own_sh (x := p2) (by omega) (by omega)
  have han := own_an (x := p2) (by omega) (by omega)
  refine OwnK.iloadN X0 hx (hb hby own_d9_0) (pc' := 1) rfl (v := p2) rfl ?_
  refine OwnK.aloadN X0 hx (hb hby own_d9_1) (pc' := 2) rfl (v := (.ref p1)) rfl rfl ?_
  refine OwnK.getF_ X0 hx hZ hown (host := "") (Or.inl (hw _ (List.mem_of_getElem? (i := 24) rfl))) Via.refl e0 IS (hb hby own_d9_2) (pc' := 5) rfl (fun T1 X1 e1 => ?_)
  refine OwnK.callS_ X1 hx hZ hown (y := (⟨"java/util/Objects", "checkIndex", "(II)I"⟩ : MethodName)) (hw _ (List.mem_of_getElem? (i := 33) rfl)) (hw _ (List.mem_of_getElem? (i := 34) rfl)) (hw _ (List.mem_of_getElem? (i := 35) rfl)) (hw _ (List.mem_of_getElem? (i := 36) rfl)) (by decide) (own_met6 l Z a0 hw h0 p2 sz (by omega) (by omega) ) (by decide) (W := 0) (by decide) e1 (by rw [hml]; rfl) own_pd_5 (argsL := [(.int p2), (.int sz)]) rfl (S := []) rfl (Nat.le_of_eq rfl) (hb hby own_d9_5) (pc' := 8) rfl (by decide) (by decide) (fun T2 v2 L2 X2 hQ2 => ?_)
  obtain ⟨rfl, e2, rfl⟩ := hQ2
  refine OwnK.pop X2 hx (hb hby own_d9_8) (pc' := 9) rfl rfl ?_
  refine OwnK.aloadN X2 hx (hb hby own_d9_9) (pc' := 10) rfl (v := (.ref p1)) rfl rfl ?_
  refine OwnK.getF_ X2 hx hZ hown (host := "") (Or.inl (hw _ (List.mem_of_getElem? (i := 13) rfl))) Via.refl e2 IB (hb hby own_d9_10) (pc' := 13) rfl (fun T4 X4 e4 => ?_)
  refine OwnK.iloadN X4 hx (hb hby own_d9_13) (pc' := 14) rfl (v := p2) rfl ?_
  refine OwnK.bipush X4 hx (hb hby own_d9_14) (pc' := 16) rfl (v := (12 : Int32)) (by decide) ?_
  refine OwnK.iushr X4 hx (hb hby own_d9_16) (pc' := 17) rfl ?_
  refine OwnK.aaload X4 hx hZ e4 IAB rfl (by rw [hsh]; decide) (by rw [hsh]; decide) (v := (.ref K)) (by rw [hsh]; rfl) (hb hby own_d9_17) (pc' := 18) rfl ?_
  refine OwnK.iloadN X4 hx (hb hby own_d9_18) (pc' := 19) rfl (v := p2) rfl ?_
  refine OwnK.sipush X4 hx (hb hby own_d9_19) (pc' := 22) rfl (v := (4095 : Int32)) (by decide) ?_
  refine OwnK.iand X4 hx (hb hby own_d9_22) (pc' := 23) rfl ?_
  refine OwnK.iaload X4 hx hZ e4 IAK (by rw [han]; omega) (by rw [han]; omega) (v := (.int el)) (by rw [han, OwnK.jnat hi]; exact hv) (hb hby own_d9_23) (pc' := 24) rfl ?_
  refine OwnK.retI_ X4 hx hret hlk (hb hby own_d9_24) (by decide) (by decide) ?_
  exact ⟨rfl, e4, rfl⟩
def own_Qmet5 (Z : State) (h0 : Heap) (n0 : Nat) (p1 : Addr) (p2 : Int32) (p3 : Int32) (B K : Addr) (kB kK : ClassId) (sz cap : Int32) (vs : List Value) (i : Nat) (v : Option Value) (h : Heap) (L : List Loc) : Prop := v = none ∧ Fr n0 L ∧ Keep h0 h [p1, K] ∧ own_IL Z h p1 B K kB kK sz cap (vs.set i (.int p3))
set_option maxRecDepth 65536 in
set_option maxHeartbeats 40000000 in
theorem own_met5 (l : Launch) (Z : State) (a0 : Array Value) (hw : ∀ d ∈ tables_1, d.before a0 Z = true) (h0 : Heap) (n0 : Nat) (Z0 : n0 ≤ h0.size) (p1 : Addr) (p2 : Int32) (p3 : Int32) (B K : Addr) (kB kK : ClassId) (sz cap : Int32) (vs : List Value) (i : Nat) (ge_p1 : n0 ≤ p1) (hI : own_IL Z h0 p1 B K kB kK sz cap vs) (geK : n0 ≤ K) (hi : p2.toInt = i) (hsz : (i : Int) < sz.toInt ∧ sz.toInt ≤ cap.toInt ∧ cap.toInt ≤ 4096) (hl : i < vs.length) :
    MetFree l (⟨"com/example/strict_reach/strictreach/IntList", "set", "(II)V"⟩ : MethodName) (head1 [Jvm.Cond.code (⟨"com/example/strict_reach/strictreach/IntList", "set", "(II)V"⟩ : MethodName) prog_9_method_5_code 3 none] ({ frames := 2, cells := 0, slots := 0, locals := 27 } : Room)) (fun a U => a = #[(.ref p1), (.int p2), (.int p3)] ∧ Z.Warmed39 U.vm ∧ U.heap = h0) (fun _ _ _ _ _ => True) (fun _ U o U' => ∃ v L, o = .returned v ∧ (own_Qmet5 Z h0 n0 p1 p2 p3 B K kB kK sz cap vs i) v U'.heap L ∧ FrameEnd U o U' L ({ frames := 2, cells := 0, slots := 0, locals := 27 } : Room).cells ({ frames := 2, cells := 0, slots := 0, locals := 27 } : Room).slots) := by
  refine OwnK.met (Q := (own_Qmet5 Z h0 n0 p1 p2 p3 B K kB kK sz cap vs i)) (C := ({ frames := 2, cells := 0, slots := 0, locals := 27 } : Room).cells) (N := ({ frames := 2, cells := 0, slots := 0, locals := 27 } : Room).slots) own_pl_5 (own_ef_5 p1 p2 p3) ?_
  intro p e s m below meth c T0 X0 hx hZ hby hml hown hnm hret hlk e0
  have N0 := Fr.nil n0
  have K0 := Keep.refl h0 [p1, K]
  obtain ⟨IE, IS, IB, IAB, IAK, IEB, IEK, IO, IaB, IaK, IBK⟩ := hI
  have hsh := own_sh (x := p2) (by omega) (by omega)
  have han := own_an (x := p2) (by omega) (by omega)
  refine OwnK.iloadN X0 hx (hb hby own_d5_0) (pc' := 1) rfl (v := p2) rfl ?_
  refine OwnK.aloadN X0 hx (hb hby own_d5_1) (pc' := 2) rfl (v := (.ref p1)) rfl rfl ?_
  refine OwnK.getF_ X0 hx hZ hown (host := "") (Or.inl (hw _ (List.mem_of_getElem? (i := 24) rfl))) Via.refl e0 IS (hb hby own_d5_2) (pc' := 5) rfl (fun T1 X1 e1 => ?_)
  refine OwnK.callS_ X1 hx hZ hown (y := (⟨"java/util/Objects", "checkIndex", "(II)I"⟩ : MethodName)) (hw _ (List.mem_of_getElem? (i := 33) rfl)) (hw _ (List.mem_of_getElem? (i := 34) rfl)) (hw _ (List.mem_of_getElem? (i := 35) rfl)) (hw _ (List.mem_of_getElem? (i := 36) rfl)) (by decide) (own_met6 l Z a0 hw h0 p2 sz (by omega) (by omega) ) (by decide) (W := 0) (by decide) e1 (by rw [hml]; rfl) own_pd_5 (argsL := [(.int p2), (.int sz)]) rfl (S := []) rfl (Nat.le_of_eq rfl) (hb hby own_d5_5) (pc' := 8) rfl (by decide) (by decide) (fun T2 v2 L2 X2 hQ2 => ?_)
  obtain ⟨rfl, e2, rfl⟩ := hQ2
  have N3 := Fr.app N0 (Fr.nil n0)
  refine OwnK.pop X2 hx (hb hby own_d5_8) (pc' := 9) rfl rfl ?_
  refine OwnK.aloadN X2 hx (hb hby own_d5_9) (pc' := 10) rfl (v := (.ref p1)) rfl rfl ?_
  refine OwnK.getF_ X2 hx hZ hown (host := "") (Or.inl (hw _ (List.mem_of_getElem? (i := 13) rfl))) Via.refl e2 IB (hb hby own_d5_10) (pc' := 13) rfl (fun T4 X4 e4 => ?_)
  refine OwnK.iloadN X4 hx (hb hby own_d5_13) (pc' := 14) rfl (v := p2) rfl ?_
  refine OwnK.bipush X4 hx (hb hby own_d5_14) (pc' := 16) rfl (v := (12 : Int32)) (by decide) ?_
  refine OwnK.iushr X4 hx (hb hby own_d5_16) (pc' := 17) rfl ?_
  refine OwnK.aaload X4 hx hZ e4 IAB rfl (by rw [hsh]; decide) (by rw [hsh]; decide) (v := (.ref K)) (by rw [hsh]; rfl) (hb hby own_d5_17) (pc' := 18) rfl ?_
  refine OwnK.iloadN X4 hx (hb hby own_d5_18) (pc' := 19) rfl (v := p2) rfl ?_
  refine OwnK.sipush X4 hx (hb hby own_d5_19) (pc' := 22) rfl (v := (4095 : Int32)) (by decide) ?_
  refine OwnK.iand X4 hx (hb hby own_d5_22) (pc' := 23) rfl ?_
  refine OwnK.iloadN X4 hx (hb hby own_d5_23) (pc' := 24) rfl (v := p3) rfl ?_
  refine OwnK.iastore X4 hx hZ e4 IAK (i := i) (by rw [han]; exact hi) (by omega) (by omega) (hb hby own_d5_24) (pc' := 25) rfl (fun T5 h5 X5 e5 W5 V5 => ?_)
  have f6 := IE.wr W5
  have f7 := IS.other W5 (Or.inl IaK)
  have f8 := IB.other W5 (Or.inl IaK)
  have f9 := IAB.other W5 IBK
  have f10 := IEB.wr W5
  have f11 := IEK.wr W5
  have N12 := Fr.snoc X5 N3 geK
  have K13 := K0.wr W5 (Or.inl (List.mem_of_getElem? (i := 1) rfl))
  have z14 : n0 ≤ h5.size := Nat.le_trans Z0 (Keep.of_wr W5).1
  refine OwnK.retV_ X5 hx hret hlk (hb hby own_d5_25) (by decide) (by decide) ?_
  rw [show T5.heap = h5 from e5]
  exact ⟨rfl, N12, K13, ⟨f6, f7, f8, f9, V5, f10, f11, IO, IaB, IaK, IBK⟩⟩
def own_Qmet10 (h0 : Heap) (p1 : Int32) (p2 : Int32) (p3 : Int32) (p4 : Addr) (kA : ClassId) (vs : List Value) (el : Int32) (i : Nat) (v : Option Value) (h : Heap) (L : List Loc) : Prop := v = some (.int (if p1.toInt = p2.toInt then p3 else el)) ∧ h = h0 ∧ L = []
set_option maxRecDepth 65536 in
set_option maxHeartbeats 40000000 in
theorem own_met10 (l : Launch) (Z : State) (a0 : Array Value) (hw : ∀ d ∈ tables_1, d.before a0 Z = true) (h0 : Heap) (p1 : Int32) (p2 : Int32) (p3 : Int32) (p4 : Addr) (kA : ClassId) (vs : List Value) (el : Int32) (i : Nat) (V0 : Arv Z h0 p4 kA .int (4 : Int32) vs (.int (0 : Int32))) (hi : p1.toInt = i) (hi4 : i < 4) (hv : vs.getD i (.int (0 : Int32)) = .int el) :
    MetFree l (⟨"com/example/strict_reach/strictreach/IntListSetPinLaw", "expect", "(III[I)I"⟩ : MethodName) (head1 [Jvm.Cond.code (⟨"com/example/strict_reach/strictreach/IntListSetPinLaw", "expect", "(III[I)I"⟩ : MethodName) method_2_code 4 (some .int)] ({ frames := 0, cells := 0, slots := 0, locals := 0 } : Room)) (fun a U => a = #[(.int p1), (.int p2), (.int p3), (.ref p4)] ∧ Z.Warmed39 U.vm ∧ U.heap = h0) (fun _ _ _ _ _ => True) (fun _ U o U' => ∃ v L, o = .returned v ∧ (own_Qmet10 h0 p1 p2 p3 p4 kA vs el i) v U'.heap L ∧ FrameEnd U o U' L ({ frames := 0, cells := 0, slots := 0, locals := 0 } : Room).cells ({ frames := 0, cells := 0, slots := 0, locals := 0 } : Room).slots) := by
  refine OwnK.met (Q := (own_Qmet10 h0 p1 p2 p3 p4 kA vs el i)) (C := ({ frames := 0, cells := 0, slots := 0, locals := 0 } : Room).cells) (N := ({ frames := 0, cells := 0, slots := 0, locals := 0 } : Room).slots) own_pl_10 (own_ef_10 p1 p2 p3 p4) ?_
  intro p e s m below meth c T0 X0 hx hZ hby hml hown hnm hret hlk e0
  refine OwnK.iloadN X0 hx (hb hby own_d10_0) (pc' := 1) rfl (v := p1) rfl ?_
  refine OwnK.iloadN X0 hx (hb hby own_d10_1) (pc' := 2) rfl (v := p2) rfl ?_
  refine OwnK.icmp_ne X0 hx (hb hby own_d10_2) (by decide) (pcT := 7) (by decide) (pc' := 5) rfl (fun (hc1 : ¬ p1.toInt = p2.toInt) => ?_) (fun (hc1 : p1.toInt = p2.toInt) => ?_)
  · refine OwnK.aloadN X0 hx (hb hby own_d10_7) (pc' := 8) rfl (v := (.ref p4)) rfl rfl ?_
    refine OwnK.iloadN X0 hx (hb hby own_d10_8) (pc' := 9) rfl (v := p1) rfl ?_
    refine OwnK.iaload X0 hx hZ e0 V0 (by omega) (by show _ < (4 : Int); omega) (v := (.int el)) (by rw [OwnK.jnat hi]; exact hv) (hb hby own_d10_9) (pc' := 10) rfl ?_
    refine OwnK.retI_ X0 hx hret hlk (hb hby own_d10_10) (by decide) (by decide) ?_
    exact ⟨by first | rw [if_pos (by assumption)] | rw [if_neg (by assumption)], e0, rfl⟩
  · refine OwnK.iloadN X0 hx (hb hby own_d10_5) (pc' := 6) rfl (v := p3) rfl ?_
    refine OwnK.retI_ X0 hx hret hlk (hb hby own_d10_6) (by decide) (by decide) ?_
    exact ⟨by first | rw [if_pos (by assumption)] | rw [if_neg (by assumption)], e0, rfl⟩
set_option maxRecDepth 65536 in
set_option maxHeartbeats 40000000 in
theorem own_law (l : Launch) (Z : State) (a0 : Array Value) (hw : ∀ d ∈ tables_1, d.before a0 Z = true) (ws : List Jvm.Cond) (h0 : Heap) (n0 : Nat) (Z0 : n0 ≤ h0.size) (p0 : Int32) (p1 : Int32) (p2 : Int32) (p3 : Int32) (p4 : Int32)  :
    MetFree l x (head1 (Jvm.Cond.code x code maxLocals ret :: ws) room_1) (fun a U => a = #[(.int p0), (.int p1), (.int p2), (.int p3), (.int p4)] ∧ Z.Warmed39 U.vm ∧ U.heap = h0) (fun _ _ _ _ _ => True) (fun _ U o U' => ∃ v L, o = .returned v ∧ (fun (v : Option Value) (_ : Heap) (L : List Loc) => v = some (.int (1 : Int32)) ∧ Fr n0 L) v U'.heap L ∧ FrameEnd U o U' L 4 23) := by
  refine OwnK.met (Q := (fun (v : Option Value) (_ : Heap) (L : List Loc) => v = some (.int (1 : Int32)) ∧ Fr n0 L)) (C := 4) (N := 23) own_pl_0 (own_ef_0 p0 p1 p2 p3 p4) ?_
  intro p e s m below meth c T0 X0 hx hZ hby hml hown hnm hret hlk e0
  have N0 := Fr.nil n0
  refine OwnK.iconst X0 hx (hb hby at_0) (pc' := 1) rfl (v := (1 : Int32)) (by decide) ?_
  refine OwnK.iload X0 hx (hb hby at_1) (pc' := 3) rfl (v := p4) rfl ?_
  refine OwnK.iconst X0 hx (hb hby at_3) (pc' := 4) rfl (v := (3 : Int32)) (by decide) ?_
  refine OwnK.iand X0 hx (hb hby at_4) (pc' := 5) rfl ?_
  refine OwnK.iadd X0 hx (hb hby at_5) (pc' := 6) rfl ?_
  refine OwnK.istoreG X0 hx (hb hby at_6) (pc' := 8) rfl (Ls' := fun u => #[.val (.int p0), .val (.int p1), .val (.int p2), .val (.int p3), .val (.int p4), .val (.int u), .unset, .unset, .unset, .unset]) (fun u => rfl) (fun u1 (hu1 : u1 = ((1 : Int32) + (p4 &&& (3 : Int32)))) => ?_)
  have m3 := own_n p4
  rw [← hu1] at m3
  rcases m3 with rfl | rfl | rfl | rfl
  · refine OwnK.iconst X0 hx (hb hby at_8) (pc' := 9) rfl (v := (4 : Int32)) (by decide) ?_
    refine OwnK.newP_ X0 hx hZ (hw _ (List.mem_of_getElem? (i := 0) rfl)) e0 (hb hby at_9) (pc' := 11) rfl (n := (4 : Int32)) (by decide) (cap := 4) (by decide) (by decide) (by decide) (by decide) (ad := "[I") (by decide) (fun T2 h2 a2 k2 X2 e2 g2 E2 V2 Q2 => ?_)
    have ge_a2 : n0 ≤ a2 := Nat.le_trans Z0 (Nat.le_of_eq g2.symm)
    have z3 : n0 ≤ h2.size := Nat.le_trans Z0 E2.1
    have f4 : Arv Z h2 a2 k2 .int (4 : Int32) [(.int (0 : Int32)), (.int (0 : Int32)), (.int (0 : Int32)), (.int (0 : Int32))] (.int (0 : Int32)) := V2.pad (pad_rep [] (.int (0 : Int32)) 4)
    refine OwnK.astore X2 hx (hb hby at_11) (pc' := 13) rfl rfl (Ls' := #[.val (.int p0), .val (.int p1), .val (.int p2), .val (.int p3), .val (.int p4), .val (.int (1 : Int32)), .val (.ref a2), .unset, .unset, .unset]) rfl ?_
    refine OwnK.aload X2 hx (hb hby at_13) (pc' := 15) rfl (v := (.ref a2)) rfl rfl ?_
    refine OwnK.iconst X2 hx (hb hby at_15) (pc' := 16) rfl (v := (0 : Int32)) (by decide) ?_
    refine OwnK.iloadN X2 hx (hb hby at_16) (pc' := 17) rfl (v := p0) rfl ?_
    refine OwnK.iastore X2 hx hZ e2 f4 (i := 0) (by decide) (by first | decide | omega) (Nat.le_of_ble_eq_true rfl) (hb hby at_17) (pc' := 18) rfl (fun T5 h5 X5 e5 W5 V5 => ?_)
    have f6 := Q2.wr W5
    have f7 : Arv Z h5 a2 _ .int (4 : Int32) [(.int p0), (.int (0 : Int32)), (.int (0 : Int32)), (.int (0 : Int32))] (.int (0 : Int32)) := V5
    have N8 := Fr.snoc X5 N0 ge_a2
    have z9 : n0 ≤ h5.size := Nat.le_trans z3 (Keep.of_wr W5).1
    refine OwnK.aload X5 hx (hb hby at_18) (pc' := 20) rfl (v := (.ref a2)) rfl rfl ?_
    refine OwnK.iconst X5 hx (hb hby at_20) (pc' := 21) rfl (v := (1 : Int32)) (by decide) ?_
    refine OwnK.iloadN X5 hx (hb hby at_21) (pc' := 22) rfl (v := p1) rfl ?_
    refine OwnK.iastore X5 hx hZ e5 f7 (i := 1) (by decide) (by first | decide | omega) (Nat.le_of_ble_eq_true rfl) (hb hby at_22) (pc' := 23) rfl (fun T10 h10 X10 e10 W10 V10 => ?_)
    have f11 := f6.wr W10
    have f12 : Arv Z h10 a2 _ .int (4 : Int32) [(.int p0), (.int p1), (.int (0 : Int32)), (.int (0 : Int32))] (.int (0 : Int32)) := V10
    have N13 := Fr.snoc X10 N8 ge_a2
    have z14 : n0 ≤ h10.size := Nat.le_trans z9 (Keep.of_wr W10).1
    refine OwnK.aload X10 hx (hb hby at_23) (pc' := 25) rfl (v := (.ref a2)) rfl rfl ?_
    refine OwnK.iconst X10 hx (hb hby at_25) (pc' := 26) rfl (v := (2 : Int32)) (by decide) ?_
    refine OwnK.iloadN X10 hx (hb hby at_26) (pc' := 27) rfl (v := p0) rfl ?_
    refine OwnK.iconst X10 hx (hb hby at_27) (pc' := 28) rfl (v := (-1 : Int32)) (by decide) ?_
    refine OwnK.ixor X10 hx (hb hby at_28) (pc' := 29) rfl ?_
    refine OwnK.iastore X10 hx hZ e10 f12 (i := 2) (by decide) (by first | decide | omega) (Nat.le_of_ble_eq_true rfl) (hb hby at_29) (pc' := 30) rfl (fun T15 h15 X15 e15 W15 V15 => ?_)
    have f16 := f11.wr W15
    have f17 : Arv Z h15 a2 _ .int (4 : Int32) [(.int p0), (.int p1), (.int (p0 ^^^ (-1 : Int32))), (.int (0 : Int32))] (.int (0 : Int32)) := V15
    have N18 := Fr.snoc X15 N13 ge_a2
    have z19 : n0 ≤ h15.size := Nat.le_trans z14 (Keep.of_wr W15).1
    refine OwnK.aload X15 hx (hb hby at_30) (pc' := 32) rfl (v := (.ref a2)) rfl rfl ?_
    refine OwnK.iconst X15 hx (hb hby at_32) (pc' := 33) rfl (v := (3 : Int32)) (by decide) ?_
    refine OwnK.iloadN X15 hx (hb hby at_33) (pc' := 34) rfl (v := p1) rfl ?_
    refine OwnK.iconst X15 hx (hb hby at_34) (pc' := 35) rfl (v := (-1 : Int32)) (by decide) ?_
    refine OwnK.ixor X15 hx (hb hby at_35) (pc' := 36) rfl ?_
    refine OwnK.iastore X15 hx hZ e15 f17 (i := 3) (by decide) (by first | decide | omega) (Nat.le_of_ble_eq_true rfl) (hb hby at_36) (pc' := 37) rfl (fun T20 h20 X20 e20 W20 V20 => ?_)
    have f21 := f16.wr W20
    have f22 : Arv Z h20 a2 _ .int (4 : Int32) [(.int p0), (.int p1), (.int (p0 ^^^ (-1 : Int32))), (.int (p1 ^^^ (-1 : Int32)))] (.int (0 : Int32)) := V20
    have N23 := Fr.snoc X20 N18 ge_a2
    have z24 : n0 ≤ h20.size := Nat.le_trans z19 (Keep.of_wr W20).1
    refine OwnK.new_ X20 hx hZ hown (hw _ (List.mem_of_getElem? (i := 1) rfl)) (hw _ (List.mem_of_getElem? (i := 2) rfl)) (hw _ (List.mem_of_getElem? (i := 3) rfl)) e20 (hb hby at_37) (pc' := 40) rfl (by decide) (by decide) (fun T25 h25 a25 X25 e25 g25 E25 A25 D25 => ?_)
    have q26 : a2 ≠ a25 := Nat.ne_of_lt (Nat.lt_of_lt_of_le f22.lt (Nat.le_of_eq g25.symm))
    have ge_a25 : n0 ≤ a25 := Nat.le_trans z24 (Nat.le_of_eq g25.symm)
    have z27 : n0 ≤ h25.size := Nat.le_trans z24 E25.1
    have f28 := f22.ext E25
    have f29 := f21.ext E25
    have f30 : Fld Z h25 a25 "com/example/strict_reach/strictreach/IntList" "blocks" "[[I" .null := D25 (Or.inl (hw _ (List.mem_of_getElem? (i := 14) rfl))) (ty := (.array (.array .int))) (by decide)
    have f31 : Fld Z h25 a25 "com/example/strict_reach/strictreach/IntList" "size" "I" (.int (0 : Int32)) := D25 (Or.inl (hw _ (List.mem_of_getElem? (i := 25) rfl))) (ty := .int) (by decide)
    refine OwnK.dup X25 hx (hb hby at_40) (pc' := 41) rfl rfl ?_
    refine OwnK.callI_ X25 hx hZ hown (y := (⟨"com/example/strict_reach/strictreach/IntList", "<init>", "()V"⟩ : MethodName)) (a := a25) rfl (hw _ (List.mem_of_getElem? (i := 4) rfl)) (hw _ (List.mem_of_getElem? (i := 5) rfl)) (hw _ (List.mem_of_getElem? (i := 3) rfl)) (hw _ (List.mem_of_getElem? (i := 6) rfl)) rfl (by decide) (own_met1 l Z a0 hw h25 n0 z27 a25   ge_a25 f30 f31 A25 ) (by decide) (W := 1) (by decide) e25 (by rw [hml]; rfl) own_pd_1 (argsL := []) rfl (S := [(.ref a25)]) rfl (Nat.le_of_eq rfl) (hb hby at_41) (pc' := 44) rfl (by decide) (by decide) (fun T32 v32 L32 X32 hQ32 => ?_)
    obtain ⟨B32, K32, kB32, kK32, rfl, N32q, Kp32, hB32, hK32, hL32⟩ := hQ32
    have N33 := Fr.app N23 N32q
    have q34 : a2 ≠ B32 := Nat.ne_of_lt (Nat.lt_of_lt_of_le f28.lt hB32)
    have q35 : a25 ≠ B32 := Nat.ne_of_lt (Nat.lt_of_lt_of_le A25.lt hB32)
    have ge_B32 : n0 ≤ B32 := Nat.le_trans z27 hB32
    have q36 : a2 ≠ K32 := Nat.ne_of_lt (Nat.lt_of_lt_of_le f28.lt hK32)
    have q37 : a25 ≠ K32 := Nat.ne_of_lt (Nat.lt_of_lt_of_le A25.lt hK32)
    have ge_K32 : n0 ≤ K32 := Nat.le_trans z27 hK32
    have f38 := f28.keep Kp32 (ninS q26 nin0)
    have f39 := f29.keep Kp32
    have f40 := A25.keep Kp32
    have z41 : n0 ≤ T32.heap.size := Nat.le_trans z27 Kp32.1
    obtain ⟨IE32, IS32, IB32, IAB32, IAK32, IEB32, IEK32, IO32, IaB32, IaK32, IBK32⟩ := hL32
    have f42 : Arv Z T32.heap K32 _ .int (16 : Int32) [(.int (0 : Int32)), (.int (0 : Int32)), (.int (0 : Int32)), (.int (0 : Int32)), (.int (0 : Int32)), (.int (0 : Int32)), (.int (0 : Int32)), (.int (0 : Int32)), (.int (0 : Int32)), (.int (0 : Int32)), (.int (0 : Int32)), (.int (0 : Int32)), (.int (0 : Int32)), (.int (0 : Int32)), (.int (0 : Int32)), (.int (0 : Int32))] (.int (0 : Int32)) := IAK32
    refine OwnK.astore X32 hx (hb hby at_44) (pc' := 46) rfl rfl (Ls' := #[.val (.int p0), .val (.int p1), .val (.int p2), .val (.int p3), .val (.int p4), .val (.int (1 : Int32)), .val (.ref a2), .val (.ref a25), .unset, .unset]) rfl ?_
    refine OwnK.aload X32 hx (hb hby at_46) (pc' := 48) rfl (v := (.ref a25)) rfl rfl ?_
    refine OwnK.aload X32 hx (hb hby at_48) (pc' := 50) rfl (v := (.ref a2)) rfl rfl ?_
    refine OwnK.iconst X32 hx (hb hby at_50) (pc' := 51) rfl (v := (0 : Int32)) (by decide) ?_
    refine OwnK.iaload X32 hx hZ rfl f38 (by decide) (by first | decide | omega) (v := (.int p0)) rfl (hb hby at_51) (pc' := 52) rfl ?_
    refine OwnK.callV_ X32 hx hZ hown (y := (⟨"com/example/strict_reach/strictreach/IntList", "add", "(I)V"⟩ : MethodName)) (z := (⟨"com/example/strict_reach/strictreach/IntList", "add", "(I)V"⟩ : MethodName)) (a := a25) (hw _ (List.mem_of_getElem? (i := 15) rfl)) (hw _ (List.mem_of_getElem? (i := 16) rfl)) (notFace_of_selects (args := #[]) (mvT hZ (hw _ (List.mem_of_getElem? (i := 18) rfl)))) (hw _ (List.mem_of_getElem? (i := 18) rfl)) (hw _ (List.mem_of_getElem? (i := 17) rfl)) (hw _ (List.mem_of_getElem? (i := 19) rfl)) (hw _ (List.mem_of_getElem? (i := 3) rfl)) (by decide) IE32 (own_met3 l Z a0 hw T32.heap n0 z41 a25 p0 B32 K32 _ _ (0 : Int32) (16 : Int32) _ 0  ge_a25 ⟨IE32, IS32, IB32, IAB32, f42, IEB32, IEK32, IO32, IaB32, IaK32, IBK32⟩ ge_K32 (by decide) (Nat.le_of_ble_eq_true rfl) (by decide) (by decide) ) (by decide) (W := 0) (by decide) rfl (by rw [hml]; rfl) own_pd_4 (argsL := [(.int p0)]) rfl (S := []) rfl (Nat.le_of_eq rfl) (hb hby at_52) (pc' := 55) rfl (by decide) (by decide) (fun T43 v43 L43 X43 hQ43 => ?_)
    obtain ⟨rfl, N43q, Kp43, hL43⟩ := hQ43
    have N44 := Fr.app N33 N43q
    have f45 := f38.keep Kp43 (ninS q26 (ninS q36 nin0))
    have f46 := f39.keep Kp43
    have f47 := IE32.keep Kp43
    have f48 := IAB32.keep Kp43 (ninS (Ne.symm IaB32) (ninS IBK32 nin0))
    have f49 := IEB32.keep Kp43
    have f50 := IEK32.keep Kp43
    have z51 : n0 ≤ T43.heap.size := Nat.le_trans z41 Kp43.1
    rw [show ((0 : Int32) + (1 : Int32)) = (1 : Int32) from by decide] at hL43
    obtain ⟨IE43, IS43, IB43, IAB43, IAK43, IEB43, IEK43, IO43, IaB43, IaK43, IBK43⟩ := hL43
    have f52 : Arv Z T43.heap K32 _ .int (16 : Int32) [(.int p0), (.int (0 : Int32)), (.int (0 : Int32)), (.int (0 : Int32)), (.int (0 : Int32)), (.int (0 : Int32)), (.int (0 : Int32)), (.int (0 : Int32)), (.int (0 : Int32)), (.int (0 : Int32)), (.int (0 : Int32)), (.int (0 : Int32)), (.int (0 : Int32)), (.int (0 : Int32)), (.int (0 : Int32)), (.int (0 : Int32))] (.int (0 : Int32)) := IAK43
    refine OwnK.iload X43 hx (hb hby at_55) (pc' := 57) rfl (v := (1 : Int32)) rfl ?_
    refine OwnK.iconst X43 hx (hb hby at_57) (pc' := 58) rfl (v := (1 : Int32)) (by decide) ?_
    refine OwnK.icmp_le X43 hx (hb hby at_58) (by decide) (pcT := 70) (by decide) (pc' := 61) rfl (fun hc58 => ?_) (fun (hc58 : 1 < 1) => absurd hc58 (by decide))
    refine OwnK.iload X43 hx (hb hby at_70) (pc' := 72) rfl (v := (1 : Int32)) rfl ?_
    refine OwnK.iconst X43 hx (hb hby at_72) (pc' := 73) rfl (v := (2 : Int32)) (by decide) ?_
    refine OwnK.icmp_le X43 hx (hb hby at_73) (by decide) (pcT := 85) (by decide) (pc' := 76) rfl (fun hc73 => ?_) (fun (hc73 : 2 < 1) => absurd hc73 (by decide))
    refine OwnK.iload X43 hx (hb hby at_85) (pc' := 87) rfl (v := (1 : Int32)) rfl ?_
    refine OwnK.iconst X43 hx (hb hby at_87) (pc' := 88) rfl (v := (3 : Int32)) (by decide) ?_
    refine OwnK.icmp_le X43 hx (hb hby at_88) (by decide) (pcT := 100) (by decide) (pc' := 91) rfl (fun hc88 => ?_) (fun (hc88 : 3 < 1) => absurd hc88 (by decide))
    refine OwnK.iloadN X43 hx (hb hby at_100) (pc' := 101) rfl (v := p3) rfl ?_
    refine OwnK.ldcI X43 hx hZ hown (hw _ (List.mem_of_getElem? (i := 27) rfl)) (hb hby at_101) (pc' := 103) rfl ?_
    refine OwnK.iand X43 hx (hb hby at_103) (pc' := 104) rfl ?_
    refine OwnK.iload X43 hx (hb hby at_104) (pc' := 106) rfl (v := (1 : Int32)) rfl ?_
    refine OwnK.irem X43 hx (hb hby at_106) (pc' := 107) rfl (by decide) ?_
    refine OwnK.istoreG X43 hx (hb hby at_107) (pc' := 109) rfl (Ls' := fun u => #[.val (.int p0), .val (.int p1), .val (.int p2), .val (.int p3), .val (.int p4), .val (.int (1 : Int32)), .val (.ref a2), .val (.ref a25), .val (.int u), .unset]) (fun u => rfl) (fun u53 (hu53 : u53 = ((p3 &&& (2147483647 : Int32)) % (1 : Int32))) => ?_)
    have m3 := own_i1 p3
    rw [← hu53] at m3
    rcases m3 with rfl
    refine OwnK.aload X43 hx (hb hby at_109) (pc' := 111) rfl (v := (.ref a25)) rfl rfl ?_
    refine OwnK.iload X43 hx (hb hby at_111) (pc' := 113) rfl (v := (0 : Int32)) rfl ?_
    refine OwnK.iloadN X43 hx (hb hby at_113) (pc' := 114) rfl (v := p2) rfl ?_
    refine OwnK.callV_ X43 hx hZ hown (y := (⟨"com/example/strict_reach/strictreach/IntList", "set", "(II)V"⟩ : MethodName)) (z := (⟨"com/example/strict_reach/strictreach/IntList", "set", "(II)V"⟩ : MethodName)) (a := a25) (hw _ (List.mem_of_getElem? (i := 28) rfl)) (hw _ (List.mem_of_getElem? (i := 29) rfl)) (notFace_of_selects (args := #[]) (mvT hZ (hw _ (List.mem_of_getElem? (i := 31) rfl)))) (hw _ (List.mem_of_getElem? (i := 31) rfl)) (hw _ (List.mem_of_getElem? (i := 30) rfl)) (hw _ (List.mem_of_getElem? (i := 32) rfl)) (hw _ (List.mem_of_getElem? (i := 3) rfl)) (by decide) IE43 (own_met5 l Z a0 hw T43.heap n0 z51 a25 (0 : Int32) p2 B32 K32 _ _ (1 : Int32) (16 : Int32) _ 0  ge_a25 ⟨IE43, IS43, IB43, IAB43, f52, IEB43, IEK43, IO43, IaB43, IaK43, IBK43⟩ ge_K32 (by decide) (by decide) (Nat.le_of_ble_eq_true rfl) ) (by decide) (W := 0) (by decide) rfl (by rw [hml]; rfl) own_pd_6 (argsL := [(.int (0 : Int32)), (.int p2)]) rfl (S := []) rfl (Nat.le_of_eq rfl) (hb hby at_114) (pc' := 117) rfl (by decide) (by decide) (fun T54 v54 L54 X54 hQ54 => ?_)
    obtain ⟨rfl, N54q, Kp54, hL54⟩ := hQ54
    have N55 := Fr.app N44 N54q
    have f56 := f45.keep Kp54 (ninS q26 (ninS q36 nin0))
    have f57 := f46.keep Kp54
    have f58 := IE43.keep Kp54
    have f59 := IAB43.keep Kp54 (ninS (Ne.symm IaB43) (ninS IBK43 nin0))
    have f60 := IEB43.keep Kp54
    have f61 := IEK43.keep Kp54
    have z62 : n0 ≤ T54.heap.size := Nat.le_trans z51 Kp54.1
    obtain ⟨IE54, IS54, IB54, IAB54, IAK54, IEB54, IEK54, IO54, IaB54, IaK54, IBK54⟩ := hL54
    have f63 : Arv Z T54.heap K32 _ .int (16 : Int32) [(.int p2), (.int (0 : Int32)), (.int (0 : Int32)), (.int (0 : Int32)), (.int (0 : Int32)), (.int (0 : Int32)), (.int (0 : Int32)), (.int (0 : Int32)), (.int (0 : Int32)), (.int (0 : Int32)), (.int (0 : Int32)), (.int (0 : Int32)), (.int (0 : Int32)), (.int (0 : Int32)), (.int (0 : Int32)), (.int (0 : Int32))] (.int (0 : Int32)) := IAK54
    refine OwnK.aload X54 hx (hb hby at_117) (pc' := 119) rfl (v := (.ref a25)) rfl rfl ?_
    refine OwnK.callV_ X54 hx hZ hown (y := (⟨"com/example/strict_reach/strictreach/IntList", "size", "()I"⟩ : MethodName)) (z := (⟨"com/example/strict_reach/strictreach/IntList", "size", "()I"⟩ : MethodName)) (a := a25) (hw _ (List.mem_of_getElem? (i := 41) rfl)) (hw _ (List.mem_of_getElem? (i := 42) rfl)) (notFace_of_selects (args := #[]) (mvT hZ (hw _ (List.mem_of_getElem? (i := 44) rfl)))) (hw _ (List.mem_of_getElem? (i := 44) rfl)) (hw _ (List.mem_of_getElem? (i := 43) rfl)) (hw _ (List.mem_of_getElem? (i := 45) rfl)) (hw _ (List.mem_of_getElem? (i := 3) rfl)) (by decide) IE54 (own_met8 l Z a0 hw T54.heap a25 B32 K32 _ _ (1 : Int32) (16 : Int32) _ ⟨IE54, IS54, IB54, IAB54, f63, IEB54, IEK54, IO54, IaB54, IaK54, IBK54⟩ ) (by decide) (W := 0) (by decide) rfl (by rw [hml]; rfl) own_pd_0 (argsL := []) rfl (S := []) rfl (Nat.le_of_eq rfl) (hb hby at_119) (pc' := 122) rfl (by decide) (by decide) (fun T64 v64 L64 X64 hQ64 => ?_)
    obtain ⟨rfl, e64, rfl⟩ := hQ64
    have N65 := Fr.app N55 (Fr.nil n0)
    refine OwnK.iload X64 hx (hb hby at_122) (pc' := 124) rfl (v := (1 : Int32)) rfl ?_
    refine OwnK.icmp_ne X64 hx (hb hby at_124) (by decide) (pcT := 131) (by decide) (pc' := 127) rfl (fun (hc124 : ¬ 1 = 1) => absurd hc124 (by decide)) (fun hc124 => ?_)
    refine OwnK.iconst X64 hx (hb hby at_127) (pc' := 128) rfl (v := (1 : Int32)) (by decide) ?_
    refine OwnK.goto_ X64 hx (hb hby at_128) (by decide) (pc' := 132) (by decide) ?_
    refine OwnK.istore X64 hx (hb hby at_132) (pc' := 134) rfl (Ls' := #[.val (.int p0), .val (.int p1), .val (.int p2), .val (.int p3), .val (.int p4), .val (.int (1 : Int32)), .val (.ref a2), .val (.ref a25), .val (.int (0 : Int32)), .val (.int (1 : Int32))]) rfl ?_
    refine OwnK.iload X64 hx (hb hby at_134) (pc' := 136) rfl (v := (1 : Int32)) rfl ?_
    refine OwnK.if_eq X64 hx (hb hby at_136) (by decide) (pcT := 161) (by decide) (pc' := 139) rfl (fun (hc136 : 1 = 0) => absurd hc136 (by decide)) (fun hc136 => ?_)
    refine OwnK.aload X64 hx (hb hby at_139) (pc' := 141) rfl (v := (.ref a25)) rfl rfl ?_
    refine OwnK.iconst X64 hx (hb hby at_141) (pc' := 142) rfl (v := (0 : Int32)) (by decide) ?_
    refine OwnK.callV_ X64 hx hZ hown (y := (⟨"com/example/strict_reach/strictreach/IntList", "get", "(I)I"⟩ : MethodName)) (z := (⟨"com/example/strict_reach/strictreach/IntList", "get", "(I)I"⟩ : MethodName)) (a := a25) (hw _ (List.mem_of_getElem? (i := 46) rfl)) (hw _ (List.mem_of_getElem? (i := 47) rfl)) (notFace_of_selects (args := #[]) (mvT hZ (hw _ (List.mem_of_getElem? (i := 49) rfl)))) (hw _ (List.mem_of_getElem? (i := 49) rfl)) (hw _ (List.mem_of_getElem? (i := 48) rfl)) (hw _ (List.mem_of_getElem? (i := 50) rfl)) (hw _ (List.mem_of_getElem? (i := 3) rfl)) (by decide) IE54 (own_met9 l Z a0 hw T54.heap a25 (0 : Int32) B32 K32 _ _ (1 : Int32) (16 : Int32) _ 0 p2 ⟨IE54, IS54, IB54, IAB54, f63, IEB54, IEK54, IO54, IaB54, IaK54, IBK54⟩ (by decide) (by decide) rfl ) (by decide) (W := 0) (by decide) e64 (by rw [hml]; rfl) own_pd_3 (argsL := [(.int (0 : Int32))]) rfl (S := []) rfl (Nat.le_of_eq rfl) (hb hby at_142) (pc' := 145) rfl (by decide) (by decide) (fun T66 v66 L66 X66 hQ66 => ?_)
    obtain ⟨rfl, e66, rfl⟩ := hQ66
    have N67 := Fr.app N65 (Fr.nil n0)
    refine OwnK.iconst X66 hx (hb hby at_145) (pc' := 146) rfl (v := (0 : Int32)) (by decide) ?_
    refine OwnK.iload X66 hx (hb hby at_146) (pc' := 148) rfl (v := (0 : Int32)) rfl ?_
    refine OwnK.iloadN X66 hx (hb hby at_148) (pc' := 149) rfl (v := p2) rfl ?_
    refine OwnK.aload X66 hx (hb hby at_149) (pc' := 151) rfl (v := (.ref a2)) rfl rfl ?_
    refine OwnK.callS_ X66 hx hZ hown (y := (⟨"com/example/strict_reach/strictreach/IntListSetPinLaw", "expect", "(III[I)I"⟩ : MethodName)) (hw _ (List.mem_of_getElem? (i := 51) rfl)) (hw _ (List.mem_of_getElem? (i := 52) rfl)) (hw _ (List.mem_of_getElem? (i := 53) rfl)) (hw _ (List.mem_of_getElem? (i := 54) rfl)) (by decide) (own_met10 l Z a0 hw T54.heap (0 : Int32) (0 : Int32) p2 a2 _ _ p0 0 f56 (by decide) (by decide) rfl ) (by decide) (W := 1) (by decide) e66 (by rw [hml]; rfl) own_pd_7 (argsL := [(.int (0 : Int32)), (.int (0 : Int32)), (.int p2), (.ref a2)]) rfl (S := [(.int p2)]) rfl (Nat.le_of_eq rfl) (hb hby at_151) (pc' := 154) rfl (by decide) (by decide) (fun T68 v68 L68 X68 hQ68 => ?_)
    obtain ⟨hv68, e68, rfl⟩ := hQ68
    obtain rfl : v68 = some (.int p2) := hv68.trans (by first | rw [if_pos (by decide)] | rw [if_neg (by decide)])
    have N69 := Fr.app N67 (Fr.nil n0)
    refine OwnK.icmp_ne X68 hx (hb hby at_154) (by decide) (pcT := 161) (by decide) (pc' := 157) rfl (fun (hc154 : ¬ p2.toInt = p2.toInt) => absurd rfl hc154) (fun hc154 => ?_)
    refine OwnK.iconst X68 hx (hb hby at_157) (pc' := 158) rfl (v := (1 : Int32)) (by decide) ?_
    refine OwnK.goto_ X68 hx (hb hby at_158) (by decide) (pc' := 162) (by decide) ?_
    refine OwnK.istore X68 hx (hb hby at_162) (pc' := 164) rfl (Ls' := #[.val (.int p0), .val (.int p1), .val (.int p2), .val (.int p3), .val (.int p4), .val (.int (1 : Int32)), .val (.ref a2), .val (.ref a25), .val (.int (0 : Int32)), .val (.int (1 : Int32))]) rfl ?_
    refine OwnK.iload X68 hx (hb hby at_164) (pc' := 166) rfl (v := (1 : Int32)) rfl ?_
    refine OwnK.iconst X68 hx (hb hby at_166) (pc' := 167) rfl (v := (1 : Int32)) (by decide) ?_
    refine OwnK.icmp_le X68 hx (hb hby at_167) (by decide) (pcT := 200) (by decide) (pc' := 170) rfl (fun hc167 => ?_) (fun (hc167 : 1 < 1) => absurd hc167 (by decide))
    refine OwnK.iload X68 hx (hb hby at_200) (pc' := 202) rfl (v := (1 : Int32)) rfl ?_
    refine OwnK.iconst X68 hx (hb hby at_202) (pc' := 203) rfl (v := (2 : Int32)) (by decide) ?_
    refine OwnK.icmp_le X68 hx (hb hby at_203) (by decide) (pcT := 236) (by decide) (pc' := 206) rfl (fun hc203 => ?_) (fun (hc203 : 2 < 1) => absurd hc203 (by decide))
    refine OwnK.iload X68 hx (hb hby at_236) (pc' := 238) rfl (v := (1 : Int32)) rfl ?_
    refine OwnK.iconst X68 hx (hb hby at_238) (pc' := 239) rfl (v := (3 : Int32)) (by decide) ?_
    refine OwnK.icmp_le X68 hx (hb hby at_239) (by decide) (pcT := 272) (by decide) (pc' := 242) rfl (fun hc239 => ?_) (fun (hc239 : 3 < 1) => absurd hc239 (by decide))
    refine OwnK.iload X68 hx (hb hby at_272) (pc' := 274) rfl (v := (1 : Int32)) rfl ?_
    refine OwnK.retN_ X68 hx hret (by simp) hlk (hb hby at_274) (by decide) (by decide) ?_
    exact ⟨rfl, N69⟩
  · refine OwnK.iconst X0 hx (hb hby at_8) (pc' := 9) rfl (v := (4 : Int32)) (by decide) ?_
    refine OwnK.newP_ X0 hx hZ (hw _ (List.mem_of_getElem? (i := 0) rfl)) e0 (hb hby at_9) (pc' := 11) rfl (n := (4 : Int32)) (by decide) (cap := 4) (by decide) (by decide) (by decide) (by decide) (ad := "[I") (by decide) (fun T70 h70 a70 k70 X70 e70 g70 E70 V70 Q70 => ?_)
    have ge_a70 : n0 ≤ a70 := Nat.le_trans Z0 (Nat.le_of_eq g70.symm)
    have z71 : n0 ≤ h70.size := Nat.le_trans Z0 E70.1
    have f72 : Arv Z h70 a70 k70 .int (4 : Int32) [(.int (0 : Int32)), (.int (0 : Int32)), (.int (0 : Int32)), (.int (0 : Int32))] (.int (0 : Int32)) := V70.pad (pad_rep [] (.int (0 : Int32)) 4)
    refine OwnK.astore X70 hx (hb hby at_11) (pc' := 13) rfl rfl (Ls' := #[.val (.int p0), .val (.int p1), .val (.int p2), .val (.int p3), .val (.int p4), .val (.int (2 : Int32)), .val (.ref a70), .unset, .unset, .unset]) rfl ?_
    refine OwnK.aload X70 hx (hb hby at_13) (pc' := 15) rfl (v := (.ref a70)) rfl rfl ?_
    refine OwnK.iconst X70 hx (hb hby at_15) (pc' := 16) rfl (v := (0 : Int32)) (by decide) ?_
    refine OwnK.iloadN X70 hx (hb hby at_16) (pc' := 17) rfl (v := p0) rfl ?_
    refine OwnK.iastore X70 hx hZ e70 f72 (i := 0) (by decide) (by first | decide | omega) (Nat.le_of_ble_eq_true rfl) (hb hby at_17) (pc' := 18) rfl (fun T73 h73 X73 e73 W73 V73 => ?_)
    have f74 := Q70.wr W73
    have f75 : Arv Z h73 a70 _ .int (4 : Int32) [(.int p0), (.int (0 : Int32)), (.int (0 : Int32)), (.int (0 : Int32))] (.int (0 : Int32)) := V73
    have N76 := Fr.snoc X73 N0 ge_a70
    have z77 : n0 ≤ h73.size := Nat.le_trans z71 (Keep.of_wr W73).1
    refine OwnK.aload X73 hx (hb hby at_18) (pc' := 20) rfl (v := (.ref a70)) rfl rfl ?_
    refine OwnK.iconst X73 hx (hb hby at_20) (pc' := 21) rfl (v := (1 : Int32)) (by decide) ?_
    refine OwnK.iloadN X73 hx (hb hby at_21) (pc' := 22) rfl (v := p1) rfl ?_
    refine OwnK.iastore X73 hx hZ e73 f75 (i := 1) (by decide) (by first | decide | omega) (Nat.le_of_ble_eq_true rfl) (hb hby at_22) (pc' := 23) rfl (fun T78 h78 X78 e78 W78 V78 => ?_)
    have f79 := f74.wr W78
    have f80 : Arv Z h78 a70 _ .int (4 : Int32) [(.int p0), (.int p1), (.int (0 : Int32)), (.int (0 : Int32))] (.int (0 : Int32)) := V78
    have N81 := Fr.snoc X78 N76 ge_a70
    have z82 : n0 ≤ h78.size := Nat.le_trans z77 (Keep.of_wr W78).1
    refine OwnK.aload X78 hx (hb hby at_23) (pc' := 25) rfl (v := (.ref a70)) rfl rfl ?_
    refine OwnK.iconst X78 hx (hb hby at_25) (pc' := 26) rfl (v := (2 : Int32)) (by decide) ?_
    refine OwnK.iloadN X78 hx (hb hby at_26) (pc' := 27) rfl (v := p0) rfl ?_
    refine OwnK.iconst X78 hx (hb hby at_27) (pc' := 28) rfl (v := (-1 : Int32)) (by decide) ?_
    refine OwnK.ixor X78 hx (hb hby at_28) (pc' := 29) rfl ?_
    refine OwnK.iastore X78 hx hZ e78 f80 (i := 2) (by decide) (by first | decide | omega) (Nat.le_of_ble_eq_true rfl) (hb hby at_29) (pc' := 30) rfl (fun T83 h83 X83 e83 W83 V83 => ?_)
    have f84 := f79.wr W83
    have f85 : Arv Z h83 a70 _ .int (4 : Int32) [(.int p0), (.int p1), (.int (p0 ^^^ (-1 : Int32))), (.int (0 : Int32))] (.int (0 : Int32)) := V83
    have N86 := Fr.snoc X83 N81 ge_a70
    have z87 : n0 ≤ h83.size := Nat.le_trans z82 (Keep.of_wr W83).1
    refine OwnK.aload X83 hx (hb hby at_30) (pc' := 32) rfl (v := (.ref a70)) rfl rfl ?_
    refine OwnK.iconst X83 hx (hb hby at_32) (pc' := 33) rfl (v := (3 : Int32)) (by decide) ?_
    refine OwnK.iloadN X83 hx (hb hby at_33) (pc' := 34) rfl (v := p1) rfl ?_
    refine OwnK.iconst X83 hx (hb hby at_34) (pc' := 35) rfl (v := (-1 : Int32)) (by decide) ?_
    refine OwnK.ixor X83 hx (hb hby at_35) (pc' := 36) rfl ?_
    refine OwnK.iastore X83 hx hZ e83 f85 (i := 3) (by decide) (by first | decide | omega) (Nat.le_of_ble_eq_true rfl) (hb hby at_36) (pc' := 37) rfl (fun T88 h88 X88 e88 W88 V88 => ?_)
    have f89 := f84.wr W88
    have f90 : Arv Z h88 a70 _ .int (4 : Int32) [(.int p0), (.int p1), (.int (p0 ^^^ (-1 : Int32))), (.int (p1 ^^^ (-1 : Int32)))] (.int (0 : Int32)) := V88
    have N91 := Fr.snoc X88 N86 ge_a70
    have z92 : n0 ≤ h88.size := Nat.le_trans z87 (Keep.of_wr W88).1
    refine OwnK.new_ X88 hx hZ hown (hw _ (List.mem_of_getElem? (i := 1) rfl)) (hw _ (List.mem_of_getElem? (i := 2) rfl)) (hw _ (List.mem_of_getElem? (i := 3) rfl)) e88 (hb hby at_37) (pc' := 40) rfl (by decide) (by decide) (fun T93 h93 a93 X93 e93 g93 E93 A93 D93 => ?_)
    have q94 : a70 ≠ a93 := Nat.ne_of_lt (Nat.lt_of_lt_of_le f90.lt (Nat.le_of_eq g93.symm))
    have ge_a93 : n0 ≤ a93 := Nat.le_trans z92 (Nat.le_of_eq g93.symm)
    have z95 : n0 ≤ h93.size := Nat.le_trans z92 E93.1
    have f96 := f90.ext E93
    have f97 := f89.ext E93
    have f98 : Fld Z h93 a93 "com/example/strict_reach/strictreach/IntList" "blocks" "[[I" .null := D93 (Or.inl (hw _ (List.mem_of_getElem? (i := 14) rfl))) (ty := (.array (.array .int))) (by decide)
    have f99 : Fld Z h93 a93 "com/example/strict_reach/strictreach/IntList" "size" "I" (.int (0 : Int32)) := D93 (Or.inl (hw _ (List.mem_of_getElem? (i := 25) rfl))) (ty := .int) (by decide)
    refine OwnK.dup X93 hx (hb hby at_40) (pc' := 41) rfl rfl ?_
    refine OwnK.callI_ X93 hx hZ hown (y := (⟨"com/example/strict_reach/strictreach/IntList", "<init>", "()V"⟩ : MethodName)) (a := a93) rfl (hw _ (List.mem_of_getElem? (i := 4) rfl)) (hw _ (List.mem_of_getElem? (i := 5) rfl)) (hw _ (List.mem_of_getElem? (i := 3) rfl)) (hw _ (List.mem_of_getElem? (i := 6) rfl)) rfl (by decide) (own_met1 l Z a0 hw h93 n0 z95 a93   ge_a93 f98 f99 A93 ) (by decide) (W := 1) (by decide) e93 (by rw [hml]; rfl) own_pd_1 (argsL := []) rfl (S := [(.ref a93)]) rfl (Nat.le_of_eq rfl) (hb hby at_41) (pc' := 44) rfl (by decide) (by decide) (fun T100 v100 L100 X100 hQ100 => ?_)
    obtain ⟨B100, K100, kB100, kK100, rfl, N100q, Kp100, hB100, hK100, hL100⟩ := hQ100
    have N101 := Fr.app N91 N100q
    have q102 : a70 ≠ B100 := Nat.ne_of_lt (Nat.lt_of_lt_of_le f96.lt hB100)
    have q103 : a93 ≠ B100 := Nat.ne_of_lt (Nat.lt_of_lt_of_le A93.lt hB100)
    have ge_B100 : n0 ≤ B100 := Nat.le_trans z95 hB100
    have q104 : a70 ≠ K100 := Nat.ne_of_lt (Nat.lt_of_lt_of_le f96.lt hK100)
    have q105 : a93 ≠ K100 := Nat.ne_of_lt (Nat.lt_of_lt_of_le A93.lt hK100)
    have ge_K100 : n0 ≤ K100 := Nat.le_trans z95 hK100
    have f106 := f96.keep Kp100 (ninS q94 nin0)
    have f107 := f97.keep Kp100
    have f108 := A93.keep Kp100
    have z109 : n0 ≤ T100.heap.size := Nat.le_trans z95 Kp100.1
    obtain ⟨IE100, IS100, IB100, IAB100, IAK100, IEB100, IEK100, IO100, IaB100, IaK100, IBK100⟩ := hL100
    have f110 : Arv Z T100.heap K100 _ .int (16 : Int32) [(.int (0 : Int32)), (.int (0 : Int32)), (.int (0 : Int32)), (.int (0 : Int32)), (.int (0 : Int32)), (.int (0 : Int32)), (.int (0 : Int32)), (.int (0 : Int32)), (.int (0 : Int32)), (.int (0 : Int32)), (.int (0 : Int32)), (.int (0 : Int32)), (.int (0 : Int32)), (.int (0 : Int32)), (.int (0 : Int32)), (.int (0 : Int32))] (.int (0 : Int32)) := IAK100
    refine OwnK.astore X100 hx (hb hby at_44) (pc' := 46) rfl rfl (Ls' := #[.val (.int p0), .val (.int p1), .val (.int p2), .val (.int p3), .val (.int p4), .val (.int (2 : Int32)), .val (.ref a70), .val (.ref a93), .unset, .unset]) rfl ?_
    refine OwnK.aload X100 hx (hb hby at_46) (pc' := 48) rfl (v := (.ref a93)) rfl rfl ?_
    refine OwnK.aload X100 hx (hb hby at_48) (pc' := 50) rfl (v := (.ref a70)) rfl rfl ?_
    refine OwnK.iconst X100 hx (hb hby at_50) (pc' := 51) rfl (v := (0 : Int32)) (by decide) ?_
    refine OwnK.iaload X100 hx hZ rfl f106 (by decide) (by first | decide | omega) (v := (.int p0)) rfl (hb hby at_51) (pc' := 52) rfl ?_
    refine OwnK.callV_ X100 hx hZ hown (y := (⟨"com/example/strict_reach/strictreach/IntList", "add", "(I)V"⟩ : MethodName)) (z := (⟨"com/example/strict_reach/strictreach/IntList", "add", "(I)V"⟩ : MethodName)) (a := a93) (hw _ (List.mem_of_getElem? (i := 15) rfl)) (hw _ (List.mem_of_getElem? (i := 16) rfl)) (notFace_of_selects (args := #[]) (mvT hZ (hw _ (List.mem_of_getElem? (i := 18) rfl)))) (hw _ (List.mem_of_getElem? (i := 18) rfl)) (hw _ (List.mem_of_getElem? (i := 17) rfl)) (hw _ (List.mem_of_getElem? (i := 19) rfl)) (hw _ (List.mem_of_getElem? (i := 3) rfl)) (by decide) IE100 (own_met3 l Z a0 hw T100.heap n0 z109 a93 p0 B100 K100 _ _ (0 : Int32) (16 : Int32) _ 0  ge_a93 ⟨IE100, IS100, IB100, IAB100, f110, IEB100, IEK100, IO100, IaB100, IaK100, IBK100⟩ ge_K100 (by decide) (Nat.le_of_ble_eq_true rfl) (by decide) (by decide) ) (by decide) (W := 0) (by decide) rfl (by rw [hml]; rfl) own_pd_4 (argsL := [(.int p0)]) rfl (S := []) rfl (Nat.le_of_eq rfl) (hb hby at_52) (pc' := 55) rfl (by decide) (by decide) (fun T111 v111 L111 X111 hQ111 => ?_)
    obtain ⟨rfl, N111q, Kp111, hL111⟩ := hQ111
    have N112 := Fr.app N101 N111q
    have f113 := f106.keep Kp111 (ninS q94 (ninS q104 nin0))
    have f114 := f107.keep Kp111
    have f115 := IE100.keep Kp111
    have f116 := IAB100.keep Kp111 (ninS (Ne.symm IaB100) (ninS IBK100 nin0))
    have f117 := IEB100.keep Kp111
    have f118 := IEK100.keep Kp111
    have z119 : n0 ≤ T111.heap.size := Nat.le_trans z109 Kp111.1
    rw [show ((0 : Int32) + (1 : Int32)) = (1 : Int32) from by decide] at hL111
    obtain ⟨IE111, IS111, IB111, IAB111, IAK111, IEB111, IEK111, IO111, IaB111, IaK111, IBK111⟩ := hL111
    have f120 : Arv Z T111.heap K100 _ .int (16 : Int32) [(.int p0), (.int (0 : Int32)), (.int (0 : Int32)), (.int (0 : Int32)), (.int (0 : Int32)), (.int (0 : Int32)), (.int (0 : Int32)), (.int (0 : Int32)), (.int (0 : Int32)), (.int (0 : Int32)), (.int (0 : Int32)), (.int (0 : Int32)), (.int (0 : Int32)), (.int (0 : Int32)), (.int (0 : Int32)), (.int (0 : Int32))] (.int (0 : Int32)) := IAK111
    refine OwnK.iload X111 hx (hb hby at_55) (pc' := 57) rfl (v := (2 : Int32)) rfl ?_
    refine OwnK.iconst X111 hx (hb hby at_57) (pc' := 58) rfl (v := (1 : Int32)) (by decide) ?_
    refine OwnK.icmp_le X111 hx (hb hby at_58) (by decide) (pcT := 70) (by decide) (pc' := 61) rfl (fun (hc58 : 2 ≤ 1) => absurd hc58 (by decide)) (fun hc58 => ?_)
    refine OwnK.aload X111 hx (hb hby at_61) (pc' := 63) rfl (v := (.ref a93)) rfl rfl ?_
    refine OwnK.aload X111 hx (hb hby at_63) (pc' := 65) rfl (v := (.ref a70)) rfl rfl ?_
    refine OwnK.iconst X111 hx (hb hby at_65) (pc' := 66) rfl (v := (1 : Int32)) (by decide) ?_
    refine OwnK.iaload X111 hx hZ rfl f113 (by decide) (by first | decide | omega) (v := (.int p1)) rfl (hb hby at_66) (pc' := 67) rfl ?_
    refine OwnK.callV_ X111 hx hZ hown (y := (⟨"com/example/strict_reach/strictreach/IntList", "add", "(I)V"⟩ : MethodName)) (z := (⟨"com/example/strict_reach/strictreach/IntList", "add", "(I)V"⟩ : MethodName)) (a := a93) (hw _ (List.mem_of_getElem? (i := 15) rfl)) (hw _ (List.mem_of_getElem? (i := 16) rfl)) (notFace_of_selects (args := #[]) (mvT hZ (hw _ (List.mem_of_getElem? (i := 18) rfl)))) (hw _ (List.mem_of_getElem? (i := 18) rfl)) (hw _ (List.mem_of_getElem? (i := 17) rfl)) (hw _ (List.mem_of_getElem? (i := 19) rfl)) (hw _ (List.mem_of_getElem? (i := 3) rfl)) (by decide) IE111 (own_met3 l Z a0 hw T111.heap n0 z119 a93 p1 B100 K100 _ _ (1 : Int32) (16 : Int32) _ 1  ge_a93 ⟨IE111, IS111, IB111, IAB111, f120, IEB111, IEK111, IO111, IaB111, IaK111, IBK111⟩ ge_K100 (by decide) (Nat.le_of_ble_eq_true rfl) (by decide) (by decide) ) (by decide) (W := 0) (by decide) rfl (by rw [hml]; rfl) own_pd_4 (argsL := [(.int p1)]) rfl (S := []) rfl (Nat.le_of_eq rfl) (hb hby at_67) (pc' := 70) rfl (by decide) (by decide) (fun T121 v121 L121 X121 hQ121 => ?_)
    obtain ⟨rfl, N121q, Kp121, hL121⟩ := hQ121
    have N122 := Fr.app N112 N121q
    have f123 := f113.keep Kp121 (ninS q94 (ninS q104 nin0))
    have f124 := f114.keep Kp121
    have f125 := IE111.keep Kp121
    have f126 := IAB111.keep Kp121 (ninS (Ne.symm IaB111) (ninS IBK111 nin0))
    have f127 := IEB111.keep Kp121
    have f128 := IEK111.keep Kp121
    have z129 : n0 ≤ T121.heap.size := Nat.le_trans z119 Kp121.1
    rw [show ((1 : Int32) + (1 : Int32)) = (2 : Int32) from by decide] at hL121
    obtain ⟨IE121, IS121, IB121, IAB121, IAK121, IEB121, IEK121, IO121, IaB121, IaK121, IBK121⟩ := hL121
    have f130 : Arv Z T121.heap K100 _ .int (16 : Int32) [(.int p0), (.int p1), (.int (0 : Int32)), (.int (0 : Int32)), (.int (0 : Int32)), (.int (0 : Int32)), (.int (0 : Int32)), (.int (0 : Int32)), (.int (0 : Int32)), (.int (0 : Int32)), (.int (0 : Int32)), (.int (0 : Int32)), (.int (0 : Int32)), (.int (0 : Int32)), (.int (0 : Int32)), (.int (0 : Int32))] (.int (0 : Int32)) := IAK121
    refine OwnK.iload X121 hx (hb hby at_70) (pc' := 72) rfl (v := (2 : Int32)) rfl ?_
    refine OwnK.iconst X121 hx (hb hby at_72) (pc' := 73) rfl (v := (2 : Int32)) (by decide) ?_
    refine OwnK.icmp_le X121 hx (hb hby at_73) (by decide) (pcT := 85) (by decide) (pc' := 76) rfl (fun hc73 => ?_) (fun (hc73 : 2 < 2) => absurd hc73 (by decide))
    refine OwnK.iload X121 hx (hb hby at_85) (pc' := 87) rfl (v := (2 : Int32)) rfl ?_
    refine OwnK.iconst X121 hx (hb hby at_87) (pc' := 88) rfl (v := (3 : Int32)) (by decide) ?_
    refine OwnK.icmp_le X121 hx (hb hby at_88) (by decide) (pcT := 100) (by decide) (pc' := 91) rfl (fun hc88 => ?_) (fun (hc88 : 3 < 2) => absurd hc88 (by decide))
    refine OwnK.iloadN X121 hx (hb hby at_100) (pc' := 101) rfl (v := p3) rfl ?_
    refine OwnK.ldcI X121 hx hZ hown (hw _ (List.mem_of_getElem? (i := 27) rfl)) (hb hby at_101) (pc' := 103) rfl ?_
    refine OwnK.iand X121 hx (hb hby at_103) (pc' := 104) rfl ?_
    refine OwnK.iload X121 hx (hb hby at_104) (pc' := 106) rfl (v := (2 : Int32)) rfl ?_
    refine OwnK.irem X121 hx (hb hby at_106) (pc' := 107) rfl (by decide) ?_
    refine OwnK.istoreG X121 hx (hb hby at_107) (pc' := 109) rfl (Ls' := fun u => #[.val (.int p0), .val (.int p1), .val (.int p2), .val (.int p3), .val (.int p4), .val (.int (2 : Int32)), .val (.ref a70), .val (.ref a93), .val (.int u), .unset]) (fun u => rfl) (fun u131 (hu131 : u131 = ((p3 &&& (2147483647 : Int32)) % (2 : Int32))) => ?_)
    have m3 := own_i2 p3
    rw [← hu131] at m3
    rcases m3 with rfl | rfl
    · refine OwnK.aload X121 hx (hb hby at_109) (pc' := 111) rfl (v := (.ref a93)) rfl rfl ?_
      refine OwnK.iload X121 hx (hb hby at_111) (pc' := 113) rfl (v := (0 : Int32)) rfl ?_
      refine OwnK.iloadN X121 hx (hb hby at_113) (pc' := 114) rfl (v := p2) rfl ?_
      refine OwnK.callV_ X121 hx hZ hown (y := (⟨"com/example/strict_reach/strictreach/IntList", "set", "(II)V"⟩ : MethodName)) (z := (⟨"com/example/strict_reach/strictreach/IntList", "set", "(II)V"⟩ : MethodName)) (a := a93) (hw _ (List.mem_of_getElem? (i := 28) rfl)) (hw _ (List.mem_of_getElem? (i := 29) rfl)) (notFace_of_selects (args := #[]) (mvT hZ (hw _ (List.mem_of_getElem? (i := 31) rfl)))) (hw _ (List.mem_of_getElem? (i := 31) rfl)) (hw _ (List.mem_of_getElem? (i := 30) rfl)) (hw _ (List.mem_of_getElem? (i := 32) rfl)) (hw _ (List.mem_of_getElem? (i := 3) rfl)) (by decide) IE121 (own_met5 l Z a0 hw T121.heap n0 z129 a93 (0 : Int32) p2 B100 K100 _ _ (2 : Int32) (16 : Int32) _ 0  ge_a93 ⟨IE121, IS121, IB121, IAB121, f130, IEB121, IEK121, IO121, IaB121, IaK121, IBK121⟩ ge_K100 (by decide) (by decide) (Nat.le_of_ble_eq_true rfl) ) (by decide) (W := 0) (by decide) rfl (by rw [hml]; rfl) own_pd_6 (argsL := [(.int (0 : Int32)), (.int p2)]) rfl (S := []) rfl (Nat.le_of_eq rfl) (hb hby at_114) (pc' := 117) rfl (by decide) (by decide) (fun T132 v132 L132 X132 hQ132 => ?_)
      obtain ⟨rfl, N132q, Kp132, hL132⟩ := hQ132
      have N133 := Fr.app N122 N132q
      have f134 := f123.keep Kp132 (ninS q94 (ninS q104 nin0))
      have f135 := f124.keep Kp132
      have f136 := IE121.keep Kp132
      have f137 := IAB121.keep Kp132 (ninS (Ne.symm IaB121) (ninS IBK121 nin0))
      have f138 := IEB121.keep Kp132
      have f139 := IEK121.keep Kp132
      have z140 : n0 ≤ T132.heap.size := Nat.le_trans z129 Kp132.1
      obtain ⟨IE132, IS132, IB132, IAB132, IAK132, IEB132, IEK132, IO132, IaB132, IaK132, IBK132⟩ := hL132
      have f141 : Arv Z T132.heap K100 _ .int (16 : Int32) [(.int p2), (.int p1), (.int (0 : Int32)), (.int (0 : Int32)), (.int (0 : Int32)), (.int (0 : Int32)), (.int (0 : Int32)), (.int (0 : Int32)), (.int (0 : Int32)), (.int (0 : Int32)), (.int (0 : Int32)), (.int (0 : Int32)), (.int (0 : Int32)), (.int (0 : Int32)), (.int (0 : Int32)), (.int (0 : Int32))] (.int (0 : Int32)) := IAK132
      refine OwnK.aload X132 hx (hb hby at_117) (pc' := 119) rfl (v := (.ref a93)) rfl rfl ?_
      refine OwnK.callV_ X132 hx hZ hown (y := (⟨"com/example/strict_reach/strictreach/IntList", "size", "()I"⟩ : MethodName)) (z := (⟨"com/example/strict_reach/strictreach/IntList", "size", "()I"⟩ : MethodName)) (a := a93) (hw _ (List.mem_of_getElem? (i := 41) rfl)) (hw _ (List.mem_of_getElem? (i := 42) rfl)) (notFace_of_selects (args := #[]) (mvT hZ (hw _ (List.mem_of_getElem? (i := 44) rfl)))) (hw _ (List.mem_of_getElem? (i := 44) rfl)) (hw _ (List.mem_of_getElem? (i := 43) rfl)) (hw _ (List.mem_of_getElem? (i := 45) rfl)) (hw _ (List.mem_of_getElem? (i := 3) rfl)) (by decide) IE132 (own_met8 l Z a0 hw T132.heap a93 B100 K100 _ _ (2 : Int32) (16 : Int32) _ ⟨IE132, IS132, IB132, IAB132, f141, IEB132, IEK132, IO132, IaB132, IaK132, IBK132⟩ ) (by decide) (W := 0) (by decide) rfl (by rw [hml]; rfl) own_pd_0 (argsL := []) rfl (S := []) rfl (Nat.le_of_eq rfl) (hb hby at_119) (pc' := 122) rfl (by decide) (by decide) (fun T142 v142 L142 X142 hQ142 => ?_)
      obtain ⟨rfl, e142, rfl⟩ := hQ142
      have N143 := Fr.app N133 (Fr.nil n0)
      refine OwnK.iload X142 hx (hb hby at_122) (pc' := 124) rfl (v := (2 : Int32)) rfl ?_
      refine OwnK.icmp_ne X142 hx (hb hby at_124) (by decide) (pcT := 131) (by decide) (pc' := 127) rfl (fun (hc124 : ¬ 2 = 2) => absurd hc124 (by decide)) (fun hc124 => ?_)
      refine OwnK.iconst X142 hx (hb hby at_127) (pc' := 128) rfl (v := (1 : Int32)) (by decide) ?_
      refine OwnK.goto_ X142 hx (hb hby at_128) (by decide) (pc' := 132) (by decide) ?_
      refine OwnK.istore X142 hx (hb hby at_132) (pc' := 134) rfl (Ls' := #[.val (.int p0), .val (.int p1), .val (.int p2), .val (.int p3), .val (.int p4), .val (.int (2 : Int32)), .val (.ref a70), .val (.ref a93), .val (.int (0 : Int32)), .val (.int (1 : Int32))]) rfl ?_
      refine OwnK.iload X142 hx (hb hby at_134) (pc' := 136) rfl (v := (1 : Int32)) rfl ?_
      refine OwnK.if_eq X142 hx (hb hby at_136) (by decide) (pcT := 161) (by decide) (pc' := 139) rfl (fun (hc136 : 1 = 0) => absurd hc136 (by decide)) (fun hc136 => ?_)
      refine OwnK.aload X142 hx (hb hby at_139) (pc' := 141) rfl (v := (.ref a93)) rfl rfl ?_
      refine OwnK.iconst X142 hx (hb hby at_141) (pc' := 142) rfl (v := (0 : Int32)) (by decide) ?_
      refine OwnK.callV_ X142 hx hZ hown (y := (⟨"com/example/strict_reach/strictreach/IntList", "get", "(I)I"⟩ : MethodName)) (z := (⟨"com/example/strict_reach/strictreach/IntList", "get", "(I)I"⟩ : MethodName)) (a := a93) (hw _ (List.mem_of_getElem? (i := 46) rfl)) (hw _ (List.mem_of_getElem? (i := 47) rfl)) (notFace_of_selects (args := #[]) (mvT hZ (hw _ (List.mem_of_getElem? (i := 49) rfl)))) (hw _ (List.mem_of_getElem? (i := 49) rfl)) (hw _ (List.mem_of_getElem? (i := 48) rfl)) (hw _ (List.mem_of_getElem? (i := 50) rfl)) (hw _ (List.mem_of_getElem? (i := 3) rfl)) (by decide) IE132 (own_met9 l Z a0 hw T132.heap a93 (0 : Int32) B100 K100 _ _ (2 : Int32) (16 : Int32) _ 0 p2 ⟨IE132, IS132, IB132, IAB132, f141, IEB132, IEK132, IO132, IaB132, IaK132, IBK132⟩ (by decide) (by decide) rfl ) (by decide) (W := 0) (by decide) e142 (by rw [hml]; rfl) own_pd_3 (argsL := [(.int (0 : Int32))]) rfl (S := []) rfl (Nat.le_of_eq rfl) (hb hby at_142) (pc' := 145) rfl (by decide) (by decide) (fun T144 v144 L144 X144 hQ144 => ?_)
      obtain ⟨rfl, e144, rfl⟩ := hQ144
      have N145 := Fr.app N143 (Fr.nil n0)
      refine OwnK.iconst X144 hx (hb hby at_145) (pc' := 146) rfl (v := (0 : Int32)) (by decide) ?_
      refine OwnK.iload X144 hx (hb hby at_146) (pc' := 148) rfl (v := (0 : Int32)) rfl ?_
      refine OwnK.iloadN X144 hx (hb hby at_148) (pc' := 149) rfl (v := p2) rfl ?_
      refine OwnK.aload X144 hx (hb hby at_149) (pc' := 151) rfl (v := (.ref a70)) rfl rfl ?_
      refine OwnK.callS_ X144 hx hZ hown (y := (⟨"com/example/strict_reach/strictreach/IntListSetPinLaw", "expect", "(III[I)I"⟩ : MethodName)) (hw _ (List.mem_of_getElem? (i := 51) rfl)) (hw _ (List.mem_of_getElem? (i := 52) rfl)) (hw _ (List.mem_of_getElem? (i := 53) rfl)) (hw _ (List.mem_of_getElem? (i := 54) rfl)) (by decide) (own_met10 l Z a0 hw T132.heap (0 : Int32) (0 : Int32) p2 a70 _ _ p0 0 f134 (by decide) (by decide) rfl ) (by decide) (W := 1) (by decide) e144 (by rw [hml]; rfl) own_pd_7 (argsL := [(.int (0 : Int32)), (.int (0 : Int32)), (.int p2), (.ref a70)]) rfl (S := [(.int p2)]) rfl (Nat.le_of_eq rfl) (hb hby at_151) (pc' := 154) rfl (by decide) (by decide) (fun T146 v146 L146 X146 hQ146 => ?_)
      obtain ⟨hv146, e146, rfl⟩ := hQ146
      obtain rfl : v146 = some (.int p2) := hv146.trans (by first | rw [if_pos (by decide)] | rw [if_neg (by decide)])
      have N147 := Fr.app N145 (Fr.nil n0)
      refine OwnK.icmp_ne X146 hx (hb hby at_154) (by decide) (pcT := 161) (by decide) (pc' := 157) rfl (fun (hc154 : ¬ p2.toInt = p2.toInt) => absurd rfl hc154) (fun hc154 => ?_)
      refine OwnK.iconst X146 hx (hb hby at_157) (pc' := 158) rfl (v := (1 : Int32)) (by decide) ?_
      refine OwnK.goto_ X146 hx (hb hby at_158) (by decide) (pc' := 162) (by decide) ?_
      refine OwnK.istore X146 hx (hb hby at_162) (pc' := 164) rfl (Ls' := #[.val (.int p0), .val (.int p1), .val (.int p2), .val (.int p3), .val (.int p4), .val (.int (2 : Int32)), .val (.ref a70), .val (.ref a93), .val (.int (0 : Int32)), .val (.int (1 : Int32))]) rfl ?_
      refine OwnK.iload X146 hx (hb hby at_164) (pc' := 166) rfl (v := (2 : Int32)) rfl ?_
      refine OwnK.iconst X146 hx (hb hby at_166) (pc' := 167) rfl (v := (1 : Int32)) (by decide) ?_
      refine OwnK.icmp_le X146 hx (hb hby at_167) (by decide) (pcT := 200) (by decide) (pc' := 170) rfl (fun (hc167 : 2 ≤ 1) => absurd hc167 (by decide)) (fun hc167 => ?_)
      refine OwnK.iload X146 hx (hb hby at_170) (pc' := 172) rfl (v := (1 : Int32)) rfl ?_
      refine OwnK.if_eq X146 hx (hb hby at_172) (by decide) (pcT := 197) (by decide) (pc' := 175) rfl (fun (hc172 : 1 = 0) => absurd hc172 (by decide)) (fun hc172 => ?_)
      refine OwnK.aload X146 hx (hb hby at_175) (pc' := 177) rfl (v := (.ref a93)) rfl rfl ?_
      refine OwnK.iconst X146 hx (hb hby at_177) (pc' := 178) rfl (v := (1 : Int32)) (by decide) ?_
      refine OwnK.callV_ X146 hx hZ hown (y := (⟨"com/example/strict_reach/strictreach/IntList", "get", "(I)I"⟩ : MethodName)) (z := (⟨"com/example/strict_reach/strictreach/IntList", "get", "(I)I"⟩ : MethodName)) (a := a93) (hw _ (List.mem_of_getElem? (i := 46) rfl)) (hw _ (List.mem_of_getElem? (i := 47) rfl)) (notFace_of_selects (args := #[]) (mvT hZ (hw _ (List.mem_of_getElem? (i := 49) rfl)))) (hw _ (List.mem_of_getElem? (i := 49) rfl)) (hw _ (List.mem_of_getElem? (i := 48) rfl)) (hw _ (List.mem_of_getElem? (i := 50) rfl)) (hw _ (List.mem_of_getElem? (i := 3) rfl)) (by decide) IE132 (own_met9 l Z a0 hw T132.heap a93 (1 : Int32) B100 K100 _ _ (2 : Int32) (16 : Int32) _ 1 p1 ⟨IE132, IS132, IB132, IAB132, f141, IEB132, IEK132, IO132, IaB132, IaK132, IBK132⟩ (by decide) (by decide) rfl ) (by decide) (W := 0) (by decide) e146 (by rw [hml]; rfl) own_pd_3 (argsL := [(.int (1 : Int32))]) rfl (S := []) rfl (Nat.le_of_eq rfl) (hb hby at_178) (pc' := 181) rfl (by decide) (by decide) (fun T148 v148 L148 X148 hQ148 => ?_)
      obtain ⟨rfl, e148, rfl⟩ := hQ148
      have N149 := Fr.app N147 (Fr.nil n0)
      refine OwnK.iconst X148 hx (hb hby at_181) (pc' := 182) rfl (v := (1 : Int32)) (by decide) ?_
      refine OwnK.iload X148 hx (hb hby at_182) (pc' := 184) rfl (v := (0 : Int32)) rfl ?_
      refine OwnK.iloadN X148 hx (hb hby at_184) (pc' := 185) rfl (v := p2) rfl ?_
      refine OwnK.aload X148 hx (hb hby at_185) (pc' := 187) rfl (v := (.ref a70)) rfl rfl ?_
      refine OwnK.callS_ X148 hx hZ hown (y := (⟨"com/example/strict_reach/strictreach/IntListSetPinLaw", "expect", "(III[I)I"⟩ : MethodName)) (hw _ (List.mem_of_getElem? (i := 51) rfl)) (hw _ (List.mem_of_getElem? (i := 52) rfl)) (hw _ (List.mem_of_getElem? (i := 53) rfl)) (hw _ (List.mem_of_getElem? (i := 54) rfl)) (by decide) (own_met10 l Z a0 hw T132.heap (1 : Int32) (0 : Int32) p2 a70 _ _ p1 1 f134 (by decide) (by decide) rfl ) (by decide) (W := 1) (by decide) e148 (by rw [hml]; rfl) own_pd_7 (argsL := [(.int (1 : Int32)), (.int (0 : Int32)), (.int p2), (.ref a70)]) rfl (S := [(.int p1)]) rfl (Nat.le_of_eq rfl) (hb hby at_187) (pc' := 190) rfl (by decide) (by decide) (fun T150 v150 L150 X150 hQ150 => ?_)
      obtain ⟨hv150, e150, rfl⟩ := hQ150
      obtain rfl : v150 = some (.int p1) := hv150.trans (by first | rw [if_pos (by decide)] | rw [if_neg (by decide)])
      have N151 := Fr.app N149 (Fr.nil n0)
      refine OwnK.icmp_ne X150 hx (hb hby at_190) (by decide) (pcT := 197) (by decide) (pc' := 193) rfl (fun (hc190 : ¬ p1.toInt = p1.toInt) => absurd rfl hc190) (fun hc190 => ?_)
      refine OwnK.iconst X150 hx (hb hby at_193) (pc' := 194) rfl (v := (1 : Int32)) (by decide) ?_
      refine OwnK.goto_ X150 hx (hb hby at_194) (by decide) (pc' := 198) (by decide) ?_
      refine OwnK.istore X150 hx (hb hby at_198) (pc' := 200) rfl (Ls' := #[.val (.int p0), .val (.int p1), .val (.int p2), .val (.int p3), .val (.int p4), .val (.int (2 : Int32)), .val (.ref a70), .val (.ref a93), .val (.int (0 : Int32)), .val (.int (1 : Int32))]) rfl ?_
      refine OwnK.iload X150 hx (hb hby at_200) (pc' := 202) rfl (v := (2 : Int32)) rfl ?_
      refine OwnK.iconst X150 hx (hb hby at_202) (pc' := 203) rfl (v := (2 : Int32)) (by decide) ?_
      refine OwnK.icmp_le X150 hx (hb hby at_203) (by decide) (pcT := 236) (by decide) (pc' := 206) rfl (fun hc203 => ?_) (fun (hc203 : 2 < 2) => absurd hc203 (by decide))
      refine OwnK.iload X150 hx (hb hby at_236) (pc' := 238) rfl (v := (2 : Int32)) rfl ?_
      refine OwnK.iconst X150 hx (hb hby at_238) (pc' := 239) rfl (v := (3 : Int32)) (by decide) ?_
      refine OwnK.icmp_le X150 hx (hb hby at_239) (by decide) (pcT := 272) (by decide) (pc' := 242) rfl (fun hc239 => ?_) (fun (hc239 : 3 < 2) => absurd hc239 (by decide))
      refine OwnK.iload X150 hx (hb hby at_272) (pc' := 274) rfl (v := (1 : Int32)) rfl ?_
      refine OwnK.retN_ X150 hx hret (by simp) hlk (hb hby at_274) (by decide) (by decide) ?_
      exact ⟨rfl, N151⟩
    · refine OwnK.aload X121 hx (hb hby at_109) (pc' := 111) rfl (v := (.ref a93)) rfl rfl ?_
      refine OwnK.iload X121 hx (hb hby at_111) (pc' := 113) rfl (v := (1 : Int32)) rfl ?_
      refine OwnK.iloadN X121 hx (hb hby at_113) (pc' := 114) rfl (v := p2) rfl ?_
      refine OwnK.callV_ X121 hx hZ hown (y := (⟨"com/example/strict_reach/strictreach/IntList", "set", "(II)V"⟩ : MethodName)) (z := (⟨"com/example/strict_reach/strictreach/IntList", "set", "(II)V"⟩ : MethodName)) (a := a93) (hw _ (List.mem_of_getElem? (i := 28) rfl)) (hw _ (List.mem_of_getElem? (i := 29) rfl)) (notFace_of_selects (args := #[]) (mvT hZ (hw _ (List.mem_of_getElem? (i := 31) rfl)))) (hw _ (List.mem_of_getElem? (i := 31) rfl)) (hw _ (List.mem_of_getElem? (i := 30) rfl)) (hw _ (List.mem_of_getElem? (i := 32) rfl)) (hw _ (List.mem_of_getElem? (i := 3) rfl)) (by decide) IE121 (own_met5 l Z a0 hw T121.heap n0 z129 a93 (1 : Int32) p2 B100 K100 _ _ (2 : Int32) (16 : Int32) _ 1  ge_a93 ⟨IE121, IS121, IB121, IAB121, f130, IEB121, IEK121, IO121, IaB121, IaK121, IBK121⟩ ge_K100 (by decide) (by decide) (Nat.le_of_ble_eq_true rfl) ) (by decide) (W := 0) (by decide) rfl (by rw [hml]; rfl) own_pd_6 (argsL := [(.int (1 : Int32)), (.int p2)]) rfl (S := []) rfl (Nat.le_of_eq rfl) (hb hby at_114) (pc' := 117) rfl (by decide) (by decide) (fun T152 v152 L152 X152 hQ152 => ?_)
      obtain ⟨rfl, N152q, Kp152, hL152⟩ := hQ152
      have N153 := Fr.app N122 N152q
      have f154 := f123.keep Kp152 (ninS q94 (ninS q104 nin0))
      have f155 := f124.keep Kp152
      have f156 := IE121.keep Kp152
      have f157 := IAB121.keep Kp152 (ninS (Ne.symm IaB121) (ninS IBK121 nin0))
      have f158 := IEB121.keep Kp152
      have f159 := IEK121.keep Kp152
      have z160 : n0 ≤ T152.heap.size := Nat.le_trans z129 Kp152.1
      obtain ⟨IE152, IS152, IB152, IAB152, IAK152, IEB152, IEK152, IO152, IaB152, IaK152, IBK152⟩ := hL152
      have f161 : Arv Z T152.heap K100 _ .int (16 : Int32) [(.int p0), (.int p2), (.int (0 : Int32)), (.int (0 : Int32)), (.int (0 : Int32)), (.int (0 : Int32)), (.int (0 : Int32)), (.int (0 : Int32)), (.int (0 : Int32)), (.int (0 : Int32)), (.int (0 : Int32)), (.int (0 : Int32)), (.int (0 : Int32)), (.int (0 : Int32)), (.int (0 : Int32)), (.int (0 : Int32))] (.int (0 : Int32)) := IAK152
      refine OwnK.aload X152 hx (hb hby at_117) (pc' := 119) rfl (v := (.ref a93)) rfl rfl ?_
      refine OwnK.callV_ X152 hx hZ hown (y := (⟨"com/example/strict_reach/strictreach/IntList", "size", "()I"⟩ : MethodName)) (z := (⟨"com/example/strict_reach/strictreach/IntList", "size", "()I"⟩ : MethodName)) (a := a93) (hw _ (List.mem_of_getElem? (i := 41) rfl)) (hw _ (List.mem_of_getElem? (i := 42) rfl)) (notFace_of_selects (args := #[]) (mvT hZ (hw _ (List.mem_of_getElem? (i := 44) rfl)))) (hw _ (List.mem_of_getElem? (i := 44) rfl)) (hw _ (List.mem_of_getElem? (i := 43) rfl)) (hw _ (List.mem_of_getElem? (i := 45) rfl)) (hw _ (List.mem_of_getElem? (i := 3) rfl)) (by decide) IE152 (own_met8 l Z a0 hw T152.heap a93 B100 K100 _ _ (2 : Int32) (16 : Int32) _ ⟨IE152, IS152, IB152, IAB152, f161, IEB152, IEK152, IO152, IaB152, IaK152, IBK152⟩ ) (by decide) (W := 0) (by decide) rfl (by rw [hml]; rfl) own_pd_0 (argsL := []) rfl (S := []) rfl (Nat.le_of_eq rfl) (hb hby at_119) (pc' := 122) rfl (by decide) (by decide) (fun T162 v162 L162 X162 hQ162 => ?_)
      obtain ⟨rfl, e162, rfl⟩ := hQ162
      have N163 := Fr.app N153 (Fr.nil n0)
      refine OwnK.iload X162 hx (hb hby at_122) (pc' := 124) rfl (v := (2 : Int32)) rfl ?_
      refine OwnK.icmp_ne X162 hx (hb hby at_124) (by decide) (pcT := 131) (by decide) (pc' := 127) rfl (fun (hc124 : ¬ 2 = 2) => absurd hc124 (by decide)) (fun hc124 => ?_)
      refine OwnK.iconst X162 hx (hb hby at_127) (pc' := 128) rfl (v := (1 : Int32)) (by decide) ?_
      refine OwnK.goto_ X162 hx (hb hby at_128) (by decide) (pc' := 132) (by decide) ?_
      refine OwnK.istore X162 hx (hb hby at_132) (pc' := 134) rfl (Ls' := #[.val (.int p0), .val (.int p1), .val (.int p2), .val (.int p3), .val (.int p4), .val (.int (2 : Int32)), .val (.ref a70), .val (.ref a93), .val (.int (1 : Int32)), .val (.int (1 : Int32))]) rfl ?_
      refine OwnK.iload X162 hx (hb hby at_134) (pc' := 136) rfl (v := (1 : Int32)) rfl ?_
      refine OwnK.if_eq X162 hx (hb hby at_136) (by decide) (pcT := 161) (by decide) (pc' := 139) rfl (fun (hc136 : 1 = 0) => absurd hc136 (by decide)) (fun hc136 => ?_)
      refine OwnK.aload X162 hx (hb hby at_139) (pc' := 141) rfl (v := (.ref a93)) rfl rfl ?_
      refine OwnK.iconst X162 hx (hb hby at_141) (pc' := 142) rfl (v := (0 : Int32)) (by decide) ?_
      refine OwnK.callV_ X162 hx hZ hown (y := (⟨"com/example/strict_reach/strictreach/IntList", "get", "(I)I"⟩ : MethodName)) (z := (⟨"com/example/strict_reach/strictreach/IntList", "get", "(I)I"⟩ : MethodName)) (a := a93) (hw _ (List.mem_of_getElem? (i := 46) rfl)) (hw _ (List.mem_of_getElem? (i := 47) rfl)) (notFace_of_selects (args := #[]) (mvT hZ (hw _ (List.mem_of_getElem? (i := 49) rfl)))) (hw _ (List.mem_of_getElem? (i := 49) rfl)) (hw _ (List.mem_of_getElem? (i := 48) rfl)) (hw _ (List.mem_of_getElem? (i := 50) rfl)) (hw _ (List.mem_of_getElem? (i := 3) rfl)) (by decide) IE152 (own_met9 l Z a0 hw T152.heap a93 (0 : Int32) B100 K100 _ _ (2 : Int32) (16 : Int32) _ 0 p0 ⟨IE152, IS152, IB152, IAB152, f161, IEB152, IEK152, IO152, IaB152, IaK152, IBK152⟩ (by decide) (by decide) rfl ) (by decide) (W := 0) (by decide) e162 (by rw [hml]; rfl) own_pd_3 (argsL := [(.int (0 : Int32))]) rfl (S := []) rfl (Nat.le_of_eq rfl) (hb hby at_142) (pc' := 145) rfl (by decide) (by decide) (fun T164 v164 L164 X164 hQ164 => ?_)
      obtain ⟨rfl, e164, rfl⟩ := hQ164
      have N165 := Fr.app N163 (Fr.nil n0)
      refine OwnK.iconst X164 hx (hb hby at_145) (pc' := 146) rfl (v := (0 : Int32)) (by decide) ?_
      refine OwnK.iload X164 hx (hb hby at_146) (pc' := 148) rfl (v := (1 : Int32)) rfl ?_
      refine OwnK.iloadN X164 hx (hb hby at_148) (pc' := 149) rfl (v := p2) rfl ?_
      refine OwnK.aload X164 hx (hb hby at_149) (pc' := 151) rfl (v := (.ref a70)) rfl rfl ?_
      refine OwnK.callS_ X164 hx hZ hown (y := (⟨"com/example/strict_reach/strictreach/IntListSetPinLaw", "expect", "(III[I)I"⟩ : MethodName)) (hw _ (List.mem_of_getElem? (i := 51) rfl)) (hw _ (List.mem_of_getElem? (i := 52) rfl)) (hw _ (List.mem_of_getElem? (i := 53) rfl)) (hw _ (List.mem_of_getElem? (i := 54) rfl)) (by decide) (own_met10 l Z a0 hw T152.heap (0 : Int32) (1 : Int32) p2 a70 _ _ p0 0 f154 (by decide) (by decide) rfl ) (by decide) (W := 1) (by decide) e164 (by rw [hml]; rfl) own_pd_7 (argsL := [(.int (0 : Int32)), (.int (1 : Int32)), (.int p2), (.ref a70)]) rfl (S := [(.int p0)]) rfl (Nat.le_of_eq rfl) (hb hby at_151) (pc' := 154) rfl (by decide) (by decide) (fun T166 v166 L166 X166 hQ166 => ?_)
      obtain ⟨hv166, e166, rfl⟩ := hQ166
      obtain rfl : v166 = some (.int p0) := hv166.trans (by first | rw [if_pos (by decide)] | rw [if_neg (by decide)])
      have N167 := Fr.app N165 (Fr.nil n0)
      refine OwnK.icmp_ne X166 hx (hb hby at_154) (by decide) (pcT := 161) (by decide) (pc' := 157) rfl (fun (hc154 : ¬ p0.toInt = p0.toInt) => absurd rfl hc154) (fun hc154 => ?_)
      refine OwnK.iconst X166 hx (hb hby at_157) (pc' := 158) rfl (v := (1 : Int32)) (by decide) ?_
      refine OwnK.goto_ X166 hx (hb hby at_158) (by decide) (pc' := 162) (by decide) ?_
      refine OwnK.istore X166 hx (hb hby at_162) (pc' := 164) rfl (Ls' := #[.val (.int p0), .val (.int p1), .val (.int p2), .val (.int p3), .val (.int p4), .val (.int (2 : Int32)), .val (.ref a70), .val (.ref a93), .val (.int (1 : Int32)), .val (.int (1 : Int32))]) rfl ?_
      refine OwnK.iload X166 hx (hb hby at_164) (pc' := 166) rfl (v := (2 : Int32)) rfl ?_
      refine OwnK.iconst X166 hx (hb hby at_166) (pc' := 167) rfl (v := (1 : Int32)) (by decide) ?_
      refine OwnK.icmp_le X166 hx (hb hby at_167) (by decide) (pcT := 200) (by decide) (pc' := 170) rfl (fun (hc167 : 2 ≤ 1) => absurd hc167 (by decide)) (fun hc167 => ?_)
      refine OwnK.iload X166 hx (hb hby at_170) (pc' := 172) rfl (v := (1 : Int32)) rfl ?_
      refine OwnK.if_eq X166 hx (hb hby at_172) (by decide) (pcT := 197) (by decide) (pc' := 175) rfl (fun (hc172 : 1 = 0) => absurd hc172 (by decide)) (fun hc172 => ?_)
      refine OwnK.aload X166 hx (hb hby at_175) (pc' := 177) rfl (v := (.ref a93)) rfl rfl ?_
      refine OwnK.iconst X166 hx (hb hby at_177) (pc' := 178) rfl (v := (1 : Int32)) (by decide) ?_
      refine OwnK.callV_ X166 hx hZ hown (y := (⟨"com/example/strict_reach/strictreach/IntList", "get", "(I)I"⟩ : MethodName)) (z := (⟨"com/example/strict_reach/strictreach/IntList", "get", "(I)I"⟩ : MethodName)) (a := a93) (hw _ (List.mem_of_getElem? (i := 46) rfl)) (hw _ (List.mem_of_getElem? (i := 47) rfl)) (notFace_of_selects (args := #[]) (mvT hZ (hw _ (List.mem_of_getElem? (i := 49) rfl)))) (hw _ (List.mem_of_getElem? (i := 49) rfl)) (hw _ (List.mem_of_getElem? (i := 48) rfl)) (hw _ (List.mem_of_getElem? (i := 50) rfl)) (hw _ (List.mem_of_getElem? (i := 3) rfl)) (by decide) IE152 (own_met9 l Z a0 hw T152.heap a93 (1 : Int32) B100 K100 _ _ (2 : Int32) (16 : Int32) _ 1 p2 ⟨IE152, IS152, IB152, IAB152, f161, IEB152, IEK152, IO152, IaB152, IaK152, IBK152⟩ (by decide) (by decide) rfl ) (by decide) (W := 0) (by decide) e166 (by rw [hml]; rfl) own_pd_3 (argsL := [(.int (1 : Int32))]) rfl (S := []) rfl (Nat.le_of_eq rfl) (hb hby at_178) (pc' := 181) rfl (by decide) (by decide) (fun T168 v168 L168 X168 hQ168 => ?_)
      obtain ⟨rfl, e168, rfl⟩ := hQ168
      have N169 := Fr.app N167 (Fr.nil n0)
      refine OwnK.iconst X168 hx (hb hby at_181) (pc' := 182) rfl (v := (1 : Int32)) (by decide) ?_
      refine OwnK.iload X168 hx (hb hby at_182) (pc' := 184) rfl (v := (1 : Int32)) rfl ?_
      refine OwnK.iloadN X168 hx (hb hby at_184) (pc' := 185) rfl (v := p2) rfl ?_
      refine OwnK.aload X168 hx (hb hby at_185) (pc' := 187) rfl (v := (.ref a70)) rfl rfl ?_
      refine OwnK.callS_ X168 hx hZ hown (y := (⟨"com/example/strict_reach/strictreach/IntListSetPinLaw", "expect", "(III[I)I"⟩ : MethodName)) (hw _ (List.mem_of_getElem? (i := 51) rfl)) (hw _ (List.mem_of_getElem? (i := 52) rfl)) (hw _ (List.mem_of_getElem? (i := 53) rfl)) (hw _ (List.mem_of_getElem? (i := 54) rfl)) (by decide) (own_met10 l Z a0 hw T152.heap (1 : Int32) (1 : Int32) p2 a70 _ _ p1 1 f154 (by decide) (by decide) rfl ) (by decide) (W := 1) (by decide) e168 (by rw [hml]; rfl) own_pd_7 (argsL := [(.int (1 : Int32)), (.int (1 : Int32)), (.int p2), (.ref a70)]) rfl (S := [(.int p2)]) rfl (Nat.le_of_eq rfl) (hb hby at_187) (pc' := 190) rfl (by decide) (by decide) (fun T170 v170 L170 X170 hQ170 => ?_)
      obtain ⟨hv170, e170, rfl⟩ := hQ170
      obtain rfl : v170 = some (.int p2) := hv170.trans (by first | rw [if_pos (by decide)] | rw [if_neg (by decide)])
      have N171 := Fr.app N169 (Fr.nil n0)
      refine OwnK.icmp_ne X170 hx (hb hby at_190) (by decide) (pcT := 197) (by decide) (pc' := 193) rfl (fun (hc190 : ¬ p2.toInt = p2.toInt) => absurd rfl hc190) (fun hc190 => ?_)
      refine OwnK.iconst X170 hx (hb hby at_193) (pc' := 194) rfl (v := (1 : Int32)) (by decide) ?_
      refine OwnK.goto_ X170 hx (hb hby at_194) (by decide) (pc' := 198) (by decide) ?_
      refine OwnK.istore X170 hx (hb hby at_198) (pc' := 200) rfl (Ls' := #[.val (.int p0), .val (.int p1), .val (.int p2), .val (.int p3), .val (.int p4), .val (.int (2 : Int32)), .val (.ref a70), .val (.ref a93), .val (.int (1 : Int32)), .val (.int (1 : Int32))]) rfl ?_
      refine OwnK.iload X170 hx (hb hby at_200) (pc' := 202) rfl (v := (2 : Int32)) rfl ?_
      refine OwnK.iconst X170 hx (hb hby at_202) (pc' := 203) rfl (v := (2 : Int32)) (by decide) ?_
      refine OwnK.icmp_le X170 hx (hb hby at_203) (by decide) (pcT := 236) (by decide) (pc' := 206) rfl (fun hc203 => ?_) (fun (hc203 : 2 < 2) => absurd hc203 (by decide))
      refine OwnK.iload X170 hx (hb hby at_236) (pc' := 238) rfl (v := (2 : Int32)) rfl ?_
      refine OwnK.iconst X170 hx (hb hby at_238) (pc' := 239) rfl (v := (3 : Int32)) (by decide) ?_
      refine OwnK.icmp_le X170 hx (hb hby at_239) (by decide) (pcT := 272) (by decide) (pc' := 242) rfl (fun hc239 => ?_) (fun (hc239 : 3 < 2) => absurd hc239 (by decide))
      refine OwnK.iload X170 hx (hb hby at_272) (pc' := 274) rfl (v := (1 : Int32)) rfl ?_
      refine OwnK.retN_ X170 hx hret (by simp) hlk (hb hby at_274) (by decide) (by decide) ?_
      exact ⟨rfl, N171⟩
  · refine OwnK.iconst X0 hx (hb hby at_8) (pc' := 9) rfl (v := (4 : Int32)) (by decide) ?_
    refine OwnK.newP_ X0 hx hZ (hw _ (List.mem_of_getElem? (i := 0) rfl)) e0 (hb hby at_9) (pc' := 11) rfl (n := (4 : Int32)) (by decide) (cap := 4) (by decide) (by decide) (by decide) (by decide) (ad := "[I") (by decide) (fun T172 h172 a172 k172 X172 e172 g172 E172 V172 Q172 => ?_)
    have ge_a172 : n0 ≤ a172 := Nat.le_trans Z0 (Nat.le_of_eq g172.symm)
    have z173 : n0 ≤ h172.size := Nat.le_trans Z0 E172.1
    have f174 : Arv Z h172 a172 k172 .int (4 : Int32) [(.int (0 : Int32)), (.int (0 : Int32)), (.int (0 : Int32)), (.int (0 : Int32))] (.int (0 : Int32)) := V172.pad (pad_rep [] (.int (0 : Int32)) 4)
    refine OwnK.astore X172 hx (hb hby at_11) (pc' := 13) rfl rfl (Ls' := #[.val (.int p0), .val (.int p1), .val (.int p2), .val (.int p3), .val (.int p4), .val (.int (3 : Int32)), .val (.ref a172), .unset, .unset, .unset]) rfl ?_
    refine OwnK.aload X172 hx (hb hby at_13) (pc' := 15) rfl (v := (.ref a172)) rfl rfl ?_
    refine OwnK.iconst X172 hx (hb hby at_15) (pc' := 16) rfl (v := (0 : Int32)) (by decide) ?_
    refine OwnK.iloadN X172 hx (hb hby at_16) (pc' := 17) rfl (v := p0) rfl ?_
    refine OwnK.iastore X172 hx hZ e172 f174 (i := 0) (by decide) (by first | decide | omega) (Nat.le_of_ble_eq_true rfl) (hb hby at_17) (pc' := 18) rfl (fun T175 h175 X175 e175 W175 V175 => ?_)
    have f176 := Q172.wr W175
    have f177 : Arv Z h175 a172 _ .int (4 : Int32) [(.int p0), (.int (0 : Int32)), (.int (0 : Int32)), (.int (0 : Int32))] (.int (0 : Int32)) := V175
    have N178 := Fr.snoc X175 N0 ge_a172
    have z179 : n0 ≤ h175.size := Nat.le_trans z173 (Keep.of_wr W175).1
    refine OwnK.aload X175 hx (hb hby at_18) (pc' := 20) rfl (v := (.ref a172)) rfl rfl ?_
    refine OwnK.iconst X175 hx (hb hby at_20) (pc' := 21) rfl (v := (1 : Int32)) (by decide) ?_
    refine OwnK.iloadN X175 hx (hb hby at_21) (pc' := 22) rfl (v := p1) rfl ?_
    refine OwnK.iastore X175 hx hZ e175 f177 (i := 1) (by decide) (by first | decide | omega) (Nat.le_of_ble_eq_true rfl) (hb hby at_22) (pc' := 23) rfl (fun T180 h180 X180 e180 W180 V180 => ?_)
    have f181 := f176.wr W180
    have f182 : Arv Z h180 a172 _ .int (4 : Int32) [(.int p0), (.int p1), (.int (0 : Int32)), (.int (0 : Int32))] (.int (0 : Int32)) := V180
    have N183 := Fr.snoc X180 N178 ge_a172
    have z184 : n0 ≤ h180.size := Nat.le_trans z179 (Keep.of_wr W180).1
    refine OwnK.aload X180 hx (hb hby at_23) (pc' := 25) rfl (v := (.ref a172)) rfl rfl ?_
    refine OwnK.iconst X180 hx (hb hby at_25) (pc' := 26) rfl (v := (2 : Int32)) (by decide) ?_
    refine OwnK.iloadN X180 hx (hb hby at_26) (pc' := 27) rfl (v := p0) rfl ?_
    refine OwnK.iconst X180 hx (hb hby at_27) (pc' := 28) rfl (v := (-1 : Int32)) (by decide) ?_
    refine OwnK.ixor X180 hx (hb hby at_28) (pc' := 29) rfl ?_
    refine OwnK.iastore X180 hx hZ e180 f182 (i := 2) (by decide) (by first | decide | omega) (Nat.le_of_ble_eq_true rfl) (hb hby at_29) (pc' := 30) rfl (fun T185 h185 X185 e185 W185 V185 => ?_)
    have f186 := f181.wr W185
    have f187 : Arv Z h185 a172 _ .int (4 : Int32) [(.int p0), (.int p1), (.int (p0 ^^^ (-1 : Int32))), (.int (0 : Int32))] (.int (0 : Int32)) := V185
    have N188 := Fr.snoc X185 N183 ge_a172
    have z189 : n0 ≤ h185.size := Nat.le_trans z184 (Keep.of_wr W185).1
    refine OwnK.aload X185 hx (hb hby at_30) (pc' := 32) rfl (v := (.ref a172)) rfl rfl ?_
    refine OwnK.iconst X185 hx (hb hby at_32) (pc' := 33) rfl (v := (3 : Int32)) (by decide) ?_
    refine OwnK.iloadN X185 hx (hb hby at_33) (pc' := 34) rfl (v := p1) rfl ?_
    refine OwnK.iconst X185 hx (hb hby at_34) (pc' := 35) rfl (v := (-1 : Int32)) (by decide) ?_
    refine OwnK.ixor X185 hx (hb hby at_35) (pc' := 36) rfl ?_
    refine OwnK.iastore X185 hx hZ e185 f187 (i := 3) (by decide) (by first | decide | omega) (Nat.le_of_ble_eq_true rfl) (hb hby at_36) (pc' := 37) rfl (fun T190 h190 X190 e190 W190 V190 => ?_)
    have f191 := f186.wr W190
    have f192 : Arv Z h190 a172 _ .int (4 : Int32) [(.int p0), (.int p1), (.int (p0 ^^^ (-1 : Int32))), (.int (p1 ^^^ (-1 : Int32)))] (.int (0 : Int32)) := V190
    have N193 := Fr.snoc X190 N188 ge_a172
    have z194 : n0 ≤ h190.size := Nat.le_trans z189 (Keep.of_wr W190).1
    refine OwnK.new_ X190 hx hZ hown (hw _ (List.mem_of_getElem? (i := 1) rfl)) (hw _ (List.mem_of_getElem? (i := 2) rfl)) (hw _ (List.mem_of_getElem? (i := 3) rfl)) e190 (hb hby at_37) (pc' := 40) rfl (by decide) (by decide) (fun T195 h195 a195 X195 e195 g195 E195 A195 D195 => ?_)
    have q196 : a172 ≠ a195 := Nat.ne_of_lt (Nat.lt_of_lt_of_le f192.lt (Nat.le_of_eq g195.symm))
    have ge_a195 : n0 ≤ a195 := Nat.le_trans z194 (Nat.le_of_eq g195.symm)
    have z197 : n0 ≤ h195.size := Nat.le_trans z194 E195.1
    have f198 := f192.ext E195
    have f199 := f191.ext E195
    have f200 : Fld Z h195 a195 "com/example/strict_reach/strictreach/IntList" "blocks" "[[I" .null := D195 (Or.inl (hw _ (List.mem_of_getElem? (i := 14) rfl))) (ty := (.array (.array .int))) (by decide)
    have f201 : Fld Z h195 a195 "com/example/strict_reach/strictreach/IntList" "size" "I" (.int (0 : Int32)) := D195 (Or.inl (hw _ (List.mem_of_getElem? (i := 25) rfl))) (ty := .int) (by decide)
    refine OwnK.dup X195 hx (hb hby at_40) (pc' := 41) rfl rfl ?_
    refine OwnK.callI_ X195 hx hZ hown (y := (⟨"com/example/strict_reach/strictreach/IntList", "<init>", "()V"⟩ : MethodName)) (a := a195) rfl (hw _ (List.mem_of_getElem? (i := 4) rfl)) (hw _ (List.mem_of_getElem? (i := 5) rfl)) (hw _ (List.mem_of_getElem? (i := 3) rfl)) (hw _ (List.mem_of_getElem? (i := 6) rfl)) rfl (by decide) (own_met1 l Z a0 hw h195 n0 z197 a195   ge_a195 f200 f201 A195 ) (by decide) (W := 1) (by decide) e195 (by rw [hml]; rfl) own_pd_1 (argsL := []) rfl (S := [(.ref a195)]) rfl (Nat.le_of_eq rfl) (hb hby at_41) (pc' := 44) rfl (by decide) (by decide) (fun T202 v202 L202 X202 hQ202 => ?_)
    obtain ⟨B202, K202, kB202, kK202, rfl, N202q, Kp202, hB202, hK202, hL202⟩ := hQ202
    have N203 := Fr.app N193 N202q
    have q204 : a172 ≠ B202 := Nat.ne_of_lt (Nat.lt_of_lt_of_le f198.lt hB202)
    have q205 : a195 ≠ B202 := Nat.ne_of_lt (Nat.lt_of_lt_of_le A195.lt hB202)
    have ge_B202 : n0 ≤ B202 := Nat.le_trans z197 hB202
    have q206 : a172 ≠ K202 := Nat.ne_of_lt (Nat.lt_of_lt_of_le f198.lt hK202)
    have q207 : a195 ≠ K202 := Nat.ne_of_lt (Nat.lt_of_lt_of_le A195.lt hK202)
    have ge_K202 : n0 ≤ K202 := Nat.le_trans z197 hK202
    have f208 := f198.keep Kp202 (ninS q196 nin0)
    have f209 := f199.keep Kp202
    have f210 := A195.keep Kp202
    have z211 : n0 ≤ T202.heap.size := Nat.le_trans z197 Kp202.1
    obtain ⟨IE202, IS202, IB202, IAB202, IAK202, IEB202, IEK202, IO202, IaB202, IaK202, IBK202⟩ := hL202
    have f212 : Arv Z T202.heap K202 _ .int (16 : Int32) [(.int (0 : Int32)), (.int (0 : Int32)), (.int (0 : Int32)), (.int (0 : Int32)), (.int (0 : Int32)), (.int (0 : Int32)), (.int (0 : Int32)), (.int (0 : Int32)), (.int (0 : Int32)), (.int (0 : Int32)), (.int (0 : Int32)), (.int (0 : Int32)), (.int (0 : Int32)), (.int (0 : Int32)), (.int (0 : Int32)), (.int (0 : Int32))] (.int (0 : Int32)) := IAK202
    refine OwnK.astore X202 hx (hb hby at_44) (pc' := 46) rfl rfl (Ls' := #[.val (.int p0), .val (.int p1), .val (.int p2), .val (.int p3), .val (.int p4), .val (.int (3 : Int32)), .val (.ref a172), .val (.ref a195), .unset, .unset]) rfl ?_
    refine OwnK.aload X202 hx (hb hby at_46) (pc' := 48) rfl (v := (.ref a195)) rfl rfl ?_
    refine OwnK.aload X202 hx (hb hby at_48) (pc' := 50) rfl (v := (.ref a172)) rfl rfl ?_
    refine OwnK.iconst X202 hx (hb hby at_50) (pc' := 51) rfl (v := (0 : Int32)) (by decide) ?_
    refine OwnK.iaload X202 hx hZ rfl f208 (by decide) (by first | decide | omega) (v := (.int p0)) rfl (hb hby at_51) (pc' := 52) rfl ?_
    refine OwnK.callV_ X202 hx hZ hown (y := (⟨"com/example/strict_reach/strictreach/IntList", "add", "(I)V"⟩ : MethodName)) (z := (⟨"com/example/strict_reach/strictreach/IntList", "add", "(I)V"⟩ : MethodName)) (a := a195) (hw _ (List.mem_of_getElem? (i := 15) rfl)) (hw _ (List.mem_of_getElem? (i := 16) rfl)) (notFace_of_selects (args := #[]) (mvT hZ (hw _ (List.mem_of_getElem? (i := 18) rfl)))) (hw _ (List.mem_of_getElem? (i := 18) rfl)) (hw _ (List.mem_of_getElem? (i := 17) rfl)) (hw _ (List.mem_of_getElem? (i := 19) rfl)) (hw _ (List.mem_of_getElem? (i := 3) rfl)) (by decide) IE202 (own_met3 l Z a0 hw T202.heap n0 z211 a195 p0 B202 K202 _ _ (0 : Int32) (16 : Int32) _ 0  ge_a195 ⟨IE202, IS202, IB202, IAB202, f212, IEB202, IEK202, IO202, IaB202, IaK202, IBK202⟩ ge_K202 (by decide) (Nat.le_of_ble_eq_true rfl) (by decide) (by decide) ) (by decide) (W := 0) (by decide) rfl (by rw [hml]; rfl) own_pd_4 (argsL := [(.int p0)]) rfl (S := []) rfl (Nat.le_of_eq rfl) (hb hby at_52) (pc' := 55) rfl (by decide) (by decide) (fun T213 v213 L213 X213 hQ213 => ?_)
    obtain ⟨rfl, N213q, Kp213, hL213⟩ := hQ213
    have N214 := Fr.app N203 N213q
    have f215 := f208.keep Kp213 (ninS q196 (ninS q206 nin0))
    have f216 := f209.keep Kp213
    have f217 := IE202.keep Kp213
    have f218 := IAB202.keep Kp213 (ninS (Ne.symm IaB202) (ninS IBK202 nin0))
    have f219 := IEB202.keep Kp213
    have f220 := IEK202.keep Kp213
    have z221 : n0 ≤ T213.heap.size := Nat.le_trans z211 Kp213.1
    rw [show ((0 : Int32) + (1 : Int32)) = (1 : Int32) from by decide] at hL213
    obtain ⟨IE213, IS213, IB213, IAB213, IAK213, IEB213, IEK213, IO213, IaB213, IaK213, IBK213⟩ := hL213
    have f222 : Arv Z T213.heap K202 _ .int (16 : Int32) [(.int p0), (.int (0 : Int32)), (.int (0 : Int32)), (.int (0 : Int32)), (.int (0 : Int32)), (.int (0 : Int32)), (.int (0 : Int32)), (.int (0 : Int32)), (.int (0 : Int32)), (.int (0 : Int32)), (.int (0 : Int32)), (.int (0 : Int32)), (.int (0 : Int32)), (.int (0 : Int32)), (.int (0 : Int32)), (.int (0 : Int32))] (.int (0 : Int32)) := IAK213
    refine OwnK.iload X213 hx (hb hby at_55) (pc' := 57) rfl (v := (3 : Int32)) rfl ?_
    refine OwnK.iconst X213 hx (hb hby at_57) (pc' := 58) rfl (v := (1 : Int32)) (by decide) ?_
    refine OwnK.icmp_le X213 hx (hb hby at_58) (by decide) (pcT := 70) (by decide) (pc' := 61) rfl (fun (hc58 : 3 ≤ 1) => absurd hc58 (by decide)) (fun hc58 => ?_)
    refine OwnK.aload X213 hx (hb hby at_61) (pc' := 63) rfl (v := (.ref a195)) rfl rfl ?_
    refine OwnK.aload X213 hx (hb hby at_63) (pc' := 65) rfl (v := (.ref a172)) rfl rfl ?_
    refine OwnK.iconst X213 hx (hb hby at_65) (pc' := 66) rfl (v := (1 : Int32)) (by decide) ?_
    refine OwnK.iaload X213 hx hZ rfl f215 (by decide) (by first | decide | omega) (v := (.int p1)) rfl (hb hby at_66) (pc' := 67) rfl ?_
    refine OwnK.callV_ X213 hx hZ hown (y := (⟨"com/example/strict_reach/strictreach/IntList", "add", "(I)V"⟩ : MethodName)) (z := (⟨"com/example/strict_reach/strictreach/IntList", "add", "(I)V"⟩ : MethodName)) (a := a195) (hw _ (List.mem_of_getElem? (i := 15) rfl)) (hw _ (List.mem_of_getElem? (i := 16) rfl)) (notFace_of_selects (args := #[]) (mvT hZ (hw _ (List.mem_of_getElem? (i := 18) rfl)))) (hw _ (List.mem_of_getElem? (i := 18) rfl)) (hw _ (List.mem_of_getElem? (i := 17) rfl)) (hw _ (List.mem_of_getElem? (i := 19) rfl)) (hw _ (List.mem_of_getElem? (i := 3) rfl)) (by decide) IE213 (own_met3 l Z a0 hw T213.heap n0 z221 a195 p1 B202 K202 _ _ (1 : Int32) (16 : Int32) _ 1  ge_a195 ⟨IE213, IS213, IB213, IAB213, f222, IEB213, IEK213, IO213, IaB213, IaK213, IBK213⟩ ge_K202 (by decide) (Nat.le_of_ble_eq_true rfl) (by decide) (by decide) ) (by decide) (W := 0) (by decide) rfl (by rw [hml]; rfl) own_pd_4 (argsL := [(.int p1)]) rfl (S := []) rfl (Nat.le_of_eq rfl) (hb hby at_67) (pc' := 70) rfl (by decide) (by decide) (fun T223 v223 L223 X223 hQ223 => ?_)
    obtain ⟨rfl, N223q, Kp223, hL223⟩ := hQ223
    have N224 := Fr.app N214 N223q
    have f225 := f215.keep Kp223 (ninS q196 (ninS q206 nin0))
    have f226 := f216.keep Kp223
    have f227 := IE213.keep Kp223
    have f228 := IAB213.keep Kp223 (ninS (Ne.symm IaB213) (ninS IBK213 nin0))
    have f229 := IEB213.keep Kp223
    have f230 := IEK213.keep Kp223
    have z231 : n0 ≤ T223.heap.size := Nat.le_trans z221 Kp223.1
    rw [show ((1 : Int32) + (1 : Int32)) = (2 : Int32) from by decide] at hL223
    obtain ⟨IE223, IS223, IB223, IAB223, IAK223, IEB223, IEK223, IO223, IaB223, IaK223, IBK223⟩ := hL223
    have f232 : Arv Z T223.heap K202 _ .int (16 : Int32) [(.int p0), (.int p1), (.int (0 : Int32)), (.int (0 : Int32)), (.int (0 : Int32)), (.int (0 : Int32)), (.int (0 : Int32)), (.int (0 : Int32)), (.int (0 : Int32)), (.int (0 : Int32)), (.int (0 : Int32)), (.int (0 : Int32)), (.int (0 : Int32)), (.int (0 : Int32)), (.int (0 : Int32)), (.int (0 : Int32))] (.int (0 : Int32)) := IAK223
    refine OwnK.iload X223 hx (hb hby at_70) (pc' := 72) rfl (v := (3 : Int32)) rfl ?_
    refine OwnK.iconst X223 hx (hb hby at_72) (pc' := 73) rfl (v := (2 : Int32)) (by decide) ?_
    refine OwnK.icmp_le X223 hx (hb hby at_73) (by decide) (pcT := 85) (by decide) (pc' := 76) rfl (fun (hc73 : 3 ≤ 2) => absurd hc73 (by decide)) (fun hc73 => ?_)
    refine OwnK.aload X223 hx (hb hby at_76) (pc' := 78) rfl (v := (.ref a195)) rfl rfl ?_
    refine OwnK.aload X223 hx (hb hby at_78) (pc' := 80) rfl (v := (.ref a172)) rfl rfl ?_
    refine OwnK.iconst X223 hx (hb hby at_80) (pc' := 81) rfl (v := (2 : Int32)) (by decide) ?_
    refine OwnK.iaload X223 hx hZ rfl f225 (by decide) (by first | decide | omega) (v := (.int (p0 ^^^ (-1 : Int32)))) rfl (hb hby at_81) (pc' := 82) rfl ?_
    refine OwnK.callV_ X223 hx hZ hown (y := (⟨"com/example/strict_reach/strictreach/IntList", "add", "(I)V"⟩ : MethodName)) (z := (⟨"com/example/strict_reach/strictreach/IntList", "add", "(I)V"⟩ : MethodName)) (a := a195) (hw _ (List.mem_of_getElem? (i := 15) rfl)) (hw _ (List.mem_of_getElem? (i := 16) rfl)) (notFace_of_selects (args := #[]) (mvT hZ (hw _ (List.mem_of_getElem? (i := 18) rfl)))) (hw _ (List.mem_of_getElem? (i := 18) rfl)) (hw _ (List.mem_of_getElem? (i := 17) rfl)) (hw _ (List.mem_of_getElem? (i := 19) rfl)) (hw _ (List.mem_of_getElem? (i := 3) rfl)) (by decide) IE223 (own_met3 l Z a0 hw T223.heap n0 z231 a195 (p0 ^^^ (-1 : Int32)) B202 K202 _ _ (2 : Int32) (16 : Int32) _ 2  ge_a195 ⟨IE223, IS223, IB223, IAB223, f232, IEB223, IEK223, IO223, IaB223, IaK223, IBK223⟩ ge_K202 (by decide) (Nat.le_of_ble_eq_true rfl) (by decide) (by decide) ) (by decide) (W := 0) (by decide) rfl (by rw [hml]; rfl) own_pd_4 (argsL := [(.int (p0 ^^^ (-1 : Int32)))]) rfl (S := []) rfl (Nat.le_of_eq rfl) (hb hby at_82) (pc' := 85) rfl (by decide) (by decide) (fun T233 v233 L233 X233 hQ233 => ?_)
    obtain ⟨rfl, N233q, Kp233, hL233⟩ := hQ233
    have N234 := Fr.app N224 N233q
    have f235 := f225.keep Kp233 (ninS q196 (ninS q206 nin0))
    have f236 := f226.keep Kp233
    have f237 := IE223.keep Kp233
    have f238 := IAB223.keep Kp233 (ninS (Ne.symm IaB223) (ninS IBK223 nin0))
    have f239 := IEB223.keep Kp233
    have f240 := IEK223.keep Kp233
    have z241 : n0 ≤ T233.heap.size := Nat.le_trans z231 Kp233.1
    rw [show ((2 : Int32) + (1 : Int32)) = (3 : Int32) from by decide] at hL233
    obtain ⟨IE233, IS233, IB233, IAB233, IAK233, IEB233, IEK233, IO233, IaB233, IaK233, IBK233⟩ := hL233
    have f242 : Arv Z T233.heap K202 _ .int (16 : Int32) [(.int p0), (.int p1), (.int (p0 ^^^ (-1 : Int32))), (.int (0 : Int32)), (.int (0 : Int32)), (.int (0 : Int32)), (.int (0 : Int32)), (.int (0 : Int32)), (.int (0 : Int32)), (.int (0 : Int32)), (.int (0 : Int32)), (.int (0 : Int32)), (.int (0 : Int32)), (.int (0 : Int32)), (.int (0 : Int32)), (.int (0 : Int32))] (.int (0 : Int32)) := IAK233
    refine OwnK.iload X233 hx (hb hby at_85) (pc' := 87) rfl (v := (3 : Int32)) rfl ?_
    refine OwnK.iconst X233 hx (hb hby at_87) (pc' := 88) rfl (v := (3 : Int32)) (by decide) ?_
    refine OwnK.icmp_le X233 hx (hb hby at_88) (by decide) (pcT := 100) (by decide) (pc' := 91) rfl (fun hc88 => ?_) (fun (hc88 : 3 < 3) => absurd hc88 (by decide))
    refine OwnK.iloadN X233 hx (hb hby at_100) (pc' := 101) rfl (v := p3) rfl ?_
    refine OwnK.ldcI X233 hx hZ hown (hw _ (List.mem_of_getElem? (i := 27) rfl)) (hb hby at_101) (pc' := 103) rfl ?_
    refine OwnK.iand X233 hx (hb hby at_103) (pc' := 104) rfl ?_
    refine OwnK.iload X233 hx (hb hby at_104) (pc' := 106) rfl (v := (3 : Int32)) rfl ?_
    refine OwnK.irem X233 hx (hb hby at_106) (pc' := 107) rfl (by decide) ?_
    refine OwnK.istoreG X233 hx (hb hby at_107) (pc' := 109) rfl (Ls' := fun u => #[.val (.int p0), .val (.int p1), .val (.int p2), .val (.int p3), .val (.int p4), .val (.int (3 : Int32)), .val (.ref a172), .val (.ref a195), .val (.int u), .unset]) (fun u => rfl) (fun u243 (hu243 : u243 = ((p3 &&& (2147483647 : Int32)) % (3 : Int32))) => ?_)
    have m3 := own_i3 p3
    rw [← hu243] at m3
    rcases m3 with rfl | rfl | rfl
    · refine OwnK.aload X233 hx (hb hby at_109) (pc' := 111) rfl (v := (.ref a195)) rfl rfl ?_
      refine OwnK.iload X233 hx (hb hby at_111) (pc' := 113) rfl (v := (0 : Int32)) rfl ?_
      refine OwnK.iloadN X233 hx (hb hby at_113) (pc' := 114) rfl (v := p2) rfl ?_
      refine OwnK.callV_ X233 hx hZ hown (y := (⟨"com/example/strict_reach/strictreach/IntList", "set", "(II)V"⟩ : MethodName)) (z := (⟨"com/example/strict_reach/strictreach/IntList", "set", "(II)V"⟩ : MethodName)) (a := a195) (hw _ (List.mem_of_getElem? (i := 28) rfl)) (hw _ (List.mem_of_getElem? (i := 29) rfl)) (notFace_of_selects (args := #[]) (mvT hZ (hw _ (List.mem_of_getElem? (i := 31) rfl)))) (hw _ (List.mem_of_getElem? (i := 31) rfl)) (hw _ (List.mem_of_getElem? (i := 30) rfl)) (hw _ (List.mem_of_getElem? (i := 32) rfl)) (hw _ (List.mem_of_getElem? (i := 3) rfl)) (by decide) IE233 (own_met5 l Z a0 hw T233.heap n0 z241 a195 (0 : Int32) p2 B202 K202 _ _ (3 : Int32) (16 : Int32) _ 0  ge_a195 ⟨IE233, IS233, IB233, IAB233, f242, IEB233, IEK233, IO233, IaB233, IaK233, IBK233⟩ ge_K202 (by decide) (by decide) (Nat.le_of_ble_eq_true rfl) ) (by decide) (W := 0) (by decide) rfl (by rw [hml]; rfl) own_pd_6 (argsL := [(.int (0 : Int32)), (.int p2)]) rfl (S := []) rfl (Nat.le_of_eq rfl) (hb hby at_114) (pc' := 117) rfl (by decide) (by decide) (fun T244 v244 L244 X244 hQ244 => ?_)
      obtain ⟨rfl, N244q, Kp244, hL244⟩ := hQ244
      have N245 := Fr.app N234 N244q
      have f246 := f235.keep Kp244 (ninS q196 (ninS q206 nin0))
      have f247 := f236.keep Kp244
      have f248 := IE233.keep Kp244
      have f249 := IAB233.keep Kp244 (ninS (Ne.symm IaB233) (ninS IBK233 nin0))
      have f250 := IEB233.keep Kp244
      have f251 := IEK233.keep Kp244
      have z252 : n0 ≤ T244.heap.size := Nat.le_trans z241 Kp244.1
      obtain ⟨IE244, IS244, IB244, IAB244, IAK244, IEB244, IEK244, IO244, IaB244, IaK244, IBK244⟩ := hL244
      have f253 : Arv Z T244.heap K202 _ .int (16 : Int32) [(.int p2), (.int p1), (.int (p0 ^^^ (-1 : Int32))), (.int (0 : Int32)), (.int (0 : Int32)), (.int (0 : Int32)), (.int (0 : Int32)), (.int (0 : Int32)), (.int (0 : Int32)), (.int (0 : Int32)), (.int (0 : Int32)), (.int (0 : Int32)), (.int (0 : Int32)), (.int (0 : Int32)), (.int (0 : Int32)), (.int (0 : Int32))] (.int (0 : Int32)) := IAK244
      refine OwnK.aload X244 hx (hb hby at_117) (pc' := 119) rfl (v := (.ref a195)) rfl rfl ?_
      refine OwnK.callV_ X244 hx hZ hown (y := (⟨"com/example/strict_reach/strictreach/IntList", "size", "()I"⟩ : MethodName)) (z := (⟨"com/example/strict_reach/strictreach/IntList", "size", "()I"⟩ : MethodName)) (a := a195) (hw _ (List.mem_of_getElem? (i := 41) rfl)) (hw _ (List.mem_of_getElem? (i := 42) rfl)) (notFace_of_selects (args := #[]) (mvT hZ (hw _ (List.mem_of_getElem? (i := 44) rfl)))) (hw _ (List.mem_of_getElem? (i := 44) rfl)) (hw _ (List.mem_of_getElem? (i := 43) rfl)) (hw _ (List.mem_of_getElem? (i := 45) rfl)) (hw _ (List.mem_of_getElem? (i := 3) rfl)) (by decide) IE244 (own_met8 l Z a0 hw T244.heap a195 B202 K202 _ _ (3 : Int32) (16 : Int32) _ ⟨IE244, IS244, IB244, IAB244, f253, IEB244, IEK244, IO244, IaB244, IaK244, IBK244⟩ ) (by decide) (W := 0) (by decide) rfl (by rw [hml]; rfl) own_pd_0 (argsL := []) rfl (S := []) rfl (Nat.le_of_eq rfl) (hb hby at_119) (pc' := 122) rfl (by decide) (by decide) (fun T254 v254 L254 X254 hQ254 => ?_)
      obtain ⟨rfl, e254, rfl⟩ := hQ254
      have N255 := Fr.app N245 (Fr.nil n0)
      refine OwnK.iload X254 hx (hb hby at_122) (pc' := 124) rfl (v := (3 : Int32)) rfl ?_
      refine OwnK.icmp_ne X254 hx (hb hby at_124) (by decide) (pcT := 131) (by decide) (pc' := 127) rfl (fun (hc124 : ¬ 3 = 3) => absurd hc124 (by decide)) (fun hc124 => ?_)
      refine OwnK.iconst X254 hx (hb hby at_127) (pc' := 128) rfl (v := (1 : Int32)) (by decide) ?_
      refine OwnK.goto_ X254 hx (hb hby at_128) (by decide) (pc' := 132) (by decide) ?_
      refine OwnK.istore X254 hx (hb hby at_132) (pc' := 134) rfl (Ls' := #[.val (.int p0), .val (.int p1), .val (.int p2), .val (.int p3), .val (.int p4), .val (.int (3 : Int32)), .val (.ref a172), .val (.ref a195), .val (.int (0 : Int32)), .val (.int (1 : Int32))]) rfl ?_
      refine OwnK.iload X254 hx (hb hby at_134) (pc' := 136) rfl (v := (1 : Int32)) rfl ?_
      refine OwnK.if_eq X254 hx (hb hby at_136) (by decide) (pcT := 161) (by decide) (pc' := 139) rfl (fun (hc136 : 1 = 0) => absurd hc136 (by decide)) (fun hc136 => ?_)
      refine OwnK.aload X254 hx (hb hby at_139) (pc' := 141) rfl (v := (.ref a195)) rfl rfl ?_
      refine OwnK.iconst X254 hx (hb hby at_141) (pc' := 142) rfl (v := (0 : Int32)) (by decide) ?_
      refine OwnK.callV_ X254 hx hZ hown (y := (⟨"com/example/strict_reach/strictreach/IntList", "get", "(I)I"⟩ : MethodName)) (z := (⟨"com/example/strict_reach/strictreach/IntList", "get", "(I)I"⟩ : MethodName)) (a := a195) (hw _ (List.mem_of_getElem? (i := 46) rfl)) (hw _ (List.mem_of_getElem? (i := 47) rfl)) (notFace_of_selects (args := #[]) (mvT hZ (hw _ (List.mem_of_getElem? (i := 49) rfl)))) (hw _ (List.mem_of_getElem? (i := 49) rfl)) (hw _ (List.mem_of_getElem? (i := 48) rfl)) (hw _ (List.mem_of_getElem? (i := 50) rfl)) (hw _ (List.mem_of_getElem? (i := 3) rfl)) (by decide) IE244 (own_met9 l Z a0 hw T244.heap a195 (0 : Int32) B202 K202 _ _ (3 : Int32) (16 : Int32) _ 0 p2 ⟨IE244, IS244, IB244, IAB244, f253, IEB244, IEK244, IO244, IaB244, IaK244, IBK244⟩ (by decide) (by decide) rfl ) (by decide) (W := 0) (by decide) e254 (by rw [hml]; rfl) own_pd_3 (argsL := [(.int (0 : Int32))]) rfl (S := []) rfl (Nat.le_of_eq rfl) (hb hby at_142) (pc' := 145) rfl (by decide) (by decide) (fun T256 v256 L256 X256 hQ256 => ?_)
      obtain ⟨rfl, e256, rfl⟩ := hQ256
      have N257 := Fr.app N255 (Fr.nil n0)
      refine OwnK.iconst X256 hx (hb hby at_145) (pc' := 146) rfl (v := (0 : Int32)) (by decide) ?_
      refine OwnK.iload X256 hx (hb hby at_146) (pc' := 148) rfl (v := (0 : Int32)) rfl ?_
      refine OwnK.iloadN X256 hx (hb hby at_148) (pc' := 149) rfl (v := p2) rfl ?_
      refine OwnK.aload X256 hx (hb hby at_149) (pc' := 151) rfl (v := (.ref a172)) rfl rfl ?_
      refine OwnK.callS_ X256 hx hZ hown (y := (⟨"com/example/strict_reach/strictreach/IntListSetPinLaw", "expect", "(III[I)I"⟩ : MethodName)) (hw _ (List.mem_of_getElem? (i := 51) rfl)) (hw _ (List.mem_of_getElem? (i := 52) rfl)) (hw _ (List.mem_of_getElem? (i := 53) rfl)) (hw _ (List.mem_of_getElem? (i := 54) rfl)) (by decide) (own_met10 l Z a0 hw T244.heap (0 : Int32) (0 : Int32) p2 a172 _ _ p0 0 f246 (by decide) (by decide) rfl ) (by decide) (W := 1) (by decide) e256 (by rw [hml]; rfl) own_pd_7 (argsL := [(.int (0 : Int32)), (.int (0 : Int32)), (.int p2), (.ref a172)]) rfl (S := [(.int p2)]) rfl (Nat.le_of_eq rfl) (hb hby at_151) (pc' := 154) rfl (by decide) (by decide) (fun T258 v258 L258 X258 hQ258 => ?_)
      obtain ⟨hv258, e258, rfl⟩ := hQ258
      obtain rfl : v258 = some (.int p2) := hv258.trans (by first | rw [if_pos (by decide)] | rw [if_neg (by decide)])
      have N259 := Fr.app N257 (Fr.nil n0)
      refine OwnK.icmp_ne X258 hx (hb hby at_154) (by decide) (pcT := 161) (by decide) (pc' := 157) rfl (fun (hc154 : ¬ p2.toInt = p2.toInt) => absurd rfl hc154) (fun hc154 => ?_)
      refine OwnK.iconst X258 hx (hb hby at_157) (pc' := 158) rfl (v := (1 : Int32)) (by decide) ?_
      refine OwnK.goto_ X258 hx (hb hby at_158) (by decide) (pc' := 162) (by decide) ?_
      refine OwnK.istore X258 hx (hb hby at_162) (pc' := 164) rfl (Ls' := #[.val (.int p0), .val (.int p1), .val (.int p2), .val (.int p3), .val (.int p4), .val (.int (3 : Int32)), .val (.ref a172), .val (.ref a195), .val (.int (0 : Int32)), .val (.int (1 : Int32))]) rfl ?_
      refine OwnK.iload X258 hx (hb hby at_164) (pc' := 166) rfl (v := (3 : Int32)) rfl ?_
      refine OwnK.iconst X258 hx (hb hby at_166) (pc' := 167) rfl (v := (1 : Int32)) (by decide) ?_
      refine OwnK.icmp_le X258 hx (hb hby at_167) (by decide) (pcT := 200) (by decide) (pc' := 170) rfl (fun (hc167 : 3 ≤ 1) => absurd hc167 (by decide)) (fun hc167 => ?_)
      refine OwnK.iload X258 hx (hb hby at_170) (pc' := 172) rfl (v := (1 : Int32)) rfl ?_
      refine OwnK.if_eq X258 hx (hb hby at_172) (by decide) (pcT := 197) (by decide) (pc' := 175) rfl (fun (hc172 : 1 = 0) => absurd hc172 (by decide)) (fun hc172 => ?_)
      refine OwnK.aload X258 hx (hb hby at_175) (pc' := 177) rfl (v := (.ref a195)) rfl rfl ?_
      refine OwnK.iconst X258 hx (hb hby at_177) (pc' := 178) rfl (v := (1 : Int32)) (by decide) ?_
      refine OwnK.callV_ X258 hx hZ hown (y := (⟨"com/example/strict_reach/strictreach/IntList", "get", "(I)I"⟩ : MethodName)) (z := (⟨"com/example/strict_reach/strictreach/IntList", "get", "(I)I"⟩ : MethodName)) (a := a195) (hw _ (List.mem_of_getElem? (i := 46) rfl)) (hw _ (List.mem_of_getElem? (i := 47) rfl)) (notFace_of_selects (args := #[]) (mvT hZ (hw _ (List.mem_of_getElem? (i := 49) rfl)))) (hw _ (List.mem_of_getElem? (i := 49) rfl)) (hw _ (List.mem_of_getElem? (i := 48) rfl)) (hw _ (List.mem_of_getElem? (i := 50) rfl)) (hw _ (List.mem_of_getElem? (i := 3) rfl)) (by decide) IE244 (own_met9 l Z a0 hw T244.heap a195 (1 : Int32) B202 K202 _ _ (3 : Int32) (16 : Int32) _ 1 p1 ⟨IE244, IS244, IB244, IAB244, f253, IEB244, IEK244, IO244, IaB244, IaK244, IBK244⟩ (by decide) (by decide) rfl ) (by decide) (W := 0) (by decide) e258 (by rw [hml]; rfl) own_pd_3 (argsL := [(.int (1 : Int32))]) rfl (S := []) rfl (Nat.le_of_eq rfl) (hb hby at_178) (pc' := 181) rfl (by decide) (by decide) (fun T260 v260 L260 X260 hQ260 => ?_)
      obtain ⟨rfl, e260, rfl⟩ := hQ260
      have N261 := Fr.app N259 (Fr.nil n0)
      refine OwnK.iconst X260 hx (hb hby at_181) (pc' := 182) rfl (v := (1 : Int32)) (by decide) ?_
      refine OwnK.iload X260 hx (hb hby at_182) (pc' := 184) rfl (v := (0 : Int32)) rfl ?_
      refine OwnK.iloadN X260 hx (hb hby at_184) (pc' := 185) rfl (v := p2) rfl ?_
      refine OwnK.aload X260 hx (hb hby at_185) (pc' := 187) rfl (v := (.ref a172)) rfl rfl ?_
      refine OwnK.callS_ X260 hx hZ hown (y := (⟨"com/example/strict_reach/strictreach/IntListSetPinLaw", "expect", "(III[I)I"⟩ : MethodName)) (hw _ (List.mem_of_getElem? (i := 51) rfl)) (hw _ (List.mem_of_getElem? (i := 52) rfl)) (hw _ (List.mem_of_getElem? (i := 53) rfl)) (hw _ (List.mem_of_getElem? (i := 54) rfl)) (by decide) (own_met10 l Z a0 hw T244.heap (1 : Int32) (0 : Int32) p2 a172 _ _ p1 1 f246 (by decide) (by decide) rfl ) (by decide) (W := 1) (by decide) e260 (by rw [hml]; rfl) own_pd_7 (argsL := [(.int (1 : Int32)), (.int (0 : Int32)), (.int p2), (.ref a172)]) rfl (S := [(.int p1)]) rfl (Nat.le_of_eq rfl) (hb hby at_187) (pc' := 190) rfl (by decide) (by decide) (fun T262 v262 L262 X262 hQ262 => ?_)
      obtain ⟨hv262, e262, rfl⟩ := hQ262
      obtain rfl : v262 = some (.int p1) := hv262.trans (by first | rw [if_pos (by decide)] | rw [if_neg (by decide)])
      have N263 := Fr.app N261 (Fr.nil n0)
      refine OwnK.icmp_ne X262 hx (hb hby at_190) (by decide) (pcT := 197) (by decide) (pc' := 193) rfl (fun (hc190 : ¬ p1.toInt = p1.toInt) => absurd rfl hc190) (fun hc190 => ?_)
      refine OwnK.iconst X262 hx (hb hby at_193) (pc' := 194) rfl (v := (1 : Int32)) (by decide) ?_
      refine OwnK.goto_ X262 hx (hb hby at_194) (by decide) (pc' := 198) (by decide) ?_
      refine OwnK.istore X262 hx (hb hby at_198) (pc' := 200) rfl (Ls' := #[.val (.int p0), .val (.int p1), .val (.int p2), .val (.int p3), .val (.int p4), .val (.int (3 : Int32)), .val (.ref a172), .val (.ref a195), .val (.int (0 : Int32)), .val (.int (1 : Int32))]) rfl ?_
      refine OwnK.iload X262 hx (hb hby at_200) (pc' := 202) rfl (v := (3 : Int32)) rfl ?_
      refine OwnK.iconst X262 hx (hb hby at_202) (pc' := 203) rfl (v := (2 : Int32)) (by decide) ?_
      refine OwnK.icmp_le X262 hx (hb hby at_203) (by decide) (pcT := 236) (by decide) (pc' := 206) rfl (fun (hc203 : 3 ≤ 2) => absurd hc203 (by decide)) (fun hc203 => ?_)
      refine OwnK.iload X262 hx (hb hby at_206) (pc' := 208) rfl (v := (1 : Int32)) rfl ?_
      refine OwnK.if_eq X262 hx (hb hby at_208) (by decide) (pcT := 233) (by decide) (pc' := 211) rfl (fun (hc208 : 1 = 0) => absurd hc208 (by decide)) (fun hc208 => ?_)
      refine OwnK.aload X262 hx (hb hby at_211) (pc' := 213) rfl (v := (.ref a195)) rfl rfl ?_
      refine OwnK.iconst X262 hx (hb hby at_213) (pc' := 214) rfl (v := (2 : Int32)) (by decide) ?_
      refine OwnK.callV_ X262 hx hZ hown (y := (⟨"com/example/strict_reach/strictreach/IntList", "get", "(I)I"⟩ : MethodName)) (z := (⟨"com/example/strict_reach/strictreach/IntList", "get", "(I)I"⟩ : MethodName)) (a := a195) (hw _ (List.mem_of_getElem? (i := 46) rfl)) (hw _ (List.mem_of_getElem? (i := 47) rfl)) (notFace_of_selects (args := #[]) (mvT hZ (hw _ (List.mem_of_getElem? (i := 49) rfl)))) (hw _ (List.mem_of_getElem? (i := 49) rfl)) (hw _ (List.mem_of_getElem? (i := 48) rfl)) (hw _ (List.mem_of_getElem? (i := 50) rfl)) (hw _ (List.mem_of_getElem? (i := 3) rfl)) (by decide) IE244 (own_met9 l Z a0 hw T244.heap a195 (2 : Int32) B202 K202 _ _ (3 : Int32) (16 : Int32) _ 2 (p0 ^^^ (-1 : Int32)) ⟨IE244, IS244, IB244, IAB244, f253, IEB244, IEK244, IO244, IaB244, IaK244, IBK244⟩ (by decide) (by decide) rfl ) (by decide) (W := 0) (by decide) e262 (by rw [hml]; rfl) own_pd_3 (argsL := [(.int (2 : Int32))]) rfl (S := []) rfl (Nat.le_of_eq rfl) (hb hby at_214) (pc' := 217) rfl (by decide) (by decide) (fun T264 v264 L264 X264 hQ264 => ?_)
      obtain ⟨rfl, e264, rfl⟩ := hQ264
      have N265 := Fr.app N263 (Fr.nil n0)
      refine OwnK.iconst X264 hx (hb hby at_217) (pc' := 218) rfl (v := (2 : Int32)) (by decide) ?_
      refine OwnK.iload X264 hx (hb hby at_218) (pc' := 220) rfl (v := (0 : Int32)) rfl ?_
      refine OwnK.iloadN X264 hx (hb hby at_220) (pc' := 221) rfl (v := p2) rfl ?_
      refine OwnK.aload X264 hx (hb hby at_221) (pc' := 223) rfl (v := (.ref a172)) rfl rfl ?_
      refine OwnK.callS_ X264 hx hZ hown (y := (⟨"com/example/strict_reach/strictreach/IntListSetPinLaw", "expect", "(III[I)I"⟩ : MethodName)) (hw _ (List.mem_of_getElem? (i := 51) rfl)) (hw _ (List.mem_of_getElem? (i := 52) rfl)) (hw _ (List.mem_of_getElem? (i := 53) rfl)) (hw _ (List.mem_of_getElem? (i := 54) rfl)) (by decide) (own_met10 l Z a0 hw T244.heap (2 : Int32) (0 : Int32) p2 a172 _ _ (p0 ^^^ (-1 : Int32)) 2 f246 (by decide) (by decide) rfl ) (by decide) (W := 1) (by decide) e264 (by rw [hml]; rfl) own_pd_7 (argsL := [(.int (2 : Int32)), (.int (0 : Int32)), (.int p2), (.ref a172)]) rfl (S := [(.int (p0 ^^^ (-1 : Int32)))]) rfl (Nat.le_of_eq rfl) (hb hby at_223) (pc' := 226) rfl (by decide) (by decide) (fun T266 v266 L266 X266 hQ266 => ?_)
      obtain ⟨hv266, e266, rfl⟩ := hQ266
      obtain rfl : v266 = some (.int (p0 ^^^ (-1 : Int32))) := hv266.trans (by first | rw [if_pos (by decide)] | rw [if_neg (by decide)])
      have N267 := Fr.app N265 (Fr.nil n0)
      refine OwnK.icmp_ne X266 hx (hb hby at_226) (by decide) (pcT := 233) (by decide) (pc' := 229) rfl (fun (hc226 : ¬ (p0 ^^^ (-1 : Int32)).toInt = (p0 ^^^ (-1 : Int32)).toInt) => absurd rfl hc226) (fun hc226 => ?_)
      refine OwnK.iconst X266 hx (hb hby at_229) (pc' := 230) rfl (v := (1 : Int32)) (by decide) ?_
      refine OwnK.goto_ X266 hx (hb hby at_230) (by decide) (pc' := 234) (by decide) ?_
      refine OwnK.istore X266 hx (hb hby at_234) (pc' := 236) rfl (Ls' := #[.val (.int p0), .val (.int p1), .val (.int p2), .val (.int p3), .val (.int p4), .val (.int (3 : Int32)), .val (.ref a172), .val (.ref a195), .val (.int (0 : Int32)), .val (.int (1 : Int32))]) rfl ?_
      refine OwnK.iload X266 hx (hb hby at_236) (pc' := 238) rfl (v := (3 : Int32)) rfl ?_
      refine OwnK.iconst X266 hx (hb hby at_238) (pc' := 239) rfl (v := (3 : Int32)) (by decide) ?_
      refine OwnK.icmp_le X266 hx (hb hby at_239) (by decide) (pcT := 272) (by decide) (pc' := 242) rfl (fun hc239 => ?_) (fun (hc239 : 3 < 3) => absurd hc239 (by decide))
      refine OwnK.iload X266 hx (hb hby at_272) (pc' := 274) rfl (v := (1 : Int32)) rfl ?_
      refine OwnK.retN_ X266 hx hret (by simp) hlk (hb hby at_274) (by decide) (by decide) ?_
      exact ⟨rfl, N267⟩
    · refine OwnK.aload X233 hx (hb hby at_109) (pc' := 111) rfl (v := (.ref a195)) rfl rfl ?_
      refine OwnK.iload X233 hx (hb hby at_111) (pc' := 113) rfl (v := (1 : Int32)) rfl ?_
      refine OwnK.iloadN X233 hx (hb hby at_113) (pc' := 114) rfl (v := p2) rfl ?_
      refine OwnK.callV_ X233 hx hZ hown (y := (⟨"com/example/strict_reach/strictreach/IntList", "set", "(II)V"⟩ : MethodName)) (z := (⟨"com/example/strict_reach/strictreach/IntList", "set", "(II)V"⟩ : MethodName)) (a := a195) (hw _ (List.mem_of_getElem? (i := 28) rfl)) (hw _ (List.mem_of_getElem? (i := 29) rfl)) (notFace_of_selects (args := #[]) (mvT hZ (hw _ (List.mem_of_getElem? (i := 31) rfl)))) (hw _ (List.mem_of_getElem? (i := 31) rfl)) (hw _ (List.mem_of_getElem? (i := 30) rfl)) (hw _ (List.mem_of_getElem? (i := 32) rfl)) (hw _ (List.mem_of_getElem? (i := 3) rfl)) (by decide) IE233 (own_met5 l Z a0 hw T233.heap n0 z241 a195 (1 : Int32) p2 B202 K202 _ _ (3 : Int32) (16 : Int32) _ 1  ge_a195 ⟨IE233, IS233, IB233, IAB233, f242, IEB233, IEK233, IO233, IaB233, IaK233, IBK233⟩ ge_K202 (by decide) (by decide) (Nat.le_of_ble_eq_true rfl) ) (by decide) (W := 0) (by decide) rfl (by rw [hml]; rfl) own_pd_6 (argsL := [(.int (1 : Int32)), (.int p2)]) rfl (S := []) rfl (Nat.le_of_eq rfl) (hb hby at_114) (pc' := 117) rfl (by decide) (by decide) (fun T268 v268 L268 X268 hQ268 => ?_)
      obtain ⟨rfl, N268q, Kp268, hL268⟩ := hQ268
      have N269 := Fr.app N234 N268q
      have f270 := f235.keep Kp268 (ninS q196 (ninS q206 nin0))
      have f271 := f236.keep Kp268
      have f272 := IE233.keep Kp268
      have f273 := IAB233.keep Kp268 (ninS (Ne.symm IaB233) (ninS IBK233 nin0))
      have f274 := IEB233.keep Kp268
      have f275 := IEK233.keep Kp268
      have z276 : n0 ≤ T268.heap.size := Nat.le_trans z241 Kp268.1
      obtain ⟨IE268, IS268, IB268, IAB268, IAK268, IEB268, IEK268, IO268, IaB268, IaK268, IBK268⟩ := hL268
      have f277 : Arv Z T268.heap K202 _ .int (16 : Int32) [(.int p0), (.int p2), (.int (p0 ^^^ (-1 : Int32))), (.int (0 : Int32)), (.int (0 : Int32)), (.int (0 : Int32)), (.int (0 : Int32)), (.int (0 : Int32)), (.int (0 : Int32)), (.int (0 : Int32)), (.int (0 : Int32)), (.int (0 : Int32)), (.int (0 : Int32)), (.int (0 : Int32)), (.int (0 : Int32)), (.int (0 : Int32))] (.int (0 : Int32)) := IAK268
      refine OwnK.aload X268 hx (hb hby at_117) (pc' := 119) rfl (v := (.ref a195)) rfl rfl ?_
      refine OwnK.callV_ X268 hx hZ hown (y := (⟨"com/example/strict_reach/strictreach/IntList", "size", "()I"⟩ : MethodName)) (z := (⟨"com/example/strict_reach/strictreach/IntList", "size", "()I"⟩ : MethodName)) (a := a195) (hw _ (List.mem_of_getElem? (i := 41) rfl)) (hw _ (List.mem_of_getElem? (i := 42) rfl)) (notFace_of_selects (args := #[]) (mvT hZ (hw _ (List.mem_of_getElem? (i := 44) rfl)))) (hw _ (List.mem_of_getElem? (i := 44) rfl)) (hw _ (List.mem_of_getElem? (i := 43) rfl)) (hw _ (List.mem_of_getElem? (i := 45) rfl)) (hw _ (List.mem_of_getElem? (i := 3) rfl)) (by decide) IE268 (own_met8 l Z a0 hw T268.heap a195 B202 K202 _ _ (3 : Int32) (16 : Int32) _ ⟨IE268, IS268, IB268, IAB268, f277, IEB268, IEK268, IO268, IaB268, IaK268, IBK268⟩ ) (by decide) (W := 0) (by decide) rfl (by rw [hml]; rfl) own_pd_0 (argsL := []) rfl (S := []) rfl (Nat.le_of_eq rfl) (hb hby at_119) (pc' := 122) rfl (by decide) (by decide) (fun T278 v278 L278 X278 hQ278 => ?_)
      obtain ⟨rfl, e278, rfl⟩ := hQ278
      have N279 := Fr.app N269 (Fr.nil n0)
      refine OwnK.iload X278 hx (hb hby at_122) (pc' := 124) rfl (v := (3 : Int32)) rfl ?_
      refine OwnK.icmp_ne X278 hx (hb hby at_124) (by decide) (pcT := 131) (by decide) (pc' := 127) rfl (fun (hc124 : ¬ 3 = 3) => absurd hc124 (by decide)) (fun hc124 => ?_)
      refine OwnK.iconst X278 hx (hb hby at_127) (pc' := 128) rfl (v := (1 : Int32)) (by decide) ?_
      refine OwnK.goto_ X278 hx (hb hby at_128) (by decide) (pc' := 132) (by decide) ?_
      refine OwnK.istore X278 hx (hb hby at_132) (pc' := 134) rfl (Ls' := #[.val (.int p0), .val (.int p1), .val (.int p2), .val (.int p3), .val (.int p4), .val (.int (3 : Int32)), .val (.ref a172), .val (.ref a195), .val (.int (1 : Int32)), .val (.int (1 : Int32))]) rfl ?_
      refine OwnK.iload X278 hx (hb hby at_134) (pc' := 136) rfl (v := (1 : Int32)) rfl ?_
      refine OwnK.if_eq X278 hx (hb hby at_136) (by decide) (pcT := 161) (by decide) (pc' := 139) rfl (fun (hc136 : 1 = 0) => absurd hc136 (by decide)) (fun hc136 => ?_)
      refine OwnK.aload X278 hx (hb hby at_139) (pc' := 141) rfl (v := (.ref a195)) rfl rfl ?_
      refine OwnK.iconst X278 hx (hb hby at_141) (pc' := 142) rfl (v := (0 : Int32)) (by decide) ?_
      refine OwnK.callV_ X278 hx hZ hown (y := (⟨"com/example/strict_reach/strictreach/IntList", "get", "(I)I"⟩ : MethodName)) (z := (⟨"com/example/strict_reach/strictreach/IntList", "get", "(I)I"⟩ : MethodName)) (a := a195) (hw _ (List.mem_of_getElem? (i := 46) rfl)) (hw _ (List.mem_of_getElem? (i := 47) rfl)) (notFace_of_selects (args := #[]) (mvT hZ (hw _ (List.mem_of_getElem? (i := 49) rfl)))) (hw _ (List.mem_of_getElem? (i := 49) rfl)) (hw _ (List.mem_of_getElem? (i := 48) rfl)) (hw _ (List.mem_of_getElem? (i := 50) rfl)) (hw _ (List.mem_of_getElem? (i := 3) rfl)) (by decide) IE268 (own_met9 l Z a0 hw T268.heap a195 (0 : Int32) B202 K202 _ _ (3 : Int32) (16 : Int32) _ 0 p0 ⟨IE268, IS268, IB268, IAB268, f277, IEB268, IEK268, IO268, IaB268, IaK268, IBK268⟩ (by decide) (by decide) rfl ) (by decide) (W := 0) (by decide) e278 (by rw [hml]; rfl) own_pd_3 (argsL := [(.int (0 : Int32))]) rfl (S := []) rfl (Nat.le_of_eq rfl) (hb hby at_142) (pc' := 145) rfl (by decide) (by decide) (fun T280 v280 L280 X280 hQ280 => ?_)
      obtain ⟨rfl, e280, rfl⟩ := hQ280
      have N281 := Fr.app N279 (Fr.nil n0)
      refine OwnK.iconst X280 hx (hb hby at_145) (pc' := 146) rfl (v := (0 : Int32)) (by decide) ?_
      refine OwnK.iload X280 hx (hb hby at_146) (pc' := 148) rfl (v := (1 : Int32)) rfl ?_
      refine OwnK.iloadN X280 hx (hb hby at_148) (pc' := 149) rfl (v := p2) rfl ?_
      refine OwnK.aload X280 hx (hb hby at_149) (pc' := 151) rfl (v := (.ref a172)) rfl rfl ?_
      refine OwnK.callS_ X280 hx hZ hown (y := (⟨"com/example/strict_reach/strictreach/IntListSetPinLaw", "expect", "(III[I)I"⟩ : MethodName)) (hw _ (List.mem_of_getElem? (i := 51) rfl)) (hw _ (List.mem_of_getElem? (i := 52) rfl)) (hw _ (List.mem_of_getElem? (i := 53) rfl)) (hw _ (List.mem_of_getElem? (i := 54) rfl)) (by decide) (own_met10 l Z a0 hw T268.heap (0 : Int32) (1 : Int32) p2 a172 _ _ p0 0 f270 (by decide) (by decide) rfl ) (by decide) (W := 1) (by decide) e280 (by rw [hml]; rfl) own_pd_7 (argsL := [(.int (0 : Int32)), (.int (1 : Int32)), (.int p2), (.ref a172)]) rfl (S := [(.int p0)]) rfl (Nat.le_of_eq rfl) (hb hby at_151) (pc' := 154) rfl (by decide) (by decide) (fun T282 v282 L282 X282 hQ282 => ?_)
      obtain ⟨hv282, e282, rfl⟩ := hQ282
      obtain rfl : v282 = some (.int p0) := hv282.trans (by first | rw [if_pos (by decide)] | rw [if_neg (by decide)])
      have N283 := Fr.app N281 (Fr.nil n0)
      refine OwnK.icmp_ne X282 hx (hb hby at_154) (by decide) (pcT := 161) (by decide) (pc' := 157) rfl (fun (hc154 : ¬ p0.toInt = p0.toInt) => absurd rfl hc154) (fun hc154 => ?_)
      refine OwnK.iconst X282 hx (hb hby at_157) (pc' := 158) rfl (v := (1 : Int32)) (by decide) ?_
      refine OwnK.goto_ X282 hx (hb hby at_158) (by decide) (pc' := 162) (by decide) ?_
      refine OwnK.istore X282 hx (hb hby at_162) (pc' := 164) rfl (Ls' := #[.val (.int p0), .val (.int p1), .val (.int p2), .val (.int p3), .val (.int p4), .val (.int (3 : Int32)), .val (.ref a172), .val (.ref a195), .val (.int (1 : Int32)), .val (.int (1 : Int32))]) rfl ?_
      refine OwnK.iload X282 hx (hb hby at_164) (pc' := 166) rfl (v := (3 : Int32)) rfl ?_
      refine OwnK.iconst X282 hx (hb hby at_166) (pc' := 167) rfl (v := (1 : Int32)) (by decide) ?_
      refine OwnK.icmp_le X282 hx (hb hby at_167) (by decide) (pcT := 200) (by decide) (pc' := 170) rfl (fun (hc167 : 3 ≤ 1) => absurd hc167 (by decide)) (fun hc167 => ?_)
      refine OwnK.iload X282 hx (hb hby at_170) (pc' := 172) rfl (v := (1 : Int32)) rfl ?_
      refine OwnK.if_eq X282 hx (hb hby at_172) (by decide) (pcT := 197) (by decide) (pc' := 175) rfl (fun (hc172 : 1 = 0) => absurd hc172 (by decide)) (fun hc172 => ?_)
      refine OwnK.aload X282 hx (hb hby at_175) (pc' := 177) rfl (v := (.ref a195)) rfl rfl ?_
      refine OwnK.iconst X282 hx (hb hby at_177) (pc' := 178) rfl (v := (1 : Int32)) (by decide) ?_
      refine OwnK.callV_ X282 hx hZ hown (y := (⟨"com/example/strict_reach/strictreach/IntList", "get", "(I)I"⟩ : MethodName)) (z := (⟨"com/example/strict_reach/strictreach/IntList", "get", "(I)I"⟩ : MethodName)) (a := a195) (hw _ (List.mem_of_getElem? (i := 46) rfl)) (hw _ (List.mem_of_getElem? (i := 47) rfl)) (notFace_of_selects (args := #[]) (mvT hZ (hw _ (List.mem_of_getElem? (i := 49) rfl)))) (hw _ (List.mem_of_getElem? (i := 49) rfl)) (hw _ (List.mem_of_getElem? (i := 48) rfl)) (hw _ (List.mem_of_getElem? (i := 50) rfl)) (hw _ (List.mem_of_getElem? (i := 3) rfl)) (by decide) IE268 (own_met9 l Z a0 hw T268.heap a195 (1 : Int32) B202 K202 _ _ (3 : Int32) (16 : Int32) _ 1 p2 ⟨IE268, IS268, IB268, IAB268, f277, IEB268, IEK268, IO268, IaB268, IaK268, IBK268⟩ (by decide) (by decide) rfl ) (by decide) (W := 0) (by decide) e282 (by rw [hml]; rfl) own_pd_3 (argsL := [(.int (1 : Int32))]) rfl (S := []) rfl (Nat.le_of_eq rfl) (hb hby at_178) (pc' := 181) rfl (by decide) (by decide) (fun T284 v284 L284 X284 hQ284 => ?_)
      obtain ⟨rfl, e284, rfl⟩ := hQ284
      have N285 := Fr.app N283 (Fr.nil n0)
      refine OwnK.iconst X284 hx (hb hby at_181) (pc' := 182) rfl (v := (1 : Int32)) (by decide) ?_
      refine OwnK.iload X284 hx (hb hby at_182) (pc' := 184) rfl (v := (1 : Int32)) rfl ?_
      refine OwnK.iloadN X284 hx (hb hby at_184) (pc' := 185) rfl (v := p2) rfl ?_
      refine OwnK.aload X284 hx (hb hby at_185) (pc' := 187) rfl (v := (.ref a172)) rfl rfl ?_
      refine OwnK.callS_ X284 hx hZ hown (y := (⟨"com/example/strict_reach/strictreach/IntListSetPinLaw", "expect", "(III[I)I"⟩ : MethodName)) (hw _ (List.mem_of_getElem? (i := 51) rfl)) (hw _ (List.mem_of_getElem? (i := 52) rfl)) (hw _ (List.mem_of_getElem? (i := 53) rfl)) (hw _ (List.mem_of_getElem? (i := 54) rfl)) (by decide) (own_met10 l Z a0 hw T268.heap (1 : Int32) (1 : Int32) p2 a172 _ _ p1 1 f270 (by decide) (by decide) rfl ) (by decide) (W := 1) (by decide) e284 (by rw [hml]; rfl) own_pd_7 (argsL := [(.int (1 : Int32)), (.int (1 : Int32)), (.int p2), (.ref a172)]) rfl (S := [(.int p2)]) rfl (Nat.le_of_eq rfl) (hb hby at_187) (pc' := 190) rfl (by decide) (by decide) (fun T286 v286 L286 X286 hQ286 => ?_)
      obtain ⟨hv286, e286, rfl⟩ := hQ286
      obtain rfl : v286 = some (.int p2) := hv286.trans (by first | rw [if_pos (by decide)] | rw [if_neg (by decide)])
      have N287 := Fr.app N285 (Fr.nil n0)
      refine OwnK.icmp_ne X286 hx (hb hby at_190) (by decide) (pcT := 197) (by decide) (pc' := 193) rfl (fun (hc190 : ¬ p2.toInt = p2.toInt) => absurd rfl hc190) (fun hc190 => ?_)
      refine OwnK.iconst X286 hx (hb hby at_193) (pc' := 194) rfl (v := (1 : Int32)) (by decide) ?_
      refine OwnK.goto_ X286 hx (hb hby at_194) (by decide) (pc' := 198) (by decide) ?_
      refine OwnK.istore X286 hx (hb hby at_198) (pc' := 200) rfl (Ls' := #[.val (.int p0), .val (.int p1), .val (.int p2), .val (.int p3), .val (.int p4), .val (.int (3 : Int32)), .val (.ref a172), .val (.ref a195), .val (.int (1 : Int32)), .val (.int (1 : Int32))]) rfl ?_
      refine OwnK.iload X286 hx (hb hby at_200) (pc' := 202) rfl (v := (3 : Int32)) rfl ?_
      refine OwnK.iconst X286 hx (hb hby at_202) (pc' := 203) rfl (v := (2 : Int32)) (by decide) ?_
      refine OwnK.icmp_le X286 hx (hb hby at_203) (by decide) (pcT := 236) (by decide) (pc' := 206) rfl (fun (hc203 : 3 ≤ 2) => absurd hc203 (by decide)) (fun hc203 => ?_)
      refine OwnK.iload X286 hx (hb hby at_206) (pc' := 208) rfl (v := (1 : Int32)) rfl ?_
      refine OwnK.if_eq X286 hx (hb hby at_208) (by decide) (pcT := 233) (by decide) (pc' := 211) rfl (fun (hc208 : 1 = 0) => absurd hc208 (by decide)) (fun hc208 => ?_)
      refine OwnK.aload X286 hx (hb hby at_211) (pc' := 213) rfl (v := (.ref a195)) rfl rfl ?_
      refine OwnK.iconst X286 hx (hb hby at_213) (pc' := 214) rfl (v := (2 : Int32)) (by decide) ?_
      refine OwnK.callV_ X286 hx hZ hown (y := (⟨"com/example/strict_reach/strictreach/IntList", "get", "(I)I"⟩ : MethodName)) (z := (⟨"com/example/strict_reach/strictreach/IntList", "get", "(I)I"⟩ : MethodName)) (a := a195) (hw _ (List.mem_of_getElem? (i := 46) rfl)) (hw _ (List.mem_of_getElem? (i := 47) rfl)) (notFace_of_selects (args := #[]) (mvT hZ (hw _ (List.mem_of_getElem? (i := 49) rfl)))) (hw _ (List.mem_of_getElem? (i := 49) rfl)) (hw _ (List.mem_of_getElem? (i := 48) rfl)) (hw _ (List.mem_of_getElem? (i := 50) rfl)) (hw _ (List.mem_of_getElem? (i := 3) rfl)) (by decide) IE268 (own_met9 l Z a0 hw T268.heap a195 (2 : Int32) B202 K202 _ _ (3 : Int32) (16 : Int32) _ 2 (p0 ^^^ (-1 : Int32)) ⟨IE268, IS268, IB268, IAB268, f277, IEB268, IEK268, IO268, IaB268, IaK268, IBK268⟩ (by decide) (by decide) rfl ) (by decide) (W := 0) (by decide) e286 (by rw [hml]; rfl) own_pd_3 (argsL := [(.int (2 : Int32))]) rfl (S := []) rfl (Nat.le_of_eq rfl) (hb hby at_214) (pc' := 217) rfl (by decide) (by decide) (fun T288 v288 L288 X288 hQ288 => ?_)
      obtain ⟨rfl, e288, rfl⟩ := hQ288
      have N289 := Fr.app N287 (Fr.nil n0)
      refine OwnK.iconst X288 hx (hb hby at_217) (pc' := 218) rfl (v := (2 : Int32)) (by decide) ?_
      refine OwnK.iload X288 hx (hb hby at_218) (pc' := 220) rfl (v := (1 : Int32)) rfl ?_
      refine OwnK.iloadN X288 hx (hb hby at_220) (pc' := 221) rfl (v := p2) rfl ?_
      refine OwnK.aload X288 hx (hb hby at_221) (pc' := 223) rfl (v := (.ref a172)) rfl rfl ?_
      refine OwnK.callS_ X288 hx hZ hown (y := (⟨"com/example/strict_reach/strictreach/IntListSetPinLaw", "expect", "(III[I)I"⟩ : MethodName)) (hw _ (List.mem_of_getElem? (i := 51) rfl)) (hw _ (List.mem_of_getElem? (i := 52) rfl)) (hw _ (List.mem_of_getElem? (i := 53) rfl)) (hw _ (List.mem_of_getElem? (i := 54) rfl)) (by decide) (own_met10 l Z a0 hw T268.heap (2 : Int32) (1 : Int32) p2 a172 _ _ (p0 ^^^ (-1 : Int32)) 2 f270 (by decide) (by decide) rfl ) (by decide) (W := 1) (by decide) e288 (by rw [hml]; rfl) own_pd_7 (argsL := [(.int (2 : Int32)), (.int (1 : Int32)), (.int p2), (.ref a172)]) rfl (S := [(.int (p0 ^^^ (-1 : Int32)))]) rfl (Nat.le_of_eq rfl) (hb hby at_223) (pc' := 226) rfl (by decide) (by decide) (fun T290 v290 L290 X290 hQ290 => ?_)
      obtain ⟨hv290, e290, rfl⟩ := hQ290
      obtain rfl : v290 = some (.int (p0 ^^^ (-1 : Int32))) := hv290.trans (by first | rw [if_pos (by decide)] | rw [if_neg (by decide)])
      have N291 := Fr.app N289 (Fr.nil n0)
      refine OwnK.icmp_ne X290 hx (hb hby at_226) (by decide) (pcT := 233) (by decide) (pc' := 229) rfl (fun (hc226 : ¬ (p0 ^^^ (-1 : Int32)).toInt = (p0 ^^^ (-1 : Int32)).toInt) => absurd rfl hc226) (fun hc226 => ?_)
      refine OwnK.iconst X290 hx (hb hby at_229) (pc' := 230) rfl (v := (1 : Int32)) (by decide) ?_
      refine OwnK.goto_ X290 hx (hb hby at_230) (by decide) (pc' := 234) (by decide) ?_
      refine OwnK.istore X290 hx (hb hby at_234) (pc' := 236) rfl (Ls' := #[.val (.int p0), .val (.int p1), .val (.int p2), .val (.int p3), .val (.int p4), .val (.int (3 : Int32)), .val (.ref a172), .val (.ref a195), .val (.int (1 : Int32)), .val (.int (1 : Int32))]) rfl ?_
      refine OwnK.iload X290 hx (hb hby at_236) (pc' := 238) rfl (v := (3 : Int32)) rfl ?_
      refine OwnK.iconst X290 hx (hb hby at_238) (pc' := 239) rfl (v := (3 : Int32)) (by decide) ?_
      refine OwnK.icmp_le X290 hx (hb hby at_239) (by decide) (pcT := 272) (by decide) (pc' := 242) rfl (fun hc239 => ?_) (fun (hc239 : 3 < 3) => absurd hc239 (by decide))
      refine OwnK.iload X290 hx (hb hby at_272) (pc' := 274) rfl (v := (1 : Int32)) rfl ?_
      refine OwnK.retN_ X290 hx hret (by simp) hlk (hb hby at_274) (by decide) (by decide) ?_
      exact ⟨rfl, N291⟩
    · refine OwnK.aload X233 hx (hb hby at_109) (pc' := 111) rfl (v := (.ref a195)) rfl rfl ?_
      refine OwnK.iload X233 hx (hb hby at_111) (pc' := 113) rfl (v := (2 : Int32)) rfl ?_
      refine OwnK.iloadN X233 hx (hb hby at_113) (pc' := 114) rfl (v := p2) rfl ?_
      refine OwnK.callV_ X233 hx hZ hown (y := (⟨"com/example/strict_reach/strictreach/IntList", "set", "(II)V"⟩ : MethodName)) (z := (⟨"com/example/strict_reach/strictreach/IntList", "set", "(II)V"⟩ : MethodName)) (a := a195) (hw _ (List.mem_of_getElem? (i := 28) rfl)) (hw _ (List.mem_of_getElem? (i := 29) rfl)) (notFace_of_selects (args := #[]) (mvT hZ (hw _ (List.mem_of_getElem? (i := 31) rfl)))) (hw _ (List.mem_of_getElem? (i := 31) rfl)) (hw _ (List.mem_of_getElem? (i := 30) rfl)) (hw _ (List.mem_of_getElem? (i := 32) rfl)) (hw _ (List.mem_of_getElem? (i := 3) rfl)) (by decide) IE233 (own_met5 l Z a0 hw T233.heap n0 z241 a195 (2 : Int32) p2 B202 K202 _ _ (3 : Int32) (16 : Int32) _ 2  ge_a195 ⟨IE233, IS233, IB233, IAB233, f242, IEB233, IEK233, IO233, IaB233, IaK233, IBK233⟩ ge_K202 (by decide) (by decide) (Nat.le_of_ble_eq_true rfl) ) (by decide) (W := 0) (by decide) rfl (by rw [hml]; rfl) own_pd_6 (argsL := [(.int (2 : Int32)), (.int p2)]) rfl (S := []) rfl (Nat.le_of_eq rfl) (hb hby at_114) (pc' := 117) rfl (by decide) (by decide) (fun T292 v292 L292 X292 hQ292 => ?_)
      obtain ⟨rfl, N292q, Kp292, hL292⟩ := hQ292
      have N293 := Fr.app N234 N292q
      have f294 := f235.keep Kp292 (ninS q196 (ninS q206 nin0))
      have f295 := f236.keep Kp292
      have f296 := IE233.keep Kp292
      have f297 := IAB233.keep Kp292 (ninS (Ne.symm IaB233) (ninS IBK233 nin0))
      have f298 := IEB233.keep Kp292
      have f299 := IEK233.keep Kp292
      have z300 : n0 ≤ T292.heap.size := Nat.le_trans z241 Kp292.1
      obtain ⟨IE292, IS292, IB292, IAB292, IAK292, IEB292, IEK292, IO292, IaB292, IaK292, IBK292⟩ := hL292
      have f301 : Arv Z T292.heap K202 _ .int (16 : Int32) [(.int p0), (.int p1), (.int p2), (.int (0 : Int32)), (.int (0 : Int32)), (.int (0 : Int32)), (.int (0 : Int32)), (.int (0 : Int32)), (.int (0 : Int32)), (.int (0 : Int32)), (.int (0 : Int32)), (.int (0 : Int32)), (.int (0 : Int32)), (.int (0 : Int32)), (.int (0 : Int32)), (.int (0 : Int32))] (.int (0 : Int32)) := IAK292
      refine OwnK.aload X292 hx (hb hby at_117) (pc' := 119) rfl (v := (.ref a195)) rfl rfl ?_
      refine OwnK.callV_ X292 hx hZ hown (y := (⟨"com/example/strict_reach/strictreach/IntList", "size", "()I"⟩ : MethodName)) (z := (⟨"com/example/strict_reach/strictreach/IntList", "size", "()I"⟩ : MethodName)) (a := a195) (hw _ (List.mem_of_getElem? (i := 41) rfl)) (hw _ (List.mem_of_getElem? (i := 42) rfl)) (notFace_of_selects (args := #[]) (mvT hZ (hw _ (List.mem_of_getElem? (i := 44) rfl)))) (hw _ (List.mem_of_getElem? (i := 44) rfl)) (hw _ (List.mem_of_getElem? (i := 43) rfl)) (hw _ (List.mem_of_getElem? (i := 45) rfl)) (hw _ (List.mem_of_getElem? (i := 3) rfl)) (by decide) IE292 (own_met8 l Z a0 hw T292.heap a195 B202 K202 _ _ (3 : Int32) (16 : Int32) _ ⟨IE292, IS292, IB292, IAB292, f301, IEB292, IEK292, IO292, IaB292, IaK292, IBK292⟩ ) (by decide) (W := 0) (by decide) rfl (by rw [hml]; rfl) own_pd_0 (argsL := []) rfl (S := []) rfl (Nat.le_of_eq rfl) (hb hby at_119) (pc' := 122) rfl (by decide) (by decide) (fun T302 v302 L302 X302 hQ302 => ?_)
      obtain ⟨rfl, e302, rfl⟩ := hQ302
      have N303 := Fr.app N293 (Fr.nil n0)
      refine OwnK.iload X302 hx (hb hby at_122) (pc' := 124) rfl (v := (3 : Int32)) rfl ?_
      refine OwnK.icmp_ne X302 hx (hb hby at_124) (by decide) (pcT := 131) (by decide) (pc' := 127) rfl (fun (hc124 : ¬ 3 = 3) => absurd hc124 (by decide)) (fun hc124 => ?_)
      refine OwnK.iconst X302 hx (hb hby at_127) (pc' := 128) rfl (v := (1 : Int32)) (by decide) ?_
      refine OwnK.goto_ X302 hx (hb hby at_128) (by decide) (pc' := 132) (by decide) ?_
      refine OwnK.istore X302 hx (hb hby at_132) (pc' := 134) rfl (Ls' := #[.val (.int p0), .val (.int p1), .val (.int p2), .val (.int p3), .val (.int p4), .val (.int (3 : Int32)), .val (.ref a172), .val (.ref a195), .val (.int (2 : Int32)), .val (.int (1 : Int32))]) rfl ?_
      refine OwnK.iload X302 hx (hb hby at_134) (pc' := 136) rfl (v := (1 : Int32)) rfl ?_
      refine OwnK.if_eq X302 hx (hb hby at_136) (by decide) (pcT := 161) (by decide) (pc' := 139) rfl (fun (hc136 : 1 = 0) => absurd hc136 (by decide)) (fun hc136 => ?_)
      refine OwnK.aload X302 hx (hb hby at_139) (pc' := 141) rfl (v := (.ref a195)) rfl rfl ?_
      refine OwnK.iconst X302 hx (hb hby at_141) (pc' := 142) rfl (v := (0 : Int32)) (by decide) ?_
      refine OwnK.callV_ X302 hx hZ hown (y := (⟨"com/example/strict_reach/strictreach/IntList", "get", "(I)I"⟩ : MethodName)) (z := (⟨"com/example/strict_reach/strictreach/IntList", "get", "(I)I"⟩ : MethodName)) (a := a195) (hw _ (List.mem_of_getElem? (i := 46) rfl)) (hw _ (List.mem_of_getElem? (i := 47) rfl)) (notFace_of_selects (args := #[]) (mvT hZ (hw _ (List.mem_of_getElem? (i := 49) rfl)))) (hw _ (List.mem_of_getElem? (i := 49) rfl)) (hw _ (List.mem_of_getElem? (i := 48) rfl)) (hw _ (List.mem_of_getElem? (i := 50) rfl)) (hw _ (List.mem_of_getElem? (i := 3) rfl)) (by decide) IE292 (own_met9 l Z a0 hw T292.heap a195 (0 : Int32) B202 K202 _ _ (3 : Int32) (16 : Int32) _ 0 p0 ⟨IE292, IS292, IB292, IAB292, f301, IEB292, IEK292, IO292, IaB292, IaK292, IBK292⟩ (by decide) (by decide) rfl ) (by decide) (W := 0) (by decide) e302 (by rw [hml]; rfl) own_pd_3 (argsL := [(.int (0 : Int32))]) rfl (S := []) rfl (Nat.le_of_eq rfl) (hb hby at_142) (pc' := 145) rfl (by decide) (by decide) (fun T304 v304 L304 X304 hQ304 => ?_)
      obtain ⟨rfl, e304, rfl⟩ := hQ304
      have N305 := Fr.app N303 (Fr.nil n0)
      refine OwnK.iconst X304 hx (hb hby at_145) (pc' := 146) rfl (v := (0 : Int32)) (by decide) ?_
      refine OwnK.iload X304 hx (hb hby at_146) (pc' := 148) rfl (v := (2 : Int32)) rfl ?_
      refine OwnK.iloadN X304 hx (hb hby at_148) (pc' := 149) rfl (v := p2) rfl ?_
      refine OwnK.aload X304 hx (hb hby at_149) (pc' := 151) rfl (v := (.ref a172)) rfl rfl ?_
      refine OwnK.callS_ X304 hx hZ hown (y := (⟨"com/example/strict_reach/strictreach/IntListSetPinLaw", "expect", "(III[I)I"⟩ : MethodName)) (hw _ (List.mem_of_getElem? (i := 51) rfl)) (hw _ (List.mem_of_getElem? (i := 52) rfl)) (hw _ (List.mem_of_getElem? (i := 53) rfl)) (hw _ (List.mem_of_getElem? (i := 54) rfl)) (by decide) (own_met10 l Z a0 hw T292.heap (0 : Int32) (2 : Int32) p2 a172 _ _ p0 0 f294 (by decide) (by decide) rfl ) (by decide) (W := 1) (by decide) e304 (by rw [hml]; rfl) own_pd_7 (argsL := [(.int (0 : Int32)), (.int (2 : Int32)), (.int p2), (.ref a172)]) rfl (S := [(.int p0)]) rfl (Nat.le_of_eq rfl) (hb hby at_151) (pc' := 154) rfl (by decide) (by decide) (fun T306 v306 L306 X306 hQ306 => ?_)
      obtain ⟨hv306, e306, rfl⟩ := hQ306
      obtain rfl : v306 = some (.int p0) := hv306.trans (by first | rw [if_pos (by decide)] | rw [if_neg (by decide)])
      have N307 := Fr.app N305 (Fr.nil n0)
      refine OwnK.icmp_ne X306 hx (hb hby at_154) (by decide) (pcT := 161) (by decide) (pc' := 157) rfl (fun (hc154 : ¬ p0.toInt = p0.toInt) => absurd rfl hc154) (fun hc154 => ?_)
      refine OwnK.iconst X306 hx (hb hby at_157) (pc' := 158) rfl (v := (1 : Int32)) (by decide) ?_
      refine OwnK.goto_ X306 hx (hb hby at_158) (by decide) (pc' := 162) (by decide) ?_
      refine OwnK.istore X306 hx (hb hby at_162) (pc' := 164) rfl (Ls' := #[.val (.int p0), .val (.int p1), .val (.int p2), .val (.int p3), .val (.int p4), .val (.int (3 : Int32)), .val (.ref a172), .val (.ref a195), .val (.int (2 : Int32)), .val (.int (1 : Int32))]) rfl ?_
      refine OwnK.iload X306 hx (hb hby at_164) (pc' := 166) rfl (v := (3 : Int32)) rfl ?_
      refine OwnK.iconst X306 hx (hb hby at_166) (pc' := 167) rfl (v := (1 : Int32)) (by decide) ?_
      refine OwnK.icmp_le X306 hx (hb hby at_167) (by decide) (pcT := 200) (by decide) (pc' := 170) rfl (fun (hc167 : 3 ≤ 1) => absurd hc167 (by decide)) (fun hc167 => ?_)
      refine OwnK.iload X306 hx (hb hby at_170) (pc' := 172) rfl (v := (1 : Int32)) rfl ?_
      refine OwnK.if_eq X306 hx (hb hby at_172) (by decide) (pcT := 197) (by decide) (pc' := 175) rfl (fun (hc172 : 1 = 0) => absurd hc172 (by decide)) (fun hc172 => ?_)
      refine OwnK.aload X306 hx (hb hby at_175) (pc' := 177) rfl (v := (.ref a195)) rfl rfl ?_
      refine OwnK.iconst X306 hx (hb hby at_177) (pc' := 178) rfl (v := (1 : Int32)) (by decide) ?_
      refine OwnK.callV_ X306 hx hZ hown (y := (⟨"com/example/strict_reach/strictreach/IntList", "get", "(I)I"⟩ : MethodName)) (z := (⟨"com/example/strict_reach/strictreach/IntList", "get", "(I)I"⟩ : MethodName)) (a := a195) (hw _ (List.mem_of_getElem? (i := 46) rfl)) (hw _ (List.mem_of_getElem? (i := 47) rfl)) (notFace_of_selects (args := #[]) (mvT hZ (hw _ (List.mem_of_getElem? (i := 49) rfl)))) (hw _ (List.mem_of_getElem? (i := 49) rfl)) (hw _ (List.mem_of_getElem? (i := 48) rfl)) (hw _ (List.mem_of_getElem? (i := 50) rfl)) (hw _ (List.mem_of_getElem? (i := 3) rfl)) (by decide) IE292 (own_met9 l Z a0 hw T292.heap a195 (1 : Int32) B202 K202 _ _ (3 : Int32) (16 : Int32) _ 1 p1 ⟨IE292, IS292, IB292, IAB292, f301, IEB292, IEK292, IO292, IaB292, IaK292, IBK292⟩ (by decide) (by decide) rfl ) (by decide) (W := 0) (by decide) e306 (by rw [hml]; rfl) own_pd_3 (argsL := [(.int (1 : Int32))]) rfl (S := []) rfl (Nat.le_of_eq rfl) (hb hby at_178) (pc' := 181) rfl (by decide) (by decide) (fun T308 v308 L308 X308 hQ308 => ?_)
      obtain ⟨rfl, e308, rfl⟩ := hQ308
      have N309 := Fr.app N307 (Fr.nil n0)
      refine OwnK.iconst X308 hx (hb hby at_181) (pc' := 182) rfl (v := (1 : Int32)) (by decide) ?_
      refine OwnK.iload X308 hx (hb hby at_182) (pc' := 184) rfl (v := (2 : Int32)) rfl ?_
      refine OwnK.iloadN X308 hx (hb hby at_184) (pc' := 185) rfl (v := p2) rfl ?_
      refine OwnK.aload X308 hx (hb hby at_185) (pc' := 187) rfl (v := (.ref a172)) rfl rfl ?_
      refine OwnK.callS_ X308 hx hZ hown (y := (⟨"com/example/strict_reach/strictreach/IntListSetPinLaw", "expect", "(III[I)I"⟩ : MethodName)) (hw _ (List.mem_of_getElem? (i := 51) rfl)) (hw _ (List.mem_of_getElem? (i := 52) rfl)) (hw _ (List.mem_of_getElem? (i := 53) rfl)) (hw _ (List.mem_of_getElem? (i := 54) rfl)) (by decide) (own_met10 l Z a0 hw T292.heap (1 : Int32) (2 : Int32) p2 a172 _ _ p1 1 f294 (by decide) (by decide) rfl ) (by decide) (W := 1) (by decide) e308 (by rw [hml]; rfl) own_pd_7 (argsL := [(.int (1 : Int32)), (.int (2 : Int32)), (.int p2), (.ref a172)]) rfl (S := [(.int p1)]) rfl (Nat.le_of_eq rfl) (hb hby at_187) (pc' := 190) rfl (by decide) (by decide) (fun T310 v310 L310 X310 hQ310 => ?_)
      obtain ⟨hv310, e310, rfl⟩ := hQ310
      obtain rfl : v310 = some (.int p1) := hv310.trans (by first | rw [if_pos (by decide)] | rw [if_neg (by decide)])
      have N311 := Fr.app N309 (Fr.nil n0)
      refine OwnK.icmp_ne X310 hx (hb hby at_190) (by decide) (pcT := 197) (by decide) (pc' := 193) rfl (fun (hc190 : ¬ p1.toInt = p1.toInt) => absurd rfl hc190) (fun hc190 => ?_)
      refine OwnK.iconst X310 hx (hb hby at_193) (pc' := 194) rfl (v := (1 : Int32)) (by decide) ?_
      refine OwnK.goto_ X310 hx (hb hby at_194) (by decide) (pc' := 198) (by decide) ?_
      refine OwnK.istore X310 hx (hb hby at_198) (pc' := 200) rfl (Ls' := #[.val (.int p0), .val (.int p1), .val (.int p2), .val (.int p3), .val (.int p4), .val (.int (3 : Int32)), .val (.ref a172), .val (.ref a195), .val (.int (2 : Int32)), .val (.int (1 : Int32))]) rfl ?_
      refine OwnK.iload X310 hx (hb hby at_200) (pc' := 202) rfl (v := (3 : Int32)) rfl ?_
      refine OwnK.iconst X310 hx (hb hby at_202) (pc' := 203) rfl (v := (2 : Int32)) (by decide) ?_
      refine OwnK.icmp_le X310 hx (hb hby at_203) (by decide) (pcT := 236) (by decide) (pc' := 206) rfl (fun (hc203 : 3 ≤ 2) => absurd hc203 (by decide)) (fun hc203 => ?_)
      refine OwnK.iload X310 hx (hb hby at_206) (pc' := 208) rfl (v := (1 : Int32)) rfl ?_
      refine OwnK.if_eq X310 hx (hb hby at_208) (by decide) (pcT := 233) (by decide) (pc' := 211) rfl (fun (hc208 : 1 = 0) => absurd hc208 (by decide)) (fun hc208 => ?_)
      refine OwnK.aload X310 hx (hb hby at_211) (pc' := 213) rfl (v := (.ref a195)) rfl rfl ?_
      refine OwnK.iconst X310 hx (hb hby at_213) (pc' := 214) rfl (v := (2 : Int32)) (by decide) ?_
      refine OwnK.callV_ X310 hx hZ hown (y := (⟨"com/example/strict_reach/strictreach/IntList", "get", "(I)I"⟩ : MethodName)) (z := (⟨"com/example/strict_reach/strictreach/IntList", "get", "(I)I"⟩ : MethodName)) (a := a195) (hw _ (List.mem_of_getElem? (i := 46) rfl)) (hw _ (List.mem_of_getElem? (i := 47) rfl)) (notFace_of_selects (args := #[]) (mvT hZ (hw _ (List.mem_of_getElem? (i := 49) rfl)))) (hw _ (List.mem_of_getElem? (i := 49) rfl)) (hw _ (List.mem_of_getElem? (i := 48) rfl)) (hw _ (List.mem_of_getElem? (i := 50) rfl)) (hw _ (List.mem_of_getElem? (i := 3) rfl)) (by decide) IE292 (own_met9 l Z a0 hw T292.heap a195 (2 : Int32) B202 K202 _ _ (3 : Int32) (16 : Int32) _ 2 p2 ⟨IE292, IS292, IB292, IAB292, f301, IEB292, IEK292, IO292, IaB292, IaK292, IBK292⟩ (by decide) (by decide) rfl ) (by decide) (W := 0) (by decide) e310 (by rw [hml]; rfl) own_pd_3 (argsL := [(.int (2 : Int32))]) rfl (S := []) rfl (Nat.le_of_eq rfl) (hb hby at_214) (pc' := 217) rfl (by decide) (by decide) (fun T312 v312 L312 X312 hQ312 => ?_)
      obtain ⟨rfl, e312, rfl⟩ := hQ312
      have N313 := Fr.app N311 (Fr.nil n0)
      refine OwnK.iconst X312 hx (hb hby at_217) (pc' := 218) rfl (v := (2 : Int32)) (by decide) ?_
      refine OwnK.iload X312 hx (hb hby at_218) (pc' := 220) rfl (v := (2 : Int32)) rfl ?_
      refine OwnK.iloadN X312 hx (hb hby at_220) (pc' := 221) rfl (v := p2) rfl ?_
      refine OwnK.aload X312 hx (hb hby at_221) (pc' := 223) rfl (v := (.ref a172)) rfl rfl ?_
      refine OwnK.callS_ X312 hx hZ hown (y := (⟨"com/example/strict_reach/strictreach/IntListSetPinLaw", "expect", "(III[I)I"⟩ : MethodName)) (hw _ (List.mem_of_getElem? (i := 51) rfl)) (hw _ (List.mem_of_getElem? (i := 52) rfl)) (hw _ (List.mem_of_getElem? (i := 53) rfl)) (hw _ (List.mem_of_getElem? (i := 54) rfl)) (by decide) (own_met10 l Z a0 hw T292.heap (2 : Int32) (2 : Int32) p2 a172 _ _ (p0 ^^^ (-1 : Int32)) 2 f294 (by decide) (by decide) rfl ) (by decide) (W := 1) (by decide) e312 (by rw [hml]; rfl) own_pd_7 (argsL := [(.int (2 : Int32)), (.int (2 : Int32)), (.int p2), (.ref a172)]) rfl (S := [(.int p2)]) rfl (Nat.le_of_eq rfl) (hb hby at_223) (pc' := 226) rfl (by decide) (by decide) (fun T314 v314 L314 X314 hQ314 => ?_)
      obtain ⟨hv314, e314, rfl⟩ := hQ314
      obtain rfl : v314 = some (.int p2) := hv314.trans (by first | rw [if_pos (by decide)] | rw [if_neg (by decide)])
      have N315 := Fr.app N313 (Fr.nil n0)
      refine OwnK.icmp_ne X314 hx (hb hby at_226) (by decide) (pcT := 233) (by decide) (pc' := 229) rfl (fun (hc226 : ¬ p2.toInt = p2.toInt) => absurd rfl hc226) (fun hc226 => ?_)
      refine OwnK.iconst X314 hx (hb hby at_229) (pc' := 230) rfl (v := (1 : Int32)) (by decide) ?_
      refine OwnK.goto_ X314 hx (hb hby at_230) (by decide) (pc' := 234) (by decide) ?_
      refine OwnK.istore X314 hx (hb hby at_234) (pc' := 236) rfl (Ls' := #[.val (.int p0), .val (.int p1), .val (.int p2), .val (.int p3), .val (.int p4), .val (.int (3 : Int32)), .val (.ref a172), .val (.ref a195), .val (.int (2 : Int32)), .val (.int (1 : Int32))]) rfl ?_
      refine OwnK.iload X314 hx (hb hby at_236) (pc' := 238) rfl (v := (3 : Int32)) rfl ?_
      refine OwnK.iconst X314 hx (hb hby at_238) (pc' := 239) rfl (v := (3 : Int32)) (by decide) ?_
      refine OwnK.icmp_le X314 hx (hb hby at_239) (by decide) (pcT := 272) (by decide) (pc' := 242) rfl (fun hc239 => ?_) (fun (hc239 : 3 < 3) => absurd hc239 (by decide))
      refine OwnK.iload X314 hx (hb hby at_272) (pc' := 274) rfl (v := (1 : Int32)) rfl ?_
      refine OwnK.retN_ X314 hx hret (by simp) hlk (hb hby at_274) (by decide) (by decide) ?_
      exact ⟨rfl, N315⟩
  · refine OwnK.iconst X0 hx (hb hby at_8) (pc' := 9) rfl (v := (4 : Int32)) (by decide) ?_
    refine OwnK.newP_ X0 hx hZ (hw _ (List.mem_of_getElem? (i := 0) rfl)) e0 (hb hby at_9) (pc' := 11) rfl (n := (4 : Int32)) (by decide) (cap := 4) (by decide) (by decide) (by decide) (by decide) (ad := "[I") (by decide) (fun T316 h316 a316 k316 X316 e316 g316 E316 V316 Q316 => ?_)
    have ge_a316 : n0 ≤ a316 := Nat.le_trans Z0 (Nat.le_of_eq g316.symm)
    have z317 : n0 ≤ h316.size := Nat.le_trans Z0 E316.1
    have f318 : Arv Z h316 a316 k316 .int (4 : Int32) [(.int (0 : Int32)), (.int (0 : Int32)), (.int (0 : Int32)), (.int (0 : Int32))] (.int (0 : Int32)) := V316.pad (pad_rep [] (.int (0 : Int32)) 4)
    refine OwnK.astore X316 hx (hb hby at_11) (pc' := 13) rfl rfl (Ls' := #[.val (.int p0), .val (.int p1), .val (.int p2), .val (.int p3), .val (.int p4), .val (.int (4 : Int32)), .val (.ref a316), .unset, .unset, .unset]) rfl ?_
    refine OwnK.aload X316 hx (hb hby at_13) (pc' := 15) rfl (v := (.ref a316)) rfl rfl ?_
    refine OwnK.iconst X316 hx (hb hby at_15) (pc' := 16) rfl (v := (0 : Int32)) (by decide) ?_
    refine OwnK.iloadN X316 hx (hb hby at_16) (pc' := 17) rfl (v := p0) rfl ?_
    refine OwnK.iastore X316 hx hZ e316 f318 (i := 0) (by decide) (by first | decide | omega) (Nat.le_of_ble_eq_true rfl) (hb hby at_17) (pc' := 18) rfl (fun T319 h319 X319 e319 W319 V319 => ?_)
    have f320 := Q316.wr W319
    have f321 : Arv Z h319 a316 _ .int (4 : Int32) [(.int p0), (.int (0 : Int32)), (.int (0 : Int32)), (.int (0 : Int32))] (.int (0 : Int32)) := V319
    have N322 := Fr.snoc X319 N0 ge_a316
    have z323 : n0 ≤ h319.size := Nat.le_trans z317 (Keep.of_wr W319).1
    refine OwnK.aload X319 hx (hb hby at_18) (pc' := 20) rfl (v := (.ref a316)) rfl rfl ?_
    refine OwnK.iconst X319 hx (hb hby at_20) (pc' := 21) rfl (v := (1 : Int32)) (by decide) ?_
    refine OwnK.iloadN X319 hx (hb hby at_21) (pc' := 22) rfl (v := p1) rfl ?_
    refine OwnK.iastore X319 hx hZ e319 f321 (i := 1) (by decide) (by first | decide | omega) (Nat.le_of_ble_eq_true rfl) (hb hby at_22) (pc' := 23) rfl (fun T324 h324 X324 e324 W324 V324 => ?_)
    have f325 := f320.wr W324
    have f326 : Arv Z h324 a316 _ .int (4 : Int32) [(.int p0), (.int p1), (.int (0 : Int32)), (.int (0 : Int32))] (.int (0 : Int32)) := V324
    have N327 := Fr.snoc X324 N322 ge_a316
    have z328 : n0 ≤ h324.size := Nat.le_trans z323 (Keep.of_wr W324).1
    refine OwnK.aload X324 hx (hb hby at_23) (pc' := 25) rfl (v := (.ref a316)) rfl rfl ?_
    refine OwnK.iconst X324 hx (hb hby at_25) (pc' := 26) rfl (v := (2 : Int32)) (by decide) ?_
    refine OwnK.iloadN X324 hx (hb hby at_26) (pc' := 27) rfl (v := p0) rfl ?_
    refine OwnK.iconst X324 hx (hb hby at_27) (pc' := 28) rfl (v := (-1 : Int32)) (by decide) ?_
    refine OwnK.ixor X324 hx (hb hby at_28) (pc' := 29) rfl ?_
    refine OwnK.iastore X324 hx hZ e324 f326 (i := 2) (by decide) (by first | decide | omega) (Nat.le_of_ble_eq_true rfl) (hb hby at_29) (pc' := 30) rfl (fun T329 h329 X329 e329 W329 V329 => ?_)
    have f330 := f325.wr W329
    have f331 : Arv Z h329 a316 _ .int (4 : Int32) [(.int p0), (.int p1), (.int (p0 ^^^ (-1 : Int32))), (.int (0 : Int32))] (.int (0 : Int32)) := V329
    have N332 := Fr.snoc X329 N327 ge_a316
    have z333 : n0 ≤ h329.size := Nat.le_trans z328 (Keep.of_wr W329).1
    refine OwnK.aload X329 hx (hb hby at_30) (pc' := 32) rfl (v := (.ref a316)) rfl rfl ?_
    refine OwnK.iconst X329 hx (hb hby at_32) (pc' := 33) rfl (v := (3 : Int32)) (by decide) ?_
    refine OwnK.iloadN X329 hx (hb hby at_33) (pc' := 34) rfl (v := p1) rfl ?_
    refine OwnK.iconst X329 hx (hb hby at_34) (pc' := 35) rfl (v := (-1 : Int32)) (by decide) ?_
    refine OwnK.ixor X329 hx (hb hby at_35) (pc' := 36) rfl ?_
    refine OwnK.iastore X329 hx hZ e329 f331 (i := 3) (by decide) (by first | decide | omega) (Nat.le_of_ble_eq_true rfl) (hb hby at_36) (pc' := 37) rfl (fun T334 h334 X334 e334 W334 V334 => ?_)
    have f335 := f330.wr W334
    have f336 : Arv Z h334 a316 _ .int (4 : Int32) [(.int p0), (.int p1), (.int (p0 ^^^ (-1 : Int32))), (.int (p1 ^^^ (-1 : Int32)))] (.int (0 : Int32)) := V334
    have N337 := Fr.snoc X334 N332 ge_a316
    have z338 : n0 ≤ h334.size := Nat.le_trans z333 (Keep.of_wr W334).1
    refine OwnK.new_ X334 hx hZ hown (hw _ (List.mem_of_getElem? (i := 1) rfl)) (hw _ (List.mem_of_getElem? (i := 2) rfl)) (hw _ (List.mem_of_getElem? (i := 3) rfl)) e334 (hb hby at_37) (pc' := 40) rfl (by decide) (by decide) (fun T339 h339 a339 X339 e339 g339 E339 A339 D339 => ?_)
    have q340 : a316 ≠ a339 := Nat.ne_of_lt (Nat.lt_of_lt_of_le f336.lt (Nat.le_of_eq g339.symm))
    have ge_a339 : n0 ≤ a339 := Nat.le_trans z338 (Nat.le_of_eq g339.symm)
    have z341 : n0 ≤ h339.size := Nat.le_trans z338 E339.1
    have f342 := f336.ext E339
    have f343 := f335.ext E339
    have f344 : Fld Z h339 a339 "com/example/strict_reach/strictreach/IntList" "blocks" "[[I" .null := D339 (Or.inl (hw _ (List.mem_of_getElem? (i := 14) rfl))) (ty := (.array (.array .int))) (by decide)
    have f345 : Fld Z h339 a339 "com/example/strict_reach/strictreach/IntList" "size" "I" (.int (0 : Int32)) := D339 (Or.inl (hw _ (List.mem_of_getElem? (i := 25) rfl))) (ty := .int) (by decide)
    refine OwnK.dup X339 hx (hb hby at_40) (pc' := 41) rfl rfl ?_
    refine OwnK.callI_ X339 hx hZ hown (y := (⟨"com/example/strict_reach/strictreach/IntList", "<init>", "()V"⟩ : MethodName)) (a := a339) rfl (hw _ (List.mem_of_getElem? (i := 4) rfl)) (hw _ (List.mem_of_getElem? (i := 5) rfl)) (hw _ (List.mem_of_getElem? (i := 3) rfl)) (hw _ (List.mem_of_getElem? (i := 6) rfl)) rfl (by decide) (own_met1 l Z a0 hw h339 n0 z341 a339   ge_a339 f344 f345 A339 ) (by decide) (W := 1) (by decide) e339 (by rw [hml]; rfl) own_pd_1 (argsL := []) rfl (S := [(.ref a339)]) rfl (Nat.le_of_eq rfl) (hb hby at_41) (pc' := 44) rfl (by decide) (by decide) (fun T346 v346 L346 X346 hQ346 => ?_)
    obtain ⟨B346, K346, kB346, kK346, rfl, N346q, Kp346, hB346, hK346, hL346⟩ := hQ346
    have N347 := Fr.app N337 N346q
    have q348 : a316 ≠ B346 := Nat.ne_of_lt (Nat.lt_of_lt_of_le f342.lt hB346)
    have q349 : a339 ≠ B346 := Nat.ne_of_lt (Nat.lt_of_lt_of_le A339.lt hB346)
    have ge_B346 : n0 ≤ B346 := Nat.le_trans z341 hB346
    have q350 : a316 ≠ K346 := Nat.ne_of_lt (Nat.lt_of_lt_of_le f342.lt hK346)
    have q351 : a339 ≠ K346 := Nat.ne_of_lt (Nat.lt_of_lt_of_le A339.lt hK346)
    have ge_K346 : n0 ≤ K346 := Nat.le_trans z341 hK346
    have f352 := f342.keep Kp346 (ninS q340 nin0)
    have f353 := f343.keep Kp346
    have f354 := A339.keep Kp346
    have z355 : n0 ≤ T346.heap.size := Nat.le_trans z341 Kp346.1
    obtain ⟨IE346, IS346, IB346, IAB346, IAK346, IEB346, IEK346, IO346, IaB346, IaK346, IBK346⟩ := hL346
    have f356 : Arv Z T346.heap K346 _ .int (16 : Int32) [(.int (0 : Int32)), (.int (0 : Int32)), (.int (0 : Int32)), (.int (0 : Int32)), (.int (0 : Int32)), (.int (0 : Int32)), (.int (0 : Int32)), (.int (0 : Int32)), (.int (0 : Int32)), (.int (0 : Int32)), (.int (0 : Int32)), (.int (0 : Int32)), (.int (0 : Int32)), (.int (0 : Int32)), (.int (0 : Int32)), (.int (0 : Int32))] (.int (0 : Int32)) := IAK346
    refine OwnK.astore X346 hx (hb hby at_44) (pc' := 46) rfl rfl (Ls' := #[.val (.int p0), .val (.int p1), .val (.int p2), .val (.int p3), .val (.int p4), .val (.int (4 : Int32)), .val (.ref a316), .val (.ref a339), .unset, .unset]) rfl ?_
    refine OwnK.aload X346 hx (hb hby at_46) (pc' := 48) rfl (v := (.ref a339)) rfl rfl ?_
    refine OwnK.aload X346 hx (hb hby at_48) (pc' := 50) rfl (v := (.ref a316)) rfl rfl ?_
    refine OwnK.iconst X346 hx (hb hby at_50) (pc' := 51) rfl (v := (0 : Int32)) (by decide) ?_
    refine OwnK.iaload X346 hx hZ rfl f352 (by decide) (by first | decide | omega) (v := (.int p0)) rfl (hb hby at_51) (pc' := 52) rfl ?_
    refine OwnK.callV_ X346 hx hZ hown (y := (⟨"com/example/strict_reach/strictreach/IntList", "add", "(I)V"⟩ : MethodName)) (z := (⟨"com/example/strict_reach/strictreach/IntList", "add", "(I)V"⟩ : MethodName)) (a := a339) (hw _ (List.mem_of_getElem? (i := 15) rfl)) (hw _ (List.mem_of_getElem? (i := 16) rfl)) (notFace_of_selects (args := #[]) (mvT hZ (hw _ (List.mem_of_getElem? (i := 18) rfl)))) (hw _ (List.mem_of_getElem? (i := 18) rfl)) (hw _ (List.mem_of_getElem? (i := 17) rfl)) (hw _ (List.mem_of_getElem? (i := 19) rfl)) (hw _ (List.mem_of_getElem? (i := 3) rfl)) (by decide) IE346 (own_met3 l Z a0 hw T346.heap n0 z355 a339 p0 B346 K346 _ _ (0 : Int32) (16 : Int32) _ 0  ge_a339 ⟨IE346, IS346, IB346, IAB346, f356, IEB346, IEK346, IO346, IaB346, IaK346, IBK346⟩ ge_K346 (by decide) (Nat.le_of_ble_eq_true rfl) (by decide) (by decide) ) (by decide) (W := 0) (by decide) rfl (by rw [hml]; rfl) own_pd_4 (argsL := [(.int p0)]) rfl (S := []) rfl (Nat.le_of_eq rfl) (hb hby at_52) (pc' := 55) rfl (by decide) (by decide) (fun T357 v357 L357 X357 hQ357 => ?_)
    obtain ⟨rfl, N357q, Kp357, hL357⟩ := hQ357
    have N358 := Fr.app N347 N357q
    have f359 := f352.keep Kp357 (ninS q340 (ninS q350 nin0))
    have f360 := f353.keep Kp357
    have f361 := IE346.keep Kp357
    have f362 := IAB346.keep Kp357 (ninS (Ne.symm IaB346) (ninS IBK346 nin0))
    have f363 := IEB346.keep Kp357
    have f364 := IEK346.keep Kp357
    have z365 : n0 ≤ T357.heap.size := Nat.le_trans z355 Kp357.1
    rw [show ((0 : Int32) + (1 : Int32)) = (1 : Int32) from by decide] at hL357
    obtain ⟨IE357, IS357, IB357, IAB357, IAK357, IEB357, IEK357, IO357, IaB357, IaK357, IBK357⟩ := hL357
    have f366 : Arv Z T357.heap K346 _ .int (16 : Int32) [(.int p0), (.int (0 : Int32)), (.int (0 : Int32)), (.int (0 : Int32)), (.int (0 : Int32)), (.int (0 : Int32)), (.int (0 : Int32)), (.int (0 : Int32)), (.int (0 : Int32)), (.int (0 : Int32)), (.int (0 : Int32)), (.int (0 : Int32)), (.int (0 : Int32)), (.int (0 : Int32)), (.int (0 : Int32)), (.int (0 : Int32))] (.int (0 : Int32)) := IAK357
    refine OwnK.iload X357 hx (hb hby at_55) (pc' := 57) rfl (v := (4 : Int32)) rfl ?_
    refine OwnK.iconst X357 hx (hb hby at_57) (pc' := 58) rfl (v := (1 : Int32)) (by decide) ?_
    refine OwnK.icmp_le X357 hx (hb hby at_58) (by decide) (pcT := 70) (by decide) (pc' := 61) rfl (fun (hc58 : 4 ≤ 1) => absurd hc58 (by decide)) (fun hc58 => ?_)
    refine OwnK.aload X357 hx (hb hby at_61) (pc' := 63) rfl (v := (.ref a339)) rfl rfl ?_
    refine OwnK.aload X357 hx (hb hby at_63) (pc' := 65) rfl (v := (.ref a316)) rfl rfl ?_
    refine OwnK.iconst X357 hx (hb hby at_65) (pc' := 66) rfl (v := (1 : Int32)) (by decide) ?_
    refine OwnK.iaload X357 hx hZ rfl f359 (by decide) (by first | decide | omega) (v := (.int p1)) rfl (hb hby at_66) (pc' := 67) rfl ?_
    refine OwnK.callV_ X357 hx hZ hown (y := (⟨"com/example/strict_reach/strictreach/IntList", "add", "(I)V"⟩ : MethodName)) (z := (⟨"com/example/strict_reach/strictreach/IntList", "add", "(I)V"⟩ : MethodName)) (a := a339) (hw _ (List.mem_of_getElem? (i := 15) rfl)) (hw _ (List.mem_of_getElem? (i := 16) rfl)) (notFace_of_selects (args := #[]) (mvT hZ (hw _ (List.mem_of_getElem? (i := 18) rfl)))) (hw _ (List.mem_of_getElem? (i := 18) rfl)) (hw _ (List.mem_of_getElem? (i := 17) rfl)) (hw _ (List.mem_of_getElem? (i := 19) rfl)) (hw _ (List.mem_of_getElem? (i := 3) rfl)) (by decide) IE357 (own_met3 l Z a0 hw T357.heap n0 z365 a339 p1 B346 K346 _ _ (1 : Int32) (16 : Int32) _ 1  ge_a339 ⟨IE357, IS357, IB357, IAB357, f366, IEB357, IEK357, IO357, IaB357, IaK357, IBK357⟩ ge_K346 (by decide) (Nat.le_of_ble_eq_true rfl) (by decide) (by decide) ) (by decide) (W := 0) (by decide) rfl (by rw [hml]; rfl) own_pd_4 (argsL := [(.int p1)]) rfl (S := []) rfl (Nat.le_of_eq rfl) (hb hby at_67) (pc' := 70) rfl (by decide) (by decide) (fun T367 v367 L367 X367 hQ367 => ?_)
    obtain ⟨rfl, N367q, Kp367, hL367⟩ := hQ367
    have N368 := Fr.app N358 N367q
    have f369 := f359.keep Kp367 (ninS q340 (ninS q350 nin0))
    have f370 := f360.keep Kp367
    have f371 := IE357.keep Kp367
    have f372 := IAB357.keep Kp367 (ninS (Ne.symm IaB357) (ninS IBK357 nin0))
    have f373 := IEB357.keep Kp367
    have f374 := IEK357.keep Kp367
    have z375 : n0 ≤ T367.heap.size := Nat.le_trans z365 Kp367.1
    rw [show ((1 : Int32) + (1 : Int32)) = (2 : Int32) from by decide] at hL367
    obtain ⟨IE367, IS367, IB367, IAB367, IAK367, IEB367, IEK367, IO367, IaB367, IaK367, IBK367⟩ := hL367
    have f376 : Arv Z T367.heap K346 _ .int (16 : Int32) [(.int p0), (.int p1), (.int (0 : Int32)), (.int (0 : Int32)), (.int (0 : Int32)), (.int (0 : Int32)), (.int (0 : Int32)), (.int (0 : Int32)), (.int (0 : Int32)), (.int (0 : Int32)), (.int (0 : Int32)), (.int (0 : Int32)), (.int (0 : Int32)), (.int (0 : Int32)), (.int (0 : Int32)), (.int (0 : Int32))] (.int (0 : Int32)) := IAK367
    refine OwnK.iload X367 hx (hb hby at_70) (pc' := 72) rfl (v := (4 : Int32)) rfl ?_
    refine OwnK.iconst X367 hx (hb hby at_72) (pc' := 73) rfl (v := (2 : Int32)) (by decide) ?_
    refine OwnK.icmp_le X367 hx (hb hby at_73) (by decide) (pcT := 85) (by decide) (pc' := 76) rfl (fun (hc73 : 4 ≤ 2) => absurd hc73 (by decide)) (fun hc73 => ?_)
    refine OwnK.aload X367 hx (hb hby at_76) (pc' := 78) rfl (v := (.ref a339)) rfl rfl ?_
    refine OwnK.aload X367 hx (hb hby at_78) (pc' := 80) rfl (v := (.ref a316)) rfl rfl ?_
    refine OwnK.iconst X367 hx (hb hby at_80) (pc' := 81) rfl (v := (2 : Int32)) (by decide) ?_
    refine OwnK.iaload X367 hx hZ rfl f369 (by decide) (by first | decide | omega) (v := (.int (p0 ^^^ (-1 : Int32)))) rfl (hb hby at_81) (pc' := 82) rfl ?_
    refine OwnK.callV_ X367 hx hZ hown (y := (⟨"com/example/strict_reach/strictreach/IntList", "add", "(I)V"⟩ : MethodName)) (z := (⟨"com/example/strict_reach/strictreach/IntList", "add", "(I)V"⟩ : MethodName)) (a := a339) (hw _ (List.mem_of_getElem? (i := 15) rfl)) (hw _ (List.mem_of_getElem? (i := 16) rfl)) (notFace_of_selects (args := #[]) (mvT hZ (hw _ (List.mem_of_getElem? (i := 18) rfl)))) (hw _ (List.mem_of_getElem? (i := 18) rfl)) (hw _ (List.mem_of_getElem? (i := 17) rfl)) (hw _ (List.mem_of_getElem? (i := 19) rfl)) (hw _ (List.mem_of_getElem? (i := 3) rfl)) (by decide) IE367 (own_met3 l Z a0 hw T367.heap n0 z375 a339 (p0 ^^^ (-1 : Int32)) B346 K346 _ _ (2 : Int32) (16 : Int32) _ 2  ge_a339 ⟨IE367, IS367, IB367, IAB367, f376, IEB367, IEK367, IO367, IaB367, IaK367, IBK367⟩ ge_K346 (by decide) (Nat.le_of_ble_eq_true rfl) (by decide) (by decide) ) (by decide) (W := 0) (by decide) rfl (by rw [hml]; rfl) own_pd_4 (argsL := [(.int (p0 ^^^ (-1 : Int32)))]) rfl (S := []) rfl (Nat.le_of_eq rfl) (hb hby at_82) (pc' := 85) rfl (by decide) (by decide) (fun T377 v377 L377 X377 hQ377 => ?_)
    obtain ⟨rfl, N377q, Kp377, hL377⟩ := hQ377
    have N378 := Fr.app N368 N377q
    have f379 := f369.keep Kp377 (ninS q340 (ninS q350 nin0))
    have f380 := f370.keep Kp377
    have f381 := IE367.keep Kp377
    have f382 := IAB367.keep Kp377 (ninS (Ne.symm IaB367) (ninS IBK367 nin0))
    have f383 := IEB367.keep Kp377
    have f384 := IEK367.keep Kp377
    have z385 : n0 ≤ T377.heap.size := Nat.le_trans z375 Kp377.1
    rw [show ((2 : Int32) + (1 : Int32)) = (3 : Int32) from by decide] at hL377
    obtain ⟨IE377, IS377, IB377, IAB377, IAK377, IEB377, IEK377, IO377, IaB377, IaK377, IBK377⟩ := hL377
    have f386 : Arv Z T377.heap K346 _ .int (16 : Int32) [(.int p0), (.int p1), (.int (p0 ^^^ (-1 : Int32))), (.int (0 : Int32)), (.int (0 : Int32)), (.int (0 : Int32)), (.int (0 : Int32)), (.int (0 : Int32)), (.int (0 : Int32)), (.int (0 : Int32)), (.int (0 : Int32)), (.int (0 : Int32)), (.int (0 : Int32)), (.int (0 : Int32)), (.int (0 : Int32)), (.int (0 : Int32))] (.int (0 : Int32)) := IAK377
    refine OwnK.iload X377 hx (hb hby at_85) (pc' := 87) rfl (v := (4 : Int32)) rfl ?_
    refine OwnK.iconst X377 hx (hb hby at_87) (pc' := 88) rfl (v := (3 : Int32)) (by decide) ?_
    refine OwnK.icmp_le X377 hx (hb hby at_88) (by decide) (pcT := 100) (by decide) (pc' := 91) rfl (fun (hc88 : 4 ≤ 3) => absurd hc88 (by decide)) (fun hc88 => ?_)
    refine OwnK.aload X377 hx (hb hby at_91) (pc' := 93) rfl (v := (.ref a339)) rfl rfl ?_
    refine OwnK.aload X377 hx (hb hby at_93) (pc' := 95) rfl (v := (.ref a316)) rfl rfl ?_
    refine OwnK.iconst X377 hx (hb hby at_95) (pc' := 96) rfl (v := (3 : Int32)) (by decide) ?_
    refine OwnK.iaload X377 hx hZ rfl f379 (by decide) (by first | decide | omega) (v := (.int (p1 ^^^ (-1 : Int32)))) rfl (hb hby at_96) (pc' := 97) rfl ?_
    refine OwnK.callV_ X377 hx hZ hown (y := (⟨"com/example/strict_reach/strictreach/IntList", "add", "(I)V"⟩ : MethodName)) (z := (⟨"com/example/strict_reach/strictreach/IntList", "add", "(I)V"⟩ : MethodName)) (a := a339) (hw _ (List.mem_of_getElem? (i := 15) rfl)) (hw _ (List.mem_of_getElem? (i := 16) rfl)) (notFace_of_selects (args := #[]) (mvT hZ (hw _ (List.mem_of_getElem? (i := 18) rfl)))) (hw _ (List.mem_of_getElem? (i := 18) rfl)) (hw _ (List.mem_of_getElem? (i := 17) rfl)) (hw _ (List.mem_of_getElem? (i := 19) rfl)) (hw _ (List.mem_of_getElem? (i := 3) rfl)) (by decide) IE377 (own_met3 l Z a0 hw T377.heap n0 z385 a339 (p1 ^^^ (-1 : Int32)) B346 K346 _ _ (3 : Int32) (16 : Int32) _ 3  ge_a339 ⟨IE377, IS377, IB377, IAB377, f386, IEB377, IEK377, IO377, IaB377, IaK377, IBK377⟩ ge_K346 (by decide) (Nat.le_of_ble_eq_true rfl) (by decide) (by decide) ) (by decide) (W := 0) (by decide) rfl (by rw [hml]; rfl) own_pd_4 (argsL := [(.int (p1 ^^^ (-1 : Int32)))]) rfl (S := []) rfl (Nat.le_of_eq rfl) (hb hby at_97) (pc' := 100) rfl (by decide) (by decide) (fun T387 v387 L387 X387 hQ387 => ?_)
    obtain ⟨rfl, N387q, Kp387, hL387⟩ := hQ387
    have N388 := Fr.app N378 N387q
    have f389 := f379.keep Kp387 (ninS q340 (ninS q350 nin0))
    have f390 := f380.keep Kp387
    have f391 := IE377.keep Kp387
    have f392 := IAB377.keep Kp387 (ninS (Ne.symm IaB377) (ninS IBK377 nin0))
    have f393 := IEB377.keep Kp387
    have f394 := IEK377.keep Kp387
    have z395 : n0 ≤ T387.heap.size := Nat.le_trans z385 Kp387.1
    rw [show ((3 : Int32) + (1 : Int32)) = (4 : Int32) from by decide] at hL387
    obtain ⟨IE387, IS387, IB387, IAB387, IAK387, IEB387, IEK387, IO387, IaB387, IaK387, IBK387⟩ := hL387
    have f396 : Arv Z T387.heap K346 _ .int (16 : Int32) [(.int p0), (.int p1), (.int (p0 ^^^ (-1 : Int32))), (.int (p1 ^^^ (-1 : Int32))), (.int (0 : Int32)), (.int (0 : Int32)), (.int (0 : Int32)), (.int (0 : Int32)), (.int (0 : Int32)), (.int (0 : Int32)), (.int (0 : Int32)), (.int (0 : Int32)), (.int (0 : Int32)), (.int (0 : Int32)), (.int (0 : Int32)), (.int (0 : Int32))] (.int (0 : Int32)) := IAK387
    refine OwnK.iloadN X387 hx (hb hby at_100) (pc' := 101) rfl (v := p3) rfl ?_
    refine OwnK.ldcI X387 hx hZ hown (hw _ (List.mem_of_getElem? (i := 27) rfl)) (hb hby at_101) (pc' := 103) rfl ?_
    refine OwnK.iand X387 hx (hb hby at_103) (pc' := 104) rfl ?_
    refine OwnK.iload X387 hx (hb hby at_104) (pc' := 106) rfl (v := (4 : Int32)) rfl ?_
    refine OwnK.irem X387 hx (hb hby at_106) (pc' := 107) rfl (by decide) ?_
    refine OwnK.istoreG X387 hx (hb hby at_107) (pc' := 109) rfl (Ls' := fun u => #[.val (.int p0), .val (.int p1), .val (.int p2), .val (.int p3), .val (.int p4), .val (.int (4 : Int32)), .val (.ref a316), .val (.ref a339), .val (.int u), .unset]) (fun u => rfl) (fun u397 (hu397 : u397 = ((p3 &&& (2147483647 : Int32)) % (4 : Int32))) => ?_)
    have m3 := own_i4 p3
    rw [← hu397] at m3
    rcases m3 with rfl | rfl | rfl | rfl
    · refine OwnK.aload X387 hx (hb hby at_109) (pc' := 111) rfl (v := (.ref a339)) rfl rfl ?_
      refine OwnK.iload X387 hx (hb hby at_111) (pc' := 113) rfl (v := (0 : Int32)) rfl ?_
      refine OwnK.iloadN X387 hx (hb hby at_113) (pc' := 114) rfl (v := p2) rfl ?_
      refine OwnK.callV_ X387 hx hZ hown (y := (⟨"com/example/strict_reach/strictreach/IntList", "set", "(II)V"⟩ : MethodName)) (z := (⟨"com/example/strict_reach/strictreach/IntList", "set", "(II)V"⟩ : MethodName)) (a := a339) (hw _ (List.mem_of_getElem? (i := 28) rfl)) (hw _ (List.mem_of_getElem? (i := 29) rfl)) (notFace_of_selects (args := #[]) (mvT hZ (hw _ (List.mem_of_getElem? (i := 31) rfl)))) (hw _ (List.mem_of_getElem? (i := 31) rfl)) (hw _ (List.mem_of_getElem? (i := 30) rfl)) (hw _ (List.mem_of_getElem? (i := 32) rfl)) (hw _ (List.mem_of_getElem? (i := 3) rfl)) (by decide) IE387 (own_met5 l Z a0 hw T387.heap n0 z395 a339 (0 : Int32) p2 B346 K346 _ _ (4 : Int32) (16 : Int32) _ 0  ge_a339 ⟨IE387, IS387, IB387, IAB387, f396, IEB387, IEK387, IO387, IaB387, IaK387, IBK387⟩ ge_K346 (by decide) (by decide) (Nat.le_of_ble_eq_true rfl) ) (by decide) (W := 0) (by decide) rfl (by rw [hml]; rfl) own_pd_6 (argsL := [(.int (0 : Int32)), (.int p2)]) rfl (S := []) rfl (Nat.le_of_eq rfl) (hb hby at_114) (pc' := 117) rfl (by decide) (by decide) (fun T398 v398 L398 X398 hQ398 => ?_)
      obtain ⟨rfl, N398q, Kp398, hL398⟩ := hQ398
      have N399 := Fr.app N388 N398q
      have f400 := f389.keep Kp398 (ninS q340 (ninS q350 nin0))
      have f401 := f390.keep Kp398
      have f402 := IE387.keep Kp398
      have f403 := IAB387.keep Kp398 (ninS (Ne.symm IaB387) (ninS IBK387 nin0))
      have f404 := IEB387.keep Kp398
      have f405 := IEK387.keep Kp398
      have z406 : n0 ≤ T398.heap.size := Nat.le_trans z395 Kp398.1
      obtain ⟨IE398, IS398, IB398, IAB398, IAK398, IEB398, IEK398, IO398, IaB398, IaK398, IBK398⟩ := hL398
      have f407 : Arv Z T398.heap K346 _ .int (16 : Int32) [(.int p2), (.int p1), (.int (p0 ^^^ (-1 : Int32))), (.int (p1 ^^^ (-1 : Int32))), (.int (0 : Int32)), (.int (0 : Int32)), (.int (0 : Int32)), (.int (0 : Int32)), (.int (0 : Int32)), (.int (0 : Int32)), (.int (0 : Int32)), (.int (0 : Int32)), (.int (0 : Int32)), (.int (0 : Int32)), (.int (0 : Int32)), (.int (0 : Int32))] (.int (0 : Int32)) := IAK398
      refine OwnK.aload X398 hx (hb hby at_117) (pc' := 119) rfl (v := (.ref a339)) rfl rfl ?_
      refine OwnK.callV_ X398 hx hZ hown (y := (⟨"com/example/strict_reach/strictreach/IntList", "size", "()I"⟩ : MethodName)) (z := (⟨"com/example/strict_reach/strictreach/IntList", "size", "()I"⟩ : MethodName)) (a := a339) (hw _ (List.mem_of_getElem? (i := 41) rfl)) (hw _ (List.mem_of_getElem? (i := 42) rfl)) (notFace_of_selects (args := #[]) (mvT hZ (hw _ (List.mem_of_getElem? (i := 44) rfl)))) (hw _ (List.mem_of_getElem? (i := 44) rfl)) (hw _ (List.mem_of_getElem? (i := 43) rfl)) (hw _ (List.mem_of_getElem? (i := 45) rfl)) (hw _ (List.mem_of_getElem? (i := 3) rfl)) (by decide) IE398 (own_met8 l Z a0 hw T398.heap a339 B346 K346 _ _ (4 : Int32) (16 : Int32) _ ⟨IE398, IS398, IB398, IAB398, f407, IEB398, IEK398, IO398, IaB398, IaK398, IBK398⟩ ) (by decide) (W := 0) (by decide) rfl (by rw [hml]; rfl) own_pd_0 (argsL := []) rfl (S := []) rfl (Nat.le_of_eq rfl) (hb hby at_119) (pc' := 122) rfl (by decide) (by decide) (fun T408 v408 L408 X408 hQ408 => ?_)
      obtain ⟨rfl, e408, rfl⟩ := hQ408
      have N409 := Fr.app N399 (Fr.nil n0)
      refine OwnK.iload X408 hx (hb hby at_122) (pc' := 124) rfl (v := (4 : Int32)) rfl ?_
      refine OwnK.icmp_ne X408 hx (hb hby at_124) (by decide) (pcT := 131) (by decide) (pc' := 127) rfl (fun (hc124 : ¬ 4 = 4) => absurd hc124 (by decide)) (fun hc124 => ?_)
      refine OwnK.iconst X408 hx (hb hby at_127) (pc' := 128) rfl (v := (1 : Int32)) (by decide) ?_
      refine OwnK.goto_ X408 hx (hb hby at_128) (by decide) (pc' := 132) (by decide) ?_
      refine OwnK.istore X408 hx (hb hby at_132) (pc' := 134) rfl (Ls' := #[.val (.int p0), .val (.int p1), .val (.int p2), .val (.int p3), .val (.int p4), .val (.int (4 : Int32)), .val (.ref a316), .val (.ref a339), .val (.int (0 : Int32)), .val (.int (1 : Int32))]) rfl ?_
      refine OwnK.iload X408 hx (hb hby at_134) (pc' := 136) rfl (v := (1 : Int32)) rfl ?_
      refine OwnK.if_eq X408 hx (hb hby at_136) (by decide) (pcT := 161) (by decide) (pc' := 139) rfl (fun (hc136 : 1 = 0) => absurd hc136 (by decide)) (fun hc136 => ?_)
      refine OwnK.aload X408 hx (hb hby at_139) (pc' := 141) rfl (v := (.ref a339)) rfl rfl ?_
      refine OwnK.iconst X408 hx (hb hby at_141) (pc' := 142) rfl (v := (0 : Int32)) (by decide) ?_
      refine OwnK.callV_ X408 hx hZ hown (y := (⟨"com/example/strict_reach/strictreach/IntList", "get", "(I)I"⟩ : MethodName)) (z := (⟨"com/example/strict_reach/strictreach/IntList", "get", "(I)I"⟩ : MethodName)) (a := a339) (hw _ (List.mem_of_getElem? (i := 46) rfl)) (hw _ (List.mem_of_getElem? (i := 47) rfl)) (notFace_of_selects (args := #[]) (mvT hZ (hw _ (List.mem_of_getElem? (i := 49) rfl)))) (hw _ (List.mem_of_getElem? (i := 49) rfl)) (hw _ (List.mem_of_getElem? (i := 48) rfl)) (hw _ (List.mem_of_getElem? (i := 50) rfl)) (hw _ (List.mem_of_getElem? (i := 3) rfl)) (by decide) IE398 (own_met9 l Z a0 hw T398.heap a339 (0 : Int32) B346 K346 _ _ (4 : Int32) (16 : Int32) _ 0 p2 ⟨IE398, IS398, IB398, IAB398, f407, IEB398, IEK398, IO398, IaB398, IaK398, IBK398⟩ (by decide) (by decide) rfl ) (by decide) (W := 0) (by decide) e408 (by rw [hml]; rfl) own_pd_3 (argsL := [(.int (0 : Int32))]) rfl (S := []) rfl (Nat.le_of_eq rfl) (hb hby at_142) (pc' := 145) rfl (by decide) (by decide) (fun T410 v410 L410 X410 hQ410 => ?_)
      obtain ⟨rfl, e410, rfl⟩ := hQ410
      have N411 := Fr.app N409 (Fr.nil n0)
      refine OwnK.iconst X410 hx (hb hby at_145) (pc' := 146) rfl (v := (0 : Int32)) (by decide) ?_
      refine OwnK.iload X410 hx (hb hby at_146) (pc' := 148) rfl (v := (0 : Int32)) rfl ?_
      refine OwnK.iloadN X410 hx (hb hby at_148) (pc' := 149) rfl (v := p2) rfl ?_
      refine OwnK.aload X410 hx (hb hby at_149) (pc' := 151) rfl (v := (.ref a316)) rfl rfl ?_
      refine OwnK.callS_ X410 hx hZ hown (y := (⟨"com/example/strict_reach/strictreach/IntListSetPinLaw", "expect", "(III[I)I"⟩ : MethodName)) (hw _ (List.mem_of_getElem? (i := 51) rfl)) (hw _ (List.mem_of_getElem? (i := 52) rfl)) (hw _ (List.mem_of_getElem? (i := 53) rfl)) (hw _ (List.mem_of_getElem? (i := 54) rfl)) (by decide) (own_met10 l Z a0 hw T398.heap (0 : Int32) (0 : Int32) p2 a316 _ _ p0 0 f400 (by decide) (by decide) rfl ) (by decide) (W := 1) (by decide) e410 (by rw [hml]; rfl) own_pd_7 (argsL := [(.int (0 : Int32)), (.int (0 : Int32)), (.int p2), (.ref a316)]) rfl (S := [(.int p2)]) rfl (Nat.le_of_eq rfl) (hb hby at_151) (pc' := 154) rfl (by decide) (by decide) (fun T412 v412 L412 X412 hQ412 => ?_)
      obtain ⟨hv412, e412, rfl⟩ := hQ412
      obtain rfl : v412 = some (.int p2) := hv412.trans (by first | rw [if_pos (by decide)] | rw [if_neg (by decide)])
      have N413 := Fr.app N411 (Fr.nil n0)
      refine OwnK.icmp_ne X412 hx (hb hby at_154) (by decide) (pcT := 161) (by decide) (pc' := 157) rfl (fun (hc154 : ¬ p2.toInt = p2.toInt) => absurd rfl hc154) (fun hc154 => ?_)
      refine OwnK.iconst X412 hx (hb hby at_157) (pc' := 158) rfl (v := (1 : Int32)) (by decide) ?_
      refine OwnK.goto_ X412 hx (hb hby at_158) (by decide) (pc' := 162) (by decide) ?_
      refine OwnK.istore X412 hx (hb hby at_162) (pc' := 164) rfl (Ls' := #[.val (.int p0), .val (.int p1), .val (.int p2), .val (.int p3), .val (.int p4), .val (.int (4 : Int32)), .val (.ref a316), .val (.ref a339), .val (.int (0 : Int32)), .val (.int (1 : Int32))]) rfl ?_
      refine OwnK.iload X412 hx (hb hby at_164) (pc' := 166) rfl (v := (4 : Int32)) rfl ?_
      refine OwnK.iconst X412 hx (hb hby at_166) (pc' := 167) rfl (v := (1 : Int32)) (by decide) ?_
      refine OwnK.icmp_le X412 hx (hb hby at_167) (by decide) (pcT := 200) (by decide) (pc' := 170) rfl (fun (hc167 : 4 ≤ 1) => absurd hc167 (by decide)) (fun hc167 => ?_)
      refine OwnK.iload X412 hx (hb hby at_170) (pc' := 172) rfl (v := (1 : Int32)) rfl ?_
      refine OwnK.if_eq X412 hx (hb hby at_172) (by decide) (pcT := 197) (by decide) (pc' := 175) rfl (fun (hc172 : 1 = 0) => absurd hc172 (by decide)) (fun hc172 => ?_)
      refine OwnK.aload X412 hx (hb hby at_175) (pc' := 177) rfl (v := (.ref a339)) rfl rfl ?_
      refine OwnK.iconst X412 hx (hb hby at_177) (pc' := 178) rfl (v := (1 : Int32)) (by decide) ?_
      refine OwnK.callV_ X412 hx hZ hown (y := (⟨"com/example/strict_reach/strictreach/IntList", "get", "(I)I"⟩ : MethodName)) (z := (⟨"com/example/strict_reach/strictreach/IntList", "get", "(I)I"⟩ : MethodName)) (a := a339) (hw _ (List.mem_of_getElem? (i := 46) rfl)) (hw _ (List.mem_of_getElem? (i := 47) rfl)) (notFace_of_selects (args := #[]) (mvT hZ (hw _ (List.mem_of_getElem? (i := 49) rfl)))) (hw _ (List.mem_of_getElem? (i := 49) rfl)) (hw _ (List.mem_of_getElem? (i := 48) rfl)) (hw _ (List.mem_of_getElem? (i := 50) rfl)) (hw _ (List.mem_of_getElem? (i := 3) rfl)) (by decide) IE398 (own_met9 l Z a0 hw T398.heap a339 (1 : Int32) B346 K346 _ _ (4 : Int32) (16 : Int32) _ 1 p1 ⟨IE398, IS398, IB398, IAB398, f407, IEB398, IEK398, IO398, IaB398, IaK398, IBK398⟩ (by decide) (by decide) rfl ) (by decide) (W := 0) (by decide) e412 (by rw [hml]; rfl) own_pd_3 (argsL := [(.int (1 : Int32))]) rfl (S := []) rfl (Nat.le_of_eq rfl) (hb hby at_178) (pc' := 181) rfl (by decide) (by decide) (fun T414 v414 L414 X414 hQ414 => ?_)
      obtain ⟨rfl, e414, rfl⟩ := hQ414
      have N415 := Fr.app N413 (Fr.nil n0)
      refine OwnK.iconst X414 hx (hb hby at_181) (pc' := 182) rfl (v := (1 : Int32)) (by decide) ?_
      refine OwnK.iload X414 hx (hb hby at_182) (pc' := 184) rfl (v := (0 : Int32)) rfl ?_
      refine OwnK.iloadN X414 hx (hb hby at_184) (pc' := 185) rfl (v := p2) rfl ?_
      refine OwnK.aload X414 hx (hb hby at_185) (pc' := 187) rfl (v := (.ref a316)) rfl rfl ?_
      refine OwnK.callS_ X414 hx hZ hown (y := (⟨"com/example/strict_reach/strictreach/IntListSetPinLaw", "expect", "(III[I)I"⟩ : MethodName)) (hw _ (List.mem_of_getElem? (i := 51) rfl)) (hw _ (List.mem_of_getElem? (i := 52) rfl)) (hw _ (List.mem_of_getElem? (i := 53) rfl)) (hw _ (List.mem_of_getElem? (i := 54) rfl)) (by decide) (own_met10 l Z a0 hw T398.heap (1 : Int32) (0 : Int32) p2 a316 _ _ p1 1 f400 (by decide) (by decide) rfl ) (by decide) (W := 1) (by decide) e414 (by rw [hml]; rfl) own_pd_7 (argsL := [(.int (1 : Int32)), (.int (0 : Int32)), (.int p2), (.ref a316)]) rfl (S := [(.int p1)]) rfl (Nat.le_of_eq rfl) (hb hby at_187) (pc' := 190) rfl (by decide) (by decide) (fun T416 v416 L416 X416 hQ416 => ?_)
      obtain ⟨hv416, e416, rfl⟩ := hQ416
      obtain rfl : v416 = some (.int p1) := hv416.trans (by first | rw [if_pos (by decide)] | rw [if_neg (by decide)])
      have N417 := Fr.app N415 (Fr.nil n0)
      refine OwnK.icmp_ne X416 hx (hb hby at_190) (by decide) (pcT := 197) (by decide) (pc' := 193) rfl (fun (hc190 : ¬ p1.toInt = p1.toInt) => absurd rfl hc190) (fun hc190 => ?_)
      refine OwnK.iconst X416 hx (hb hby at_193) (pc' := 194) rfl (v := (1 : Int32)) (by decide) ?_
      refine OwnK.goto_ X416 hx (hb hby at_194) (by decide) (pc' := 198) (by decide) ?_
      refine OwnK.istore X416 hx (hb hby at_198) (pc' := 200) rfl (Ls' := #[.val (.int p0), .val (.int p1), .val (.int p2), .val (.int p3), .val (.int p4), .val (.int (4 : Int32)), .val (.ref a316), .val (.ref a339), .val (.int (0 : Int32)), .val (.int (1 : Int32))]) rfl ?_
      refine OwnK.iload X416 hx (hb hby at_200) (pc' := 202) rfl (v := (4 : Int32)) rfl ?_
      refine OwnK.iconst X416 hx (hb hby at_202) (pc' := 203) rfl (v := (2 : Int32)) (by decide) ?_
      refine OwnK.icmp_le X416 hx (hb hby at_203) (by decide) (pcT := 236) (by decide) (pc' := 206) rfl (fun (hc203 : 4 ≤ 2) => absurd hc203 (by decide)) (fun hc203 => ?_)
      refine OwnK.iload X416 hx (hb hby at_206) (pc' := 208) rfl (v := (1 : Int32)) rfl ?_
      refine OwnK.if_eq X416 hx (hb hby at_208) (by decide) (pcT := 233) (by decide) (pc' := 211) rfl (fun (hc208 : 1 = 0) => absurd hc208 (by decide)) (fun hc208 => ?_)
      refine OwnK.aload X416 hx (hb hby at_211) (pc' := 213) rfl (v := (.ref a339)) rfl rfl ?_
      refine OwnK.iconst X416 hx (hb hby at_213) (pc' := 214) rfl (v := (2 : Int32)) (by decide) ?_
      refine OwnK.callV_ X416 hx hZ hown (y := (⟨"com/example/strict_reach/strictreach/IntList", "get", "(I)I"⟩ : MethodName)) (z := (⟨"com/example/strict_reach/strictreach/IntList", "get", "(I)I"⟩ : MethodName)) (a := a339) (hw _ (List.mem_of_getElem? (i := 46) rfl)) (hw _ (List.mem_of_getElem? (i := 47) rfl)) (notFace_of_selects (args := #[]) (mvT hZ (hw _ (List.mem_of_getElem? (i := 49) rfl)))) (hw _ (List.mem_of_getElem? (i := 49) rfl)) (hw _ (List.mem_of_getElem? (i := 48) rfl)) (hw _ (List.mem_of_getElem? (i := 50) rfl)) (hw _ (List.mem_of_getElem? (i := 3) rfl)) (by decide) IE398 (own_met9 l Z a0 hw T398.heap a339 (2 : Int32) B346 K346 _ _ (4 : Int32) (16 : Int32) _ 2 (p0 ^^^ (-1 : Int32)) ⟨IE398, IS398, IB398, IAB398, f407, IEB398, IEK398, IO398, IaB398, IaK398, IBK398⟩ (by decide) (by decide) rfl ) (by decide) (W := 0) (by decide) e416 (by rw [hml]; rfl) own_pd_3 (argsL := [(.int (2 : Int32))]) rfl (S := []) rfl (Nat.le_of_eq rfl) (hb hby at_214) (pc' := 217) rfl (by decide) (by decide) (fun T418 v418 L418 X418 hQ418 => ?_)
      obtain ⟨rfl, e418, rfl⟩ := hQ418
      have N419 := Fr.app N417 (Fr.nil n0)
      refine OwnK.iconst X418 hx (hb hby at_217) (pc' := 218) rfl (v := (2 : Int32)) (by decide) ?_
      refine OwnK.iload X418 hx (hb hby at_218) (pc' := 220) rfl (v := (0 : Int32)) rfl ?_
      refine OwnK.iloadN X418 hx (hb hby at_220) (pc' := 221) rfl (v := p2) rfl ?_
      refine OwnK.aload X418 hx (hb hby at_221) (pc' := 223) rfl (v := (.ref a316)) rfl rfl ?_
      refine OwnK.callS_ X418 hx hZ hown (y := (⟨"com/example/strict_reach/strictreach/IntListSetPinLaw", "expect", "(III[I)I"⟩ : MethodName)) (hw _ (List.mem_of_getElem? (i := 51) rfl)) (hw _ (List.mem_of_getElem? (i := 52) rfl)) (hw _ (List.mem_of_getElem? (i := 53) rfl)) (hw _ (List.mem_of_getElem? (i := 54) rfl)) (by decide) (own_met10 l Z a0 hw T398.heap (2 : Int32) (0 : Int32) p2 a316 _ _ (p0 ^^^ (-1 : Int32)) 2 f400 (by decide) (by decide) rfl ) (by decide) (W := 1) (by decide) e418 (by rw [hml]; rfl) own_pd_7 (argsL := [(.int (2 : Int32)), (.int (0 : Int32)), (.int p2), (.ref a316)]) rfl (S := [(.int (p0 ^^^ (-1 : Int32)))]) rfl (Nat.le_of_eq rfl) (hb hby at_223) (pc' := 226) rfl (by decide) (by decide) (fun T420 v420 L420 X420 hQ420 => ?_)
      obtain ⟨hv420, e420, rfl⟩ := hQ420
      obtain rfl : v420 = some (.int (p0 ^^^ (-1 : Int32))) := hv420.trans (by first | rw [if_pos (by decide)] | rw [if_neg (by decide)])
      have N421 := Fr.app N419 (Fr.nil n0)
      refine OwnK.icmp_ne X420 hx (hb hby at_226) (by decide) (pcT := 233) (by decide) (pc' := 229) rfl (fun (hc226 : ¬ (p0 ^^^ (-1 : Int32)).toInt = (p0 ^^^ (-1 : Int32)).toInt) => absurd rfl hc226) (fun hc226 => ?_)
      refine OwnK.iconst X420 hx (hb hby at_229) (pc' := 230) rfl (v := (1 : Int32)) (by decide) ?_
      refine OwnK.goto_ X420 hx (hb hby at_230) (by decide) (pc' := 234) (by decide) ?_
      refine OwnK.istore X420 hx (hb hby at_234) (pc' := 236) rfl (Ls' := #[.val (.int p0), .val (.int p1), .val (.int p2), .val (.int p3), .val (.int p4), .val (.int (4 : Int32)), .val (.ref a316), .val (.ref a339), .val (.int (0 : Int32)), .val (.int (1 : Int32))]) rfl ?_
      refine OwnK.iload X420 hx (hb hby at_236) (pc' := 238) rfl (v := (4 : Int32)) rfl ?_
      refine OwnK.iconst X420 hx (hb hby at_238) (pc' := 239) rfl (v := (3 : Int32)) (by decide) ?_
      refine OwnK.icmp_le X420 hx (hb hby at_239) (by decide) (pcT := 272) (by decide) (pc' := 242) rfl (fun (hc239 : 4 ≤ 3) => absurd hc239 (by decide)) (fun hc239 => ?_)
      refine OwnK.iload X420 hx (hb hby at_242) (pc' := 244) rfl (v := (1 : Int32)) rfl ?_
      refine OwnK.if_eq X420 hx (hb hby at_244) (by decide) (pcT := 269) (by decide) (pc' := 247) rfl (fun (hc244 : 1 = 0) => absurd hc244 (by decide)) (fun hc244 => ?_)
      refine OwnK.aload X420 hx (hb hby at_247) (pc' := 249) rfl (v := (.ref a339)) rfl rfl ?_
      refine OwnK.iconst X420 hx (hb hby at_249) (pc' := 250) rfl (v := (3 : Int32)) (by decide) ?_
      refine OwnK.callV_ X420 hx hZ hown (y := (⟨"com/example/strict_reach/strictreach/IntList", "get", "(I)I"⟩ : MethodName)) (z := (⟨"com/example/strict_reach/strictreach/IntList", "get", "(I)I"⟩ : MethodName)) (a := a339) (hw _ (List.mem_of_getElem? (i := 46) rfl)) (hw _ (List.mem_of_getElem? (i := 47) rfl)) (notFace_of_selects (args := #[]) (mvT hZ (hw _ (List.mem_of_getElem? (i := 49) rfl)))) (hw _ (List.mem_of_getElem? (i := 49) rfl)) (hw _ (List.mem_of_getElem? (i := 48) rfl)) (hw _ (List.mem_of_getElem? (i := 50) rfl)) (hw _ (List.mem_of_getElem? (i := 3) rfl)) (by decide) IE398 (own_met9 l Z a0 hw T398.heap a339 (3 : Int32) B346 K346 _ _ (4 : Int32) (16 : Int32) _ 3 (p1 ^^^ (-1 : Int32)) ⟨IE398, IS398, IB398, IAB398, f407, IEB398, IEK398, IO398, IaB398, IaK398, IBK398⟩ (by decide) (by decide) rfl ) (by decide) (W := 0) (by decide) e420 (by rw [hml]; rfl) own_pd_3 (argsL := [(.int (3 : Int32))]) rfl (S := []) rfl (Nat.le_of_eq rfl) (hb hby at_250) (pc' := 253) rfl (by decide) (by decide) (fun T422 v422 L422 X422 hQ422 => ?_)
      obtain ⟨rfl, e422, rfl⟩ := hQ422
      have N423 := Fr.app N421 (Fr.nil n0)
      refine OwnK.iconst X422 hx (hb hby at_253) (pc' := 254) rfl (v := (3 : Int32)) (by decide) ?_
      refine OwnK.iload X422 hx (hb hby at_254) (pc' := 256) rfl (v := (0 : Int32)) rfl ?_
      refine OwnK.iloadN X422 hx (hb hby at_256) (pc' := 257) rfl (v := p2) rfl ?_
      refine OwnK.aload X422 hx (hb hby at_257) (pc' := 259) rfl (v := (.ref a316)) rfl rfl ?_
      refine OwnK.callS_ X422 hx hZ hown (y := (⟨"com/example/strict_reach/strictreach/IntListSetPinLaw", "expect", "(III[I)I"⟩ : MethodName)) (hw _ (List.mem_of_getElem? (i := 51) rfl)) (hw _ (List.mem_of_getElem? (i := 52) rfl)) (hw _ (List.mem_of_getElem? (i := 53) rfl)) (hw _ (List.mem_of_getElem? (i := 54) rfl)) (by decide) (own_met10 l Z a0 hw T398.heap (3 : Int32) (0 : Int32) p2 a316 _ _ (p1 ^^^ (-1 : Int32)) 3 f400 (by decide) (by decide) rfl ) (by decide) (W := 1) (by decide) e422 (by rw [hml]; rfl) own_pd_7 (argsL := [(.int (3 : Int32)), (.int (0 : Int32)), (.int p2), (.ref a316)]) rfl (S := [(.int (p1 ^^^ (-1 : Int32)))]) rfl (Nat.le_of_eq rfl) (hb hby at_259) (pc' := 262) rfl (by decide) (by decide) (fun T424 v424 L424 X424 hQ424 => ?_)
      obtain ⟨hv424, e424, rfl⟩ := hQ424
      obtain rfl : v424 = some (.int (p1 ^^^ (-1 : Int32))) := hv424.trans (by first | rw [if_pos (by decide)] | rw [if_neg (by decide)])
      have N425 := Fr.app N423 (Fr.nil n0)
      refine OwnK.icmp_ne X424 hx (hb hby at_262) (by decide) (pcT := 269) (by decide) (pc' := 265) rfl (fun (hc262 : ¬ (p1 ^^^ (-1 : Int32)).toInt = (p1 ^^^ (-1 : Int32)).toInt) => absurd rfl hc262) (fun hc262 => ?_)
      refine OwnK.iconst X424 hx (hb hby at_265) (pc' := 266) rfl (v := (1 : Int32)) (by decide) ?_
      refine OwnK.goto_ X424 hx (hb hby at_266) (by decide) (pc' := 270) (by decide) ?_
      refine OwnK.istore X424 hx (hb hby at_270) (pc' := 272) rfl (Ls' := #[.val (.int p0), .val (.int p1), .val (.int p2), .val (.int p3), .val (.int p4), .val (.int (4 : Int32)), .val (.ref a316), .val (.ref a339), .val (.int (0 : Int32)), .val (.int (1 : Int32))]) rfl ?_
      refine OwnK.iload X424 hx (hb hby at_272) (pc' := 274) rfl (v := (1 : Int32)) rfl ?_
      refine OwnK.retN_ X424 hx hret (by simp) hlk (hb hby at_274) (by decide) (by decide) ?_
      exact ⟨rfl, N425⟩
    · refine OwnK.aload X387 hx (hb hby at_109) (pc' := 111) rfl (v := (.ref a339)) rfl rfl ?_
      refine OwnK.iload X387 hx (hb hby at_111) (pc' := 113) rfl (v := (1 : Int32)) rfl ?_
      refine OwnK.iloadN X387 hx (hb hby at_113) (pc' := 114) rfl (v := p2) rfl ?_
      refine OwnK.callV_ X387 hx hZ hown (y := (⟨"com/example/strict_reach/strictreach/IntList", "set", "(II)V"⟩ : MethodName)) (z := (⟨"com/example/strict_reach/strictreach/IntList", "set", "(II)V"⟩ : MethodName)) (a := a339) (hw _ (List.mem_of_getElem? (i := 28) rfl)) (hw _ (List.mem_of_getElem? (i := 29) rfl)) (notFace_of_selects (args := #[]) (mvT hZ (hw _ (List.mem_of_getElem? (i := 31) rfl)))) (hw _ (List.mem_of_getElem? (i := 31) rfl)) (hw _ (List.mem_of_getElem? (i := 30) rfl)) (hw _ (List.mem_of_getElem? (i := 32) rfl)) (hw _ (List.mem_of_getElem? (i := 3) rfl)) (by decide) IE387 (own_met5 l Z a0 hw T387.heap n0 z395 a339 (1 : Int32) p2 B346 K346 _ _ (4 : Int32) (16 : Int32) _ 1  ge_a339 ⟨IE387, IS387, IB387, IAB387, f396, IEB387, IEK387, IO387, IaB387, IaK387, IBK387⟩ ge_K346 (by decide) (by decide) (Nat.le_of_ble_eq_true rfl) ) (by decide) (W := 0) (by decide) rfl (by rw [hml]; rfl) own_pd_6 (argsL := [(.int (1 : Int32)), (.int p2)]) rfl (S := []) rfl (Nat.le_of_eq rfl) (hb hby at_114) (pc' := 117) rfl (by decide) (by decide) (fun T426 v426 L426 X426 hQ426 => ?_)
      obtain ⟨rfl, N426q, Kp426, hL426⟩ := hQ426
      have N427 := Fr.app N388 N426q
      have f428 := f389.keep Kp426 (ninS q340 (ninS q350 nin0))
      have f429 := f390.keep Kp426
      have f430 := IE387.keep Kp426
      have f431 := IAB387.keep Kp426 (ninS (Ne.symm IaB387) (ninS IBK387 nin0))
      have f432 := IEB387.keep Kp426
      have f433 := IEK387.keep Kp426
      have z434 : n0 ≤ T426.heap.size := Nat.le_trans z395 Kp426.1
      obtain ⟨IE426, IS426, IB426, IAB426, IAK426, IEB426, IEK426, IO426, IaB426, IaK426, IBK426⟩ := hL426
      have f435 : Arv Z T426.heap K346 _ .int (16 : Int32) [(.int p0), (.int p2), (.int (p0 ^^^ (-1 : Int32))), (.int (p1 ^^^ (-1 : Int32))), (.int (0 : Int32)), (.int (0 : Int32)), (.int (0 : Int32)), (.int (0 : Int32)), (.int (0 : Int32)), (.int (0 : Int32)), (.int (0 : Int32)), (.int (0 : Int32)), (.int (0 : Int32)), (.int (0 : Int32)), (.int (0 : Int32)), (.int (0 : Int32))] (.int (0 : Int32)) := IAK426
      refine OwnK.aload X426 hx (hb hby at_117) (pc' := 119) rfl (v := (.ref a339)) rfl rfl ?_
      refine OwnK.callV_ X426 hx hZ hown (y := (⟨"com/example/strict_reach/strictreach/IntList", "size", "()I"⟩ : MethodName)) (z := (⟨"com/example/strict_reach/strictreach/IntList", "size", "()I"⟩ : MethodName)) (a := a339) (hw _ (List.mem_of_getElem? (i := 41) rfl)) (hw _ (List.mem_of_getElem? (i := 42) rfl)) (notFace_of_selects (args := #[]) (mvT hZ (hw _ (List.mem_of_getElem? (i := 44) rfl)))) (hw _ (List.mem_of_getElem? (i := 44) rfl)) (hw _ (List.mem_of_getElem? (i := 43) rfl)) (hw _ (List.mem_of_getElem? (i := 45) rfl)) (hw _ (List.mem_of_getElem? (i := 3) rfl)) (by decide) IE426 (own_met8 l Z a0 hw T426.heap a339 B346 K346 _ _ (4 : Int32) (16 : Int32) _ ⟨IE426, IS426, IB426, IAB426, f435, IEB426, IEK426, IO426, IaB426, IaK426, IBK426⟩ ) (by decide) (W := 0) (by decide) rfl (by rw [hml]; rfl) own_pd_0 (argsL := []) rfl (S := []) rfl (Nat.le_of_eq rfl) (hb hby at_119) (pc' := 122) rfl (by decide) (by decide) (fun T436 v436 L436 X436 hQ436 => ?_)
      obtain ⟨rfl, e436, rfl⟩ := hQ436
      have N437 := Fr.app N427 (Fr.nil n0)
      refine OwnK.iload X436 hx (hb hby at_122) (pc' := 124) rfl (v := (4 : Int32)) rfl ?_
      refine OwnK.icmp_ne X436 hx (hb hby at_124) (by decide) (pcT := 131) (by decide) (pc' := 127) rfl (fun (hc124 : ¬ 4 = 4) => absurd hc124 (by decide)) (fun hc124 => ?_)
      refine OwnK.iconst X436 hx (hb hby at_127) (pc' := 128) rfl (v := (1 : Int32)) (by decide) ?_
      refine OwnK.goto_ X436 hx (hb hby at_128) (by decide) (pc' := 132) (by decide) ?_
      refine OwnK.istore X436 hx (hb hby at_132) (pc' := 134) rfl (Ls' := #[.val (.int p0), .val (.int p1), .val (.int p2), .val (.int p3), .val (.int p4), .val (.int (4 : Int32)), .val (.ref a316), .val (.ref a339), .val (.int (1 : Int32)), .val (.int (1 : Int32))]) rfl ?_
      refine OwnK.iload X436 hx (hb hby at_134) (pc' := 136) rfl (v := (1 : Int32)) rfl ?_
      refine OwnK.if_eq X436 hx (hb hby at_136) (by decide) (pcT := 161) (by decide) (pc' := 139) rfl (fun (hc136 : 1 = 0) => absurd hc136 (by decide)) (fun hc136 => ?_)
      refine OwnK.aload X436 hx (hb hby at_139) (pc' := 141) rfl (v := (.ref a339)) rfl rfl ?_
      refine OwnK.iconst X436 hx (hb hby at_141) (pc' := 142) rfl (v := (0 : Int32)) (by decide) ?_
      refine OwnK.callV_ X436 hx hZ hown (y := (⟨"com/example/strict_reach/strictreach/IntList", "get", "(I)I"⟩ : MethodName)) (z := (⟨"com/example/strict_reach/strictreach/IntList", "get", "(I)I"⟩ : MethodName)) (a := a339) (hw _ (List.mem_of_getElem? (i := 46) rfl)) (hw _ (List.mem_of_getElem? (i := 47) rfl)) (notFace_of_selects (args := #[]) (mvT hZ (hw _ (List.mem_of_getElem? (i := 49) rfl)))) (hw _ (List.mem_of_getElem? (i := 49) rfl)) (hw _ (List.mem_of_getElem? (i := 48) rfl)) (hw _ (List.mem_of_getElem? (i := 50) rfl)) (hw _ (List.mem_of_getElem? (i := 3) rfl)) (by decide) IE426 (own_met9 l Z a0 hw T426.heap a339 (0 : Int32) B346 K346 _ _ (4 : Int32) (16 : Int32) _ 0 p0 ⟨IE426, IS426, IB426, IAB426, f435, IEB426, IEK426, IO426, IaB426, IaK426, IBK426⟩ (by decide) (by decide) rfl ) (by decide) (W := 0) (by decide) e436 (by rw [hml]; rfl) own_pd_3 (argsL := [(.int (0 : Int32))]) rfl (S := []) rfl (Nat.le_of_eq rfl) (hb hby at_142) (pc' := 145) rfl (by decide) (by decide) (fun T438 v438 L438 X438 hQ438 => ?_)
      obtain ⟨rfl, e438, rfl⟩ := hQ438
      have N439 := Fr.app N437 (Fr.nil n0)
      refine OwnK.iconst X438 hx (hb hby at_145) (pc' := 146) rfl (v := (0 : Int32)) (by decide) ?_
      refine OwnK.iload X438 hx (hb hby at_146) (pc' := 148) rfl (v := (1 : Int32)) rfl ?_
      refine OwnK.iloadN X438 hx (hb hby at_148) (pc' := 149) rfl (v := p2) rfl ?_
      refine OwnK.aload X438 hx (hb hby at_149) (pc' := 151) rfl (v := (.ref a316)) rfl rfl ?_
      refine OwnK.callS_ X438 hx hZ hown (y := (⟨"com/example/strict_reach/strictreach/IntListSetPinLaw", "expect", "(III[I)I"⟩ : MethodName)) (hw _ (List.mem_of_getElem? (i := 51) rfl)) (hw _ (List.mem_of_getElem? (i := 52) rfl)) (hw _ (List.mem_of_getElem? (i := 53) rfl)) (hw _ (List.mem_of_getElem? (i := 54) rfl)) (by decide) (own_met10 l Z a0 hw T426.heap (0 : Int32) (1 : Int32) p2 a316 _ _ p0 0 f428 (by decide) (by decide) rfl ) (by decide) (W := 1) (by decide) e438 (by rw [hml]; rfl) own_pd_7 (argsL := [(.int (0 : Int32)), (.int (1 : Int32)), (.int p2), (.ref a316)]) rfl (S := [(.int p0)]) rfl (Nat.le_of_eq rfl) (hb hby at_151) (pc' := 154) rfl (by decide) (by decide) (fun T440 v440 L440 X440 hQ440 => ?_)
      obtain ⟨hv440, e440, rfl⟩ := hQ440
      obtain rfl : v440 = some (.int p0) := hv440.trans (by first | rw [if_pos (by decide)] | rw [if_neg (by decide)])
      have N441 := Fr.app N439 (Fr.nil n0)
      refine OwnK.icmp_ne X440 hx (hb hby at_154) (by decide) (pcT := 161) (by decide) (pc' := 157) rfl (fun (hc154 : ¬ p0.toInt = p0.toInt) => absurd rfl hc154) (fun hc154 => ?_)
      refine OwnK.iconst X440 hx (hb hby at_157) (pc' := 158) rfl (v := (1 : Int32)) (by decide) ?_
      refine OwnK.goto_ X440 hx (hb hby at_158) (by decide) (pc' := 162) (by decide) ?_
      refine OwnK.istore X440 hx (hb hby at_162) (pc' := 164) rfl (Ls' := #[.val (.int p0), .val (.int p1), .val (.int p2), .val (.int p3), .val (.int p4), .val (.int (4 : Int32)), .val (.ref a316), .val (.ref a339), .val (.int (1 : Int32)), .val (.int (1 : Int32))]) rfl ?_
      refine OwnK.iload X440 hx (hb hby at_164) (pc' := 166) rfl (v := (4 : Int32)) rfl ?_
      refine OwnK.iconst X440 hx (hb hby at_166) (pc' := 167) rfl (v := (1 : Int32)) (by decide) ?_
      refine OwnK.icmp_le X440 hx (hb hby at_167) (by decide) (pcT := 200) (by decide) (pc' := 170) rfl (fun (hc167 : 4 ≤ 1) => absurd hc167 (by decide)) (fun hc167 => ?_)
      refine OwnK.iload X440 hx (hb hby at_170) (pc' := 172) rfl (v := (1 : Int32)) rfl ?_
      refine OwnK.if_eq X440 hx (hb hby at_172) (by decide) (pcT := 197) (by decide) (pc' := 175) rfl (fun (hc172 : 1 = 0) => absurd hc172 (by decide)) (fun hc172 => ?_)
      refine OwnK.aload X440 hx (hb hby at_175) (pc' := 177) rfl (v := (.ref a339)) rfl rfl ?_
      refine OwnK.iconst X440 hx (hb hby at_177) (pc' := 178) rfl (v := (1 : Int32)) (by decide) ?_
      refine OwnK.callV_ X440 hx hZ hown (y := (⟨"com/example/strict_reach/strictreach/IntList", "get", "(I)I"⟩ : MethodName)) (z := (⟨"com/example/strict_reach/strictreach/IntList", "get", "(I)I"⟩ : MethodName)) (a := a339) (hw _ (List.mem_of_getElem? (i := 46) rfl)) (hw _ (List.mem_of_getElem? (i := 47) rfl)) (notFace_of_selects (args := #[]) (mvT hZ (hw _ (List.mem_of_getElem? (i := 49) rfl)))) (hw _ (List.mem_of_getElem? (i := 49) rfl)) (hw _ (List.mem_of_getElem? (i := 48) rfl)) (hw _ (List.mem_of_getElem? (i := 50) rfl)) (hw _ (List.mem_of_getElem? (i := 3) rfl)) (by decide) IE426 (own_met9 l Z a0 hw T426.heap a339 (1 : Int32) B346 K346 _ _ (4 : Int32) (16 : Int32) _ 1 p2 ⟨IE426, IS426, IB426, IAB426, f435, IEB426, IEK426, IO426, IaB426, IaK426, IBK426⟩ (by decide) (by decide) rfl ) (by decide) (W := 0) (by decide) e440 (by rw [hml]; rfl) own_pd_3 (argsL := [(.int (1 : Int32))]) rfl (S := []) rfl (Nat.le_of_eq rfl) (hb hby at_178) (pc' := 181) rfl (by decide) (by decide) (fun T442 v442 L442 X442 hQ442 => ?_)
      obtain ⟨rfl, e442, rfl⟩ := hQ442
      have N443 := Fr.app N441 (Fr.nil n0)
      refine OwnK.iconst X442 hx (hb hby at_181) (pc' := 182) rfl (v := (1 : Int32)) (by decide) ?_
      refine OwnK.iload X442 hx (hb hby at_182) (pc' := 184) rfl (v := (1 : Int32)) rfl ?_
      refine OwnK.iloadN X442 hx (hb hby at_184) (pc' := 185) rfl (v := p2) rfl ?_
      refine OwnK.aload X442 hx (hb hby at_185) (pc' := 187) rfl (v := (.ref a316)) rfl rfl ?_
      refine OwnK.callS_ X442 hx hZ hown (y := (⟨"com/example/strict_reach/strictreach/IntListSetPinLaw", "expect", "(III[I)I"⟩ : MethodName)) (hw _ (List.mem_of_getElem? (i := 51) rfl)) (hw _ (List.mem_of_getElem? (i := 52) rfl)) (hw _ (List.mem_of_getElem? (i := 53) rfl)) (hw _ (List.mem_of_getElem? (i := 54) rfl)) (by decide) (own_met10 l Z a0 hw T426.heap (1 : Int32) (1 : Int32) p2 a316 _ _ p1 1 f428 (by decide) (by decide) rfl ) (by decide) (W := 1) (by decide) e442 (by rw [hml]; rfl) own_pd_7 (argsL := [(.int (1 : Int32)), (.int (1 : Int32)), (.int p2), (.ref a316)]) rfl (S := [(.int p2)]) rfl (Nat.le_of_eq rfl) (hb hby at_187) (pc' := 190) rfl (by decide) (by decide) (fun T444 v444 L444 X444 hQ444 => ?_)
      obtain ⟨hv444, e444, rfl⟩ := hQ444
      obtain rfl : v444 = some (.int p2) := hv444.trans (by first | rw [if_pos (by decide)] | rw [if_neg (by decide)])
      have N445 := Fr.app N443 (Fr.nil n0)
      refine OwnK.icmp_ne X444 hx (hb hby at_190) (by decide) (pcT := 197) (by decide) (pc' := 193) rfl (fun (hc190 : ¬ p2.toInt = p2.toInt) => absurd rfl hc190) (fun hc190 => ?_)
      refine OwnK.iconst X444 hx (hb hby at_193) (pc' := 194) rfl (v := (1 : Int32)) (by decide) ?_
      refine OwnK.goto_ X444 hx (hb hby at_194) (by decide) (pc' := 198) (by decide) ?_
      refine OwnK.istore X444 hx (hb hby at_198) (pc' := 200) rfl (Ls' := #[.val (.int p0), .val (.int p1), .val (.int p2), .val (.int p3), .val (.int p4), .val (.int (4 : Int32)), .val (.ref a316), .val (.ref a339), .val (.int (1 : Int32)), .val (.int (1 : Int32))]) rfl ?_
      refine OwnK.iload X444 hx (hb hby at_200) (pc' := 202) rfl (v := (4 : Int32)) rfl ?_
      refine OwnK.iconst X444 hx (hb hby at_202) (pc' := 203) rfl (v := (2 : Int32)) (by decide) ?_
      refine OwnK.icmp_le X444 hx (hb hby at_203) (by decide) (pcT := 236) (by decide) (pc' := 206) rfl (fun (hc203 : 4 ≤ 2) => absurd hc203 (by decide)) (fun hc203 => ?_)
      refine OwnK.iload X444 hx (hb hby at_206) (pc' := 208) rfl (v := (1 : Int32)) rfl ?_
      refine OwnK.if_eq X444 hx (hb hby at_208) (by decide) (pcT := 233) (by decide) (pc' := 211) rfl (fun (hc208 : 1 = 0) => absurd hc208 (by decide)) (fun hc208 => ?_)
      refine OwnK.aload X444 hx (hb hby at_211) (pc' := 213) rfl (v := (.ref a339)) rfl rfl ?_
      refine OwnK.iconst X444 hx (hb hby at_213) (pc' := 214) rfl (v := (2 : Int32)) (by decide) ?_
      refine OwnK.callV_ X444 hx hZ hown (y := (⟨"com/example/strict_reach/strictreach/IntList", "get", "(I)I"⟩ : MethodName)) (z := (⟨"com/example/strict_reach/strictreach/IntList", "get", "(I)I"⟩ : MethodName)) (a := a339) (hw _ (List.mem_of_getElem? (i := 46) rfl)) (hw _ (List.mem_of_getElem? (i := 47) rfl)) (notFace_of_selects (args := #[]) (mvT hZ (hw _ (List.mem_of_getElem? (i := 49) rfl)))) (hw _ (List.mem_of_getElem? (i := 49) rfl)) (hw _ (List.mem_of_getElem? (i := 48) rfl)) (hw _ (List.mem_of_getElem? (i := 50) rfl)) (hw _ (List.mem_of_getElem? (i := 3) rfl)) (by decide) IE426 (own_met9 l Z a0 hw T426.heap a339 (2 : Int32) B346 K346 _ _ (4 : Int32) (16 : Int32) _ 2 (p0 ^^^ (-1 : Int32)) ⟨IE426, IS426, IB426, IAB426, f435, IEB426, IEK426, IO426, IaB426, IaK426, IBK426⟩ (by decide) (by decide) rfl ) (by decide) (W := 0) (by decide) e444 (by rw [hml]; rfl) own_pd_3 (argsL := [(.int (2 : Int32))]) rfl (S := []) rfl (Nat.le_of_eq rfl) (hb hby at_214) (pc' := 217) rfl (by decide) (by decide) (fun T446 v446 L446 X446 hQ446 => ?_)
      obtain ⟨rfl, e446, rfl⟩ := hQ446
      have N447 := Fr.app N445 (Fr.nil n0)
      refine OwnK.iconst X446 hx (hb hby at_217) (pc' := 218) rfl (v := (2 : Int32)) (by decide) ?_
      refine OwnK.iload X446 hx (hb hby at_218) (pc' := 220) rfl (v := (1 : Int32)) rfl ?_
      refine OwnK.iloadN X446 hx (hb hby at_220) (pc' := 221) rfl (v := p2) rfl ?_
      refine OwnK.aload X446 hx (hb hby at_221) (pc' := 223) rfl (v := (.ref a316)) rfl rfl ?_
      refine OwnK.callS_ X446 hx hZ hown (y := (⟨"com/example/strict_reach/strictreach/IntListSetPinLaw", "expect", "(III[I)I"⟩ : MethodName)) (hw _ (List.mem_of_getElem? (i := 51) rfl)) (hw _ (List.mem_of_getElem? (i := 52) rfl)) (hw _ (List.mem_of_getElem? (i := 53) rfl)) (hw _ (List.mem_of_getElem? (i := 54) rfl)) (by decide) (own_met10 l Z a0 hw T426.heap (2 : Int32) (1 : Int32) p2 a316 _ _ (p0 ^^^ (-1 : Int32)) 2 f428 (by decide) (by decide) rfl ) (by decide) (W := 1) (by decide) e446 (by rw [hml]; rfl) own_pd_7 (argsL := [(.int (2 : Int32)), (.int (1 : Int32)), (.int p2), (.ref a316)]) rfl (S := [(.int (p0 ^^^ (-1 : Int32)))]) rfl (Nat.le_of_eq rfl) (hb hby at_223) (pc' := 226) rfl (by decide) (by decide) (fun T448 v448 L448 X448 hQ448 => ?_)
      obtain ⟨hv448, e448, rfl⟩ := hQ448
      obtain rfl : v448 = some (.int (p0 ^^^ (-1 : Int32))) := hv448.trans (by first | rw [if_pos (by decide)] | rw [if_neg (by decide)])
      have N449 := Fr.app N447 (Fr.nil n0)
      refine OwnK.icmp_ne X448 hx (hb hby at_226) (by decide) (pcT := 233) (by decide) (pc' := 229) rfl (fun (hc226 : ¬ (p0 ^^^ (-1 : Int32)).toInt = (p0 ^^^ (-1 : Int32)).toInt) => absurd rfl hc226) (fun hc226 => ?_)
      refine OwnK.iconst X448 hx (hb hby at_229) (pc' := 230) rfl (v := (1 : Int32)) (by decide) ?_
      refine OwnK.goto_ X448 hx (hb hby at_230) (by decide) (pc' := 234) (by decide) ?_
      refine OwnK.istore X448 hx (hb hby at_234) (pc' := 236) rfl (Ls' := #[.val (.int p0), .val (.int p1), .val (.int p2), .val (.int p3), .val (.int p4), .val (.int (4 : Int32)), .val (.ref a316), .val (.ref a339), .val (.int (1 : Int32)), .val (.int (1 : Int32))]) rfl ?_
      refine OwnK.iload X448 hx (hb hby at_236) (pc' := 238) rfl (v := (4 : Int32)) rfl ?_
      refine OwnK.iconst X448 hx (hb hby at_238) (pc' := 239) rfl (v := (3 : Int32)) (by decide) ?_
      refine OwnK.icmp_le X448 hx (hb hby at_239) (by decide) (pcT := 272) (by decide) (pc' := 242) rfl (fun (hc239 : 4 ≤ 3) => absurd hc239 (by decide)) (fun hc239 => ?_)
      refine OwnK.iload X448 hx (hb hby at_242) (pc' := 244) rfl (v := (1 : Int32)) rfl ?_
      refine OwnK.if_eq X448 hx (hb hby at_244) (by decide) (pcT := 269) (by decide) (pc' := 247) rfl (fun (hc244 : 1 = 0) => absurd hc244 (by decide)) (fun hc244 => ?_)
      refine OwnK.aload X448 hx (hb hby at_247) (pc' := 249) rfl (v := (.ref a339)) rfl rfl ?_
      refine OwnK.iconst X448 hx (hb hby at_249) (pc' := 250) rfl (v := (3 : Int32)) (by decide) ?_
      refine OwnK.callV_ X448 hx hZ hown (y := (⟨"com/example/strict_reach/strictreach/IntList", "get", "(I)I"⟩ : MethodName)) (z := (⟨"com/example/strict_reach/strictreach/IntList", "get", "(I)I"⟩ : MethodName)) (a := a339) (hw _ (List.mem_of_getElem? (i := 46) rfl)) (hw _ (List.mem_of_getElem? (i := 47) rfl)) (notFace_of_selects (args := #[]) (mvT hZ (hw _ (List.mem_of_getElem? (i := 49) rfl)))) (hw _ (List.mem_of_getElem? (i := 49) rfl)) (hw _ (List.mem_of_getElem? (i := 48) rfl)) (hw _ (List.mem_of_getElem? (i := 50) rfl)) (hw _ (List.mem_of_getElem? (i := 3) rfl)) (by decide) IE426 (own_met9 l Z a0 hw T426.heap a339 (3 : Int32) B346 K346 _ _ (4 : Int32) (16 : Int32) _ 3 (p1 ^^^ (-1 : Int32)) ⟨IE426, IS426, IB426, IAB426, f435, IEB426, IEK426, IO426, IaB426, IaK426, IBK426⟩ (by decide) (by decide) rfl ) (by decide) (W := 0) (by decide) e448 (by rw [hml]; rfl) own_pd_3 (argsL := [(.int (3 : Int32))]) rfl (S := []) rfl (Nat.le_of_eq rfl) (hb hby at_250) (pc' := 253) rfl (by decide) (by decide) (fun T450 v450 L450 X450 hQ450 => ?_)
      obtain ⟨rfl, e450, rfl⟩ := hQ450
      have N451 := Fr.app N449 (Fr.nil n0)
      refine OwnK.iconst X450 hx (hb hby at_253) (pc' := 254) rfl (v := (3 : Int32)) (by decide) ?_
      refine OwnK.iload X450 hx (hb hby at_254) (pc' := 256) rfl (v := (1 : Int32)) rfl ?_
      refine OwnK.iloadN X450 hx (hb hby at_256) (pc' := 257) rfl (v := p2) rfl ?_
      refine OwnK.aload X450 hx (hb hby at_257) (pc' := 259) rfl (v := (.ref a316)) rfl rfl ?_
      refine OwnK.callS_ X450 hx hZ hown (y := (⟨"com/example/strict_reach/strictreach/IntListSetPinLaw", "expect", "(III[I)I"⟩ : MethodName)) (hw _ (List.mem_of_getElem? (i := 51) rfl)) (hw _ (List.mem_of_getElem? (i := 52) rfl)) (hw _ (List.mem_of_getElem? (i := 53) rfl)) (hw _ (List.mem_of_getElem? (i := 54) rfl)) (by decide) (own_met10 l Z a0 hw T426.heap (3 : Int32) (1 : Int32) p2 a316 _ _ (p1 ^^^ (-1 : Int32)) 3 f428 (by decide) (by decide) rfl ) (by decide) (W := 1) (by decide) e450 (by rw [hml]; rfl) own_pd_7 (argsL := [(.int (3 : Int32)), (.int (1 : Int32)), (.int p2), (.ref a316)]) rfl (S := [(.int (p1 ^^^ (-1 : Int32)))]) rfl (Nat.le_of_eq rfl) (hb hby at_259) (pc' := 262) rfl (by decide) (by decide) (fun T452 v452 L452 X452 hQ452 => ?_)
      obtain ⟨hv452, e452, rfl⟩ := hQ452
      obtain rfl : v452 = some (.int (p1 ^^^ (-1 : Int32))) := hv452.trans (by first | rw [if_pos (by decide)] | rw [if_neg (by decide)])
      have N453 := Fr.app N451 (Fr.nil n0)
      refine OwnK.icmp_ne X452 hx (hb hby at_262) (by decide) (pcT := 269) (by decide) (pc' := 265) rfl (fun (hc262 : ¬ (p1 ^^^ (-1 : Int32)).toInt = (p1 ^^^ (-1 : Int32)).toInt) => absurd rfl hc262) (fun hc262 => ?_)
      refine OwnK.iconst X452 hx (hb hby at_265) (pc' := 266) rfl (v := (1 : Int32)) (by decide) ?_
      refine OwnK.goto_ X452 hx (hb hby at_266) (by decide) (pc' := 270) (by decide) ?_
      refine OwnK.istore X452 hx (hb hby at_270) (pc' := 272) rfl (Ls' := #[.val (.int p0), .val (.int p1), .val (.int p2), .val (.int p3), .val (.int p4), .val (.int (4 : Int32)), .val (.ref a316), .val (.ref a339), .val (.int (1 : Int32)), .val (.int (1 : Int32))]) rfl ?_
      refine OwnK.iload X452 hx (hb hby at_272) (pc' := 274) rfl (v := (1 : Int32)) rfl ?_
      refine OwnK.retN_ X452 hx hret (by simp) hlk (hb hby at_274) (by decide) (by decide) ?_
      exact ⟨rfl, N453⟩
    · refine OwnK.aload X387 hx (hb hby at_109) (pc' := 111) rfl (v := (.ref a339)) rfl rfl ?_
      refine OwnK.iload X387 hx (hb hby at_111) (pc' := 113) rfl (v := (2 : Int32)) rfl ?_
      refine OwnK.iloadN X387 hx (hb hby at_113) (pc' := 114) rfl (v := p2) rfl ?_
      refine OwnK.callV_ X387 hx hZ hown (y := (⟨"com/example/strict_reach/strictreach/IntList", "set", "(II)V"⟩ : MethodName)) (z := (⟨"com/example/strict_reach/strictreach/IntList", "set", "(II)V"⟩ : MethodName)) (a := a339) (hw _ (List.mem_of_getElem? (i := 28) rfl)) (hw _ (List.mem_of_getElem? (i := 29) rfl)) (notFace_of_selects (args := #[]) (mvT hZ (hw _ (List.mem_of_getElem? (i := 31) rfl)))) (hw _ (List.mem_of_getElem? (i := 31) rfl)) (hw _ (List.mem_of_getElem? (i := 30) rfl)) (hw _ (List.mem_of_getElem? (i := 32) rfl)) (hw _ (List.mem_of_getElem? (i := 3) rfl)) (by decide) IE387 (own_met5 l Z a0 hw T387.heap n0 z395 a339 (2 : Int32) p2 B346 K346 _ _ (4 : Int32) (16 : Int32) _ 2  ge_a339 ⟨IE387, IS387, IB387, IAB387, f396, IEB387, IEK387, IO387, IaB387, IaK387, IBK387⟩ ge_K346 (by decide) (by decide) (Nat.le_of_ble_eq_true rfl) ) (by decide) (W := 0) (by decide) rfl (by rw [hml]; rfl) own_pd_6 (argsL := [(.int (2 : Int32)), (.int p2)]) rfl (S := []) rfl (Nat.le_of_eq rfl) (hb hby at_114) (pc' := 117) rfl (by decide) (by decide) (fun T454 v454 L454 X454 hQ454 => ?_)
      obtain ⟨rfl, N454q, Kp454, hL454⟩ := hQ454
      have N455 := Fr.app N388 N454q
      have f456 := f389.keep Kp454 (ninS q340 (ninS q350 nin0))
      have f457 := f390.keep Kp454
      have f458 := IE387.keep Kp454
      have f459 := IAB387.keep Kp454 (ninS (Ne.symm IaB387) (ninS IBK387 nin0))
      have f460 := IEB387.keep Kp454
      have f461 := IEK387.keep Kp454
      have z462 : n0 ≤ T454.heap.size := Nat.le_trans z395 Kp454.1
      obtain ⟨IE454, IS454, IB454, IAB454, IAK454, IEB454, IEK454, IO454, IaB454, IaK454, IBK454⟩ := hL454
      have f463 : Arv Z T454.heap K346 _ .int (16 : Int32) [(.int p0), (.int p1), (.int p2), (.int (p1 ^^^ (-1 : Int32))), (.int (0 : Int32)), (.int (0 : Int32)), (.int (0 : Int32)), (.int (0 : Int32)), (.int (0 : Int32)), (.int (0 : Int32)), (.int (0 : Int32)), (.int (0 : Int32)), (.int (0 : Int32)), (.int (0 : Int32)), (.int (0 : Int32)), (.int (0 : Int32))] (.int (0 : Int32)) := IAK454
      refine OwnK.aload X454 hx (hb hby at_117) (pc' := 119) rfl (v := (.ref a339)) rfl rfl ?_
      refine OwnK.callV_ X454 hx hZ hown (y := (⟨"com/example/strict_reach/strictreach/IntList", "size", "()I"⟩ : MethodName)) (z := (⟨"com/example/strict_reach/strictreach/IntList", "size", "()I"⟩ : MethodName)) (a := a339) (hw _ (List.mem_of_getElem? (i := 41) rfl)) (hw _ (List.mem_of_getElem? (i := 42) rfl)) (notFace_of_selects (args := #[]) (mvT hZ (hw _ (List.mem_of_getElem? (i := 44) rfl)))) (hw _ (List.mem_of_getElem? (i := 44) rfl)) (hw _ (List.mem_of_getElem? (i := 43) rfl)) (hw _ (List.mem_of_getElem? (i := 45) rfl)) (hw _ (List.mem_of_getElem? (i := 3) rfl)) (by decide) IE454 (own_met8 l Z a0 hw T454.heap a339 B346 K346 _ _ (4 : Int32) (16 : Int32) _ ⟨IE454, IS454, IB454, IAB454, f463, IEB454, IEK454, IO454, IaB454, IaK454, IBK454⟩ ) (by decide) (W := 0) (by decide) rfl (by rw [hml]; rfl) own_pd_0 (argsL := []) rfl (S := []) rfl (Nat.le_of_eq rfl) (hb hby at_119) (pc' := 122) rfl (by decide) (by decide) (fun T464 v464 L464 X464 hQ464 => ?_)
      obtain ⟨rfl, e464, rfl⟩ := hQ464
      have N465 := Fr.app N455 (Fr.nil n0)
      refine OwnK.iload X464 hx (hb hby at_122) (pc' := 124) rfl (v := (4 : Int32)) rfl ?_
      refine OwnK.icmp_ne X464 hx (hb hby at_124) (by decide) (pcT := 131) (by decide) (pc' := 127) rfl (fun (hc124 : ¬ 4 = 4) => absurd hc124 (by decide)) (fun hc124 => ?_)
      refine OwnK.iconst X464 hx (hb hby at_127) (pc' := 128) rfl (v := (1 : Int32)) (by decide) ?_
      refine OwnK.goto_ X464 hx (hb hby at_128) (by decide) (pc' := 132) (by decide) ?_
      refine OwnK.istore X464 hx (hb hby at_132) (pc' := 134) rfl (Ls' := #[.val (.int p0), .val (.int p1), .val (.int p2), .val (.int p3), .val (.int p4), .val (.int (4 : Int32)), .val (.ref a316), .val (.ref a339), .val (.int (2 : Int32)), .val (.int (1 : Int32))]) rfl ?_
      refine OwnK.iload X464 hx (hb hby at_134) (pc' := 136) rfl (v := (1 : Int32)) rfl ?_
      refine OwnK.if_eq X464 hx (hb hby at_136) (by decide) (pcT := 161) (by decide) (pc' := 139) rfl (fun (hc136 : 1 = 0) => absurd hc136 (by decide)) (fun hc136 => ?_)
      refine OwnK.aload X464 hx (hb hby at_139) (pc' := 141) rfl (v := (.ref a339)) rfl rfl ?_
      refine OwnK.iconst X464 hx (hb hby at_141) (pc' := 142) rfl (v := (0 : Int32)) (by decide) ?_
      refine OwnK.callV_ X464 hx hZ hown (y := (⟨"com/example/strict_reach/strictreach/IntList", "get", "(I)I"⟩ : MethodName)) (z := (⟨"com/example/strict_reach/strictreach/IntList", "get", "(I)I"⟩ : MethodName)) (a := a339) (hw _ (List.mem_of_getElem? (i := 46) rfl)) (hw _ (List.mem_of_getElem? (i := 47) rfl)) (notFace_of_selects (args := #[]) (mvT hZ (hw _ (List.mem_of_getElem? (i := 49) rfl)))) (hw _ (List.mem_of_getElem? (i := 49) rfl)) (hw _ (List.mem_of_getElem? (i := 48) rfl)) (hw _ (List.mem_of_getElem? (i := 50) rfl)) (hw _ (List.mem_of_getElem? (i := 3) rfl)) (by decide) IE454 (own_met9 l Z a0 hw T454.heap a339 (0 : Int32) B346 K346 _ _ (4 : Int32) (16 : Int32) _ 0 p0 ⟨IE454, IS454, IB454, IAB454, f463, IEB454, IEK454, IO454, IaB454, IaK454, IBK454⟩ (by decide) (by decide) rfl ) (by decide) (W := 0) (by decide) e464 (by rw [hml]; rfl) own_pd_3 (argsL := [(.int (0 : Int32))]) rfl (S := []) rfl (Nat.le_of_eq rfl) (hb hby at_142) (pc' := 145) rfl (by decide) (by decide) (fun T466 v466 L466 X466 hQ466 => ?_)
      obtain ⟨rfl, e466, rfl⟩ := hQ466
      have N467 := Fr.app N465 (Fr.nil n0)
      refine OwnK.iconst X466 hx (hb hby at_145) (pc' := 146) rfl (v := (0 : Int32)) (by decide) ?_
      refine OwnK.iload X466 hx (hb hby at_146) (pc' := 148) rfl (v := (2 : Int32)) rfl ?_
      refine OwnK.iloadN X466 hx (hb hby at_148) (pc' := 149) rfl (v := p2) rfl ?_
      refine OwnK.aload X466 hx (hb hby at_149) (pc' := 151) rfl (v := (.ref a316)) rfl rfl ?_
      refine OwnK.callS_ X466 hx hZ hown (y := (⟨"com/example/strict_reach/strictreach/IntListSetPinLaw", "expect", "(III[I)I"⟩ : MethodName)) (hw _ (List.mem_of_getElem? (i := 51) rfl)) (hw _ (List.mem_of_getElem? (i := 52) rfl)) (hw _ (List.mem_of_getElem? (i := 53) rfl)) (hw _ (List.mem_of_getElem? (i := 54) rfl)) (by decide) (own_met10 l Z a0 hw T454.heap (0 : Int32) (2 : Int32) p2 a316 _ _ p0 0 f456 (by decide) (by decide) rfl ) (by decide) (W := 1) (by decide) e466 (by rw [hml]; rfl) own_pd_7 (argsL := [(.int (0 : Int32)), (.int (2 : Int32)), (.int p2), (.ref a316)]) rfl (S := [(.int p0)]) rfl (Nat.le_of_eq rfl) (hb hby at_151) (pc' := 154) rfl (by decide) (by decide) (fun T468 v468 L468 X468 hQ468 => ?_)
      obtain ⟨hv468, e468, rfl⟩ := hQ468
      obtain rfl : v468 = some (.int p0) := hv468.trans (by first | rw [if_pos (by decide)] | rw [if_neg (by decide)])
      have N469 := Fr.app N467 (Fr.nil n0)
      refine OwnK.icmp_ne X468 hx (hb hby at_154) (by decide) (pcT := 161) (by decide) (pc' := 157) rfl (fun (hc154 : ¬ p0.toInt = p0.toInt) => absurd rfl hc154) (fun hc154 => ?_)
      refine OwnK.iconst X468 hx (hb hby at_157) (pc' := 158) rfl (v := (1 : Int32)) (by decide) ?_
      refine OwnK.goto_ X468 hx (hb hby at_158) (by decide) (pc' := 162) (by decide) ?_
      refine OwnK.istore X468 hx (hb hby at_162) (pc' := 164) rfl (Ls' := #[.val (.int p0), .val (.int p1), .val (.int p2), .val (.int p3), .val (.int p4), .val (.int (4 : Int32)), .val (.ref a316), .val (.ref a339), .val (.int (2 : Int32)), .val (.int (1 : Int32))]) rfl ?_
      refine OwnK.iload X468 hx (hb hby at_164) (pc' := 166) rfl (v := (4 : Int32)) rfl ?_
      refine OwnK.iconst X468 hx (hb hby at_166) (pc' := 167) rfl (v := (1 : Int32)) (by decide) ?_
      refine OwnK.icmp_le X468 hx (hb hby at_167) (by decide) (pcT := 200) (by decide) (pc' := 170) rfl (fun (hc167 : 4 ≤ 1) => absurd hc167 (by decide)) (fun hc167 => ?_)
      refine OwnK.iload X468 hx (hb hby at_170) (pc' := 172) rfl (v := (1 : Int32)) rfl ?_
      refine OwnK.if_eq X468 hx (hb hby at_172) (by decide) (pcT := 197) (by decide) (pc' := 175) rfl (fun (hc172 : 1 = 0) => absurd hc172 (by decide)) (fun hc172 => ?_)
      refine OwnK.aload X468 hx (hb hby at_175) (pc' := 177) rfl (v := (.ref a339)) rfl rfl ?_
      refine OwnK.iconst X468 hx (hb hby at_177) (pc' := 178) rfl (v := (1 : Int32)) (by decide) ?_
      refine OwnK.callV_ X468 hx hZ hown (y := (⟨"com/example/strict_reach/strictreach/IntList", "get", "(I)I"⟩ : MethodName)) (z := (⟨"com/example/strict_reach/strictreach/IntList", "get", "(I)I"⟩ : MethodName)) (a := a339) (hw _ (List.mem_of_getElem? (i := 46) rfl)) (hw _ (List.mem_of_getElem? (i := 47) rfl)) (notFace_of_selects (args := #[]) (mvT hZ (hw _ (List.mem_of_getElem? (i := 49) rfl)))) (hw _ (List.mem_of_getElem? (i := 49) rfl)) (hw _ (List.mem_of_getElem? (i := 48) rfl)) (hw _ (List.mem_of_getElem? (i := 50) rfl)) (hw _ (List.mem_of_getElem? (i := 3) rfl)) (by decide) IE454 (own_met9 l Z a0 hw T454.heap a339 (1 : Int32) B346 K346 _ _ (4 : Int32) (16 : Int32) _ 1 p1 ⟨IE454, IS454, IB454, IAB454, f463, IEB454, IEK454, IO454, IaB454, IaK454, IBK454⟩ (by decide) (by decide) rfl ) (by decide) (W := 0) (by decide) e468 (by rw [hml]; rfl) own_pd_3 (argsL := [(.int (1 : Int32))]) rfl (S := []) rfl (Nat.le_of_eq rfl) (hb hby at_178) (pc' := 181) rfl (by decide) (by decide) (fun T470 v470 L470 X470 hQ470 => ?_)
      obtain ⟨rfl, e470, rfl⟩ := hQ470
      have N471 := Fr.app N469 (Fr.nil n0)
      refine OwnK.iconst X470 hx (hb hby at_181) (pc' := 182) rfl (v := (1 : Int32)) (by decide) ?_
      refine OwnK.iload X470 hx (hb hby at_182) (pc' := 184) rfl (v := (2 : Int32)) rfl ?_
      refine OwnK.iloadN X470 hx (hb hby at_184) (pc' := 185) rfl (v := p2) rfl ?_
      refine OwnK.aload X470 hx (hb hby at_185) (pc' := 187) rfl (v := (.ref a316)) rfl rfl ?_
      refine OwnK.callS_ X470 hx hZ hown (y := (⟨"com/example/strict_reach/strictreach/IntListSetPinLaw", "expect", "(III[I)I"⟩ : MethodName)) (hw _ (List.mem_of_getElem? (i := 51) rfl)) (hw _ (List.mem_of_getElem? (i := 52) rfl)) (hw _ (List.mem_of_getElem? (i := 53) rfl)) (hw _ (List.mem_of_getElem? (i := 54) rfl)) (by decide) (own_met10 l Z a0 hw T454.heap (1 : Int32) (2 : Int32) p2 a316 _ _ p1 1 f456 (by decide) (by decide) rfl ) (by decide) (W := 1) (by decide) e470 (by rw [hml]; rfl) own_pd_7 (argsL := [(.int (1 : Int32)), (.int (2 : Int32)), (.int p2), (.ref a316)]) rfl (S := [(.int p1)]) rfl (Nat.le_of_eq rfl) (hb hby at_187) (pc' := 190) rfl (by decide) (by decide) (fun T472 v472 L472 X472 hQ472 => ?_)
      obtain ⟨hv472, e472, rfl⟩ := hQ472
      obtain rfl : v472 = some (.int p1) := hv472.trans (by first | rw [if_pos (by decide)] | rw [if_neg (by decide)])
      have N473 := Fr.app N471 (Fr.nil n0)
      refine OwnK.icmp_ne X472 hx (hb hby at_190) (by decide) (pcT := 197) (by decide) (pc' := 193) rfl (fun (hc190 : ¬ p1.toInt = p1.toInt) => absurd rfl hc190) (fun hc190 => ?_)
      refine OwnK.iconst X472 hx (hb hby at_193) (pc' := 194) rfl (v := (1 : Int32)) (by decide) ?_
      refine OwnK.goto_ X472 hx (hb hby at_194) (by decide) (pc' := 198) (by decide) ?_
      refine OwnK.istore X472 hx (hb hby at_198) (pc' := 200) rfl (Ls' := #[.val (.int p0), .val (.int p1), .val (.int p2), .val (.int p3), .val (.int p4), .val (.int (4 : Int32)), .val (.ref a316), .val (.ref a339), .val (.int (2 : Int32)), .val (.int (1 : Int32))]) rfl ?_
      refine OwnK.iload X472 hx (hb hby at_200) (pc' := 202) rfl (v := (4 : Int32)) rfl ?_
      refine OwnK.iconst X472 hx (hb hby at_202) (pc' := 203) rfl (v := (2 : Int32)) (by decide) ?_
      refine OwnK.icmp_le X472 hx (hb hby at_203) (by decide) (pcT := 236) (by decide) (pc' := 206) rfl (fun (hc203 : 4 ≤ 2) => absurd hc203 (by decide)) (fun hc203 => ?_)
      refine OwnK.iload X472 hx (hb hby at_206) (pc' := 208) rfl (v := (1 : Int32)) rfl ?_
      refine OwnK.if_eq X472 hx (hb hby at_208) (by decide) (pcT := 233) (by decide) (pc' := 211) rfl (fun (hc208 : 1 = 0) => absurd hc208 (by decide)) (fun hc208 => ?_)
      refine OwnK.aload X472 hx (hb hby at_211) (pc' := 213) rfl (v := (.ref a339)) rfl rfl ?_
      refine OwnK.iconst X472 hx (hb hby at_213) (pc' := 214) rfl (v := (2 : Int32)) (by decide) ?_
      refine OwnK.callV_ X472 hx hZ hown (y := (⟨"com/example/strict_reach/strictreach/IntList", "get", "(I)I"⟩ : MethodName)) (z := (⟨"com/example/strict_reach/strictreach/IntList", "get", "(I)I"⟩ : MethodName)) (a := a339) (hw _ (List.mem_of_getElem? (i := 46) rfl)) (hw _ (List.mem_of_getElem? (i := 47) rfl)) (notFace_of_selects (args := #[]) (mvT hZ (hw _ (List.mem_of_getElem? (i := 49) rfl)))) (hw _ (List.mem_of_getElem? (i := 49) rfl)) (hw _ (List.mem_of_getElem? (i := 48) rfl)) (hw _ (List.mem_of_getElem? (i := 50) rfl)) (hw _ (List.mem_of_getElem? (i := 3) rfl)) (by decide) IE454 (own_met9 l Z a0 hw T454.heap a339 (2 : Int32) B346 K346 _ _ (4 : Int32) (16 : Int32) _ 2 p2 ⟨IE454, IS454, IB454, IAB454, f463, IEB454, IEK454, IO454, IaB454, IaK454, IBK454⟩ (by decide) (by decide) rfl ) (by decide) (W := 0) (by decide) e472 (by rw [hml]; rfl) own_pd_3 (argsL := [(.int (2 : Int32))]) rfl (S := []) rfl (Nat.le_of_eq rfl) (hb hby at_214) (pc' := 217) rfl (by decide) (by decide) (fun T474 v474 L474 X474 hQ474 => ?_)
      obtain ⟨rfl, e474, rfl⟩ := hQ474
      have N475 := Fr.app N473 (Fr.nil n0)
      refine OwnK.iconst X474 hx (hb hby at_217) (pc' := 218) rfl (v := (2 : Int32)) (by decide) ?_
      refine OwnK.iload X474 hx (hb hby at_218) (pc' := 220) rfl (v := (2 : Int32)) rfl ?_
      refine OwnK.iloadN X474 hx (hb hby at_220) (pc' := 221) rfl (v := p2) rfl ?_
      refine OwnK.aload X474 hx (hb hby at_221) (pc' := 223) rfl (v := (.ref a316)) rfl rfl ?_
      refine OwnK.callS_ X474 hx hZ hown (y := (⟨"com/example/strict_reach/strictreach/IntListSetPinLaw", "expect", "(III[I)I"⟩ : MethodName)) (hw _ (List.mem_of_getElem? (i := 51) rfl)) (hw _ (List.mem_of_getElem? (i := 52) rfl)) (hw _ (List.mem_of_getElem? (i := 53) rfl)) (hw _ (List.mem_of_getElem? (i := 54) rfl)) (by decide) (own_met10 l Z a0 hw T454.heap (2 : Int32) (2 : Int32) p2 a316 _ _ (p0 ^^^ (-1 : Int32)) 2 f456 (by decide) (by decide) rfl ) (by decide) (W := 1) (by decide) e474 (by rw [hml]; rfl) own_pd_7 (argsL := [(.int (2 : Int32)), (.int (2 : Int32)), (.int p2), (.ref a316)]) rfl (S := [(.int p2)]) rfl (Nat.le_of_eq rfl) (hb hby at_223) (pc' := 226) rfl (by decide) (by decide) (fun T476 v476 L476 X476 hQ476 => ?_)
      obtain ⟨hv476, e476, rfl⟩ := hQ476
      obtain rfl : v476 = some (.int p2) := hv476.trans (by first | rw [if_pos (by decide)] | rw [if_neg (by decide)])
      have N477 := Fr.app N475 (Fr.nil n0)
      refine OwnK.icmp_ne X476 hx (hb hby at_226) (by decide) (pcT := 233) (by decide) (pc' := 229) rfl (fun (hc226 : ¬ p2.toInt = p2.toInt) => absurd rfl hc226) (fun hc226 => ?_)
      refine OwnK.iconst X476 hx (hb hby at_229) (pc' := 230) rfl (v := (1 : Int32)) (by decide) ?_
      refine OwnK.goto_ X476 hx (hb hby at_230) (by decide) (pc' := 234) (by decide) ?_
      refine OwnK.istore X476 hx (hb hby at_234) (pc' := 236) rfl (Ls' := #[.val (.int p0), .val (.int p1), .val (.int p2), .val (.int p3), .val (.int p4), .val (.int (4 : Int32)), .val (.ref a316), .val (.ref a339), .val (.int (2 : Int32)), .val (.int (1 : Int32))]) rfl ?_
      refine OwnK.iload X476 hx (hb hby at_236) (pc' := 238) rfl (v := (4 : Int32)) rfl ?_
      refine OwnK.iconst X476 hx (hb hby at_238) (pc' := 239) rfl (v := (3 : Int32)) (by decide) ?_
      refine OwnK.icmp_le X476 hx (hb hby at_239) (by decide) (pcT := 272) (by decide) (pc' := 242) rfl (fun (hc239 : 4 ≤ 3) => absurd hc239 (by decide)) (fun hc239 => ?_)
      refine OwnK.iload X476 hx (hb hby at_242) (pc' := 244) rfl (v := (1 : Int32)) rfl ?_
      refine OwnK.if_eq X476 hx (hb hby at_244) (by decide) (pcT := 269) (by decide) (pc' := 247) rfl (fun (hc244 : 1 = 0) => absurd hc244 (by decide)) (fun hc244 => ?_)
      refine OwnK.aload X476 hx (hb hby at_247) (pc' := 249) rfl (v := (.ref a339)) rfl rfl ?_
      refine OwnK.iconst X476 hx (hb hby at_249) (pc' := 250) rfl (v := (3 : Int32)) (by decide) ?_
      refine OwnK.callV_ X476 hx hZ hown (y := (⟨"com/example/strict_reach/strictreach/IntList", "get", "(I)I"⟩ : MethodName)) (z := (⟨"com/example/strict_reach/strictreach/IntList", "get", "(I)I"⟩ : MethodName)) (a := a339) (hw _ (List.mem_of_getElem? (i := 46) rfl)) (hw _ (List.mem_of_getElem? (i := 47) rfl)) (notFace_of_selects (args := #[]) (mvT hZ (hw _ (List.mem_of_getElem? (i := 49) rfl)))) (hw _ (List.mem_of_getElem? (i := 49) rfl)) (hw _ (List.mem_of_getElem? (i := 48) rfl)) (hw _ (List.mem_of_getElem? (i := 50) rfl)) (hw _ (List.mem_of_getElem? (i := 3) rfl)) (by decide) IE454 (own_met9 l Z a0 hw T454.heap a339 (3 : Int32) B346 K346 _ _ (4 : Int32) (16 : Int32) _ 3 (p1 ^^^ (-1 : Int32)) ⟨IE454, IS454, IB454, IAB454, f463, IEB454, IEK454, IO454, IaB454, IaK454, IBK454⟩ (by decide) (by decide) rfl ) (by decide) (W := 0) (by decide) e476 (by rw [hml]; rfl) own_pd_3 (argsL := [(.int (3 : Int32))]) rfl (S := []) rfl (Nat.le_of_eq rfl) (hb hby at_250) (pc' := 253) rfl (by decide) (by decide) (fun T478 v478 L478 X478 hQ478 => ?_)
      obtain ⟨rfl, e478, rfl⟩ := hQ478
      have N479 := Fr.app N477 (Fr.nil n0)
      refine OwnK.iconst X478 hx (hb hby at_253) (pc' := 254) rfl (v := (3 : Int32)) (by decide) ?_
      refine OwnK.iload X478 hx (hb hby at_254) (pc' := 256) rfl (v := (2 : Int32)) rfl ?_
      refine OwnK.iloadN X478 hx (hb hby at_256) (pc' := 257) rfl (v := p2) rfl ?_
      refine OwnK.aload X478 hx (hb hby at_257) (pc' := 259) rfl (v := (.ref a316)) rfl rfl ?_
      refine OwnK.callS_ X478 hx hZ hown (y := (⟨"com/example/strict_reach/strictreach/IntListSetPinLaw", "expect", "(III[I)I"⟩ : MethodName)) (hw _ (List.mem_of_getElem? (i := 51) rfl)) (hw _ (List.mem_of_getElem? (i := 52) rfl)) (hw _ (List.mem_of_getElem? (i := 53) rfl)) (hw _ (List.mem_of_getElem? (i := 54) rfl)) (by decide) (own_met10 l Z a0 hw T454.heap (3 : Int32) (2 : Int32) p2 a316 _ _ (p1 ^^^ (-1 : Int32)) 3 f456 (by decide) (by decide) rfl ) (by decide) (W := 1) (by decide) e478 (by rw [hml]; rfl) own_pd_7 (argsL := [(.int (3 : Int32)), (.int (2 : Int32)), (.int p2), (.ref a316)]) rfl (S := [(.int (p1 ^^^ (-1 : Int32)))]) rfl (Nat.le_of_eq rfl) (hb hby at_259) (pc' := 262) rfl (by decide) (by decide) (fun T480 v480 L480 X480 hQ480 => ?_)
      obtain ⟨hv480, e480, rfl⟩ := hQ480
      obtain rfl : v480 = some (.int (p1 ^^^ (-1 : Int32))) := hv480.trans (by first | rw [if_pos (by decide)] | rw [if_neg (by decide)])
      have N481 := Fr.app N479 (Fr.nil n0)
      refine OwnK.icmp_ne X480 hx (hb hby at_262) (by decide) (pcT := 269) (by decide) (pc' := 265) rfl (fun (hc262 : ¬ (p1 ^^^ (-1 : Int32)).toInt = (p1 ^^^ (-1 : Int32)).toInt) => absurd rfl hc262) (fun hc262 => ?_)
      refine OwnK.iconst X480 hx (hb hby at_265) (pc' := 266) rfl (v := (1 : Int32)) (by decide) ?_
      refine OwnK.goto_ X480 hx (hb hby at_266) (by decide) (pc' := 270) (by decide) ?_
      refine OwnK.istore X480 hx (hb hby at_270) (pc' := 272) rfl (Ls' := #[.val (.int p0), .val (.int p1), .val (.int p2), .val (.int p3), .val (.int p4), .val (.int (4 : Int32)), .val (.ref a316), .val (.ref a339), .val (.int (2 : Int32)), .val (.int (1 : Int32))]) rfl ?_
      refine OwnK.iload X480 hx (hb hby at_272) (pc' := 274) rfl (v := (1 : Int32)) rfl ?_
      refine OwnK.retN_ X480 hx hret (by simp) hlk (hb hby at_274) (by decide) (by decide) ?_
      exact ⟨rfl, N481⟩
    · refine OwnK.aload X387 hx (hb hby at_109) (pc' := 111) rfl (v := (.ref a339)) rfl rfl ?_
      refine OwnK.iload X387 hx (hb hby at_111) (pc' := 113) rfl (v := (3 : Int32)) rfl ?_
      refine OwnK.iloadN X387 hx (hb hby at_113) (pc' := 114) rfl (v := p2) rfl ?_
      refine OwnK.callV_ X387 hx hZ hown (y := (⟨"com/example/strict_reach/strictreach/IntList", "set", "(II)V"⟩ : MethodName)) (z := (⟨"com/example/strict_reach/strictreach/IntList", "set", "(II)V"⟩ : MethodName)) (a := a339) (hw _ (List.mem_of_getElem? (i := 28) rfl)) (hw _ (List.mem_of_getElem? (i := 29) rfl)) (notFace_of_selects (args := #[]) (mvT hZ (hw _ (List.mem_of_getElem? (i := 31) rfl)))) (hw _ (List.mem_of_getElem? (i := 31) rfl)) (hw _ (List.mem_of_getElem? (i := 30) rfl)) (hw _ (List.mem_of_getElem? (i := 32) rfl)) (hw _ (List.mem_of_getElem? (i := 3) rfl)) (by decide) IE387 (own_met5 l Z a0 hw T387.heap n0 z395 a339 (3 : Int32) p2 B346 K346 _ _ (4 : Int32) (16 : Int32) _ 3  ge_a339 ⟨IE387, IS387, IB387, IAB387, f396, IEB387, IEK387, IO387, IaB387, IaK387, IBK387⟩ ge_K346 (by decide) (by decide) (Nat.le_of_ble_eq_true rfl) ) (by decide) (W := 0) (by decide) rfl (by rw [hml]; rfl) own_pd_6 (argsL := [(.int (3 : Int32)), (.int p2)]) rfl (S := []) rfl (Nat.le_of_eq rfl) (hb hby at_114) (pc' := 117) rfl (by decide) (by decide) (fun T482 v482 L482 X482 hQ482 => ?_)
      obtain ⟨rfl, N482q, Kp482, hL482⟩ := hQ482
      have N483 := Fr.app N388 N482q
      have f484 := f389.keep Kp482 (ninS q340 (ninS q350 nin0))
      have f485 := f390.keep Kp482
      have f486 := IE387.keep Kp482
      have f487 := IAB387.keep Kp482 (ninS (Ne.symm IaB387) (ninS IBK387 nin0))
      have f488 := IEB387.keep Kp482
      have f489 := IEK387.keep Kp482
      have z490 : n0 ≤ T482.heap.size := Nat.le_trans z395 Kp482.1
      obtain ⟨IE482, IS482, IB482, IAB482, IAK482, IEB482, IEK482, IO482, IaB482, IaK482, IBK482⟩ := hL482
      have f491 : Arv Z T482.heap K346 _ .int (16 : Int32) [(.int p0), (.int p1), (.int (p0 ^^^ (-1 : Int32))), (.int p2), (.int (0 : Int32)), (.int (0 : Int32)), (.int (0 : Int32)), (.int (0 : Int32)), (.int (0 : Int32)), (.int (0 : Int32)), (.int (0 : Int32)), (.int (0 : Int32)), (.int (0 : Int32)), (.int (0 : Int32)), (.int (0 : Int32)), (.int (0 : Int32))] (.int (0 : Int32)) := IAK482
      refine OwnK.aload X482 hx (hb hby at_117) (pc' := 119) rfl (v := (.ref a339)) rfl rfl ?_
      refine OwnK.callV_ X482 hx hZ hown (y := (⟨"com/example/strict_reach/strictreach/IntList", "size", "()I"⟩ : MethodName)) (z := (⟨"com/example/strict_reach/strictreach/IntList", "size", "()I"⟩ : MethodName)) (a := a339) (hw _ (List.mem_of_getElem? (i := 41) rfl)) (hw _ (List.mem_of_getElem? (i := 42) rfl)) (notFace_of_selects (args := #[]) (mvT hZ (hw _ (List.mem_of_getElem? (i := 44) rfl)))) (hw _ (List.mem_of_getElem? (i := 44) rfl)) (hw _ (List.mem_of_getElem? (i := 43) rfl)) (hw _ (List.mem_of_getElem? (i := 45) rfl)) (hw _ (List.mem_of_getElem? (i := 3) rfl)) (by decide) IE482 (own_met8 l Z a0 hw T482.heap a339 B346 K346 _ _ (4 : Int32) (16 : Int32) _ ⟨IE482, IS482, IB482, IAB482, f491, IEB482, IEK482, IO482, IaB482, IaK482, IBK482⟩ ) (by decide) (W := 0) (by decide) rfl (by rw [hml]; rfl) own_pd_0 (argsL := []) rfl (S := []) rfl (Nat.le_of_eq rfl) (hb hby at_119) (pc' := 122) rfl (by decide) (by decide) (fun T492 v492 L492 X492 hQ492 => ?_)
      obtain ⟨rfl, e492, rfl⟩ := hQ492
      have N493 := Fr.app N483 (Fr.nil n0)
      refine OwnK.iload X492 hx (hb hby at_122) (pc' := 124) rfl (v := (4 : Int32)) rfl ?_
      refine OwnK.icmp_ne X492 hx (hb hby at_124) (by decide) (pcT := 131) (by decide) (pc' := 127) rfl (fun (hc124 : ¬ 4 = 4) => absurd hc124 (by decide)) (fun hc124 => ?_)
      refine OwnK.iconst X492 hx (hb hby at_127) (pc' := 128) rfl (v := (1 : Int32)) (by decide) ?_
      refine OwnK.goto_ X492 hx (hb hby at_128) (by decide) (pc' := 132) (by decide) ?_
      refine OwnK.istore X492 hx (hb hby at_132) (pc' := 134) rfl (Ls' := #[.val (.int p0), .val (.int p1), .val (.int p2), .val (.int p3), .val (.int p4), .val (.int (4 : Int32)), .val (.ref a316), .val (.ref a339), .val (.int (3 : Int32)), .val (.int (1 : Int32))]) rfl ?_
      refine OwnK.iload X492 hx (hb hby at_134) (pc' := 136) rfl (v := (1 : Int32)) rfl ?_
      refine OwnK.if_eq X492 hx (hb hby at_136) (by decide) (pcT := 161) (by decide) (pc' := 139) rfl (fun (hc136 : 1 = 0) => absurd hc136 (by decide)) (fun hc136 => ?_)
      refine OwnK.aload X492 hx (hb hby at_139) (pc' := 141) rfl (v := (.ref a339)) rfl rfl ?_
      refine OwnK.iconst X492 hx (hb hby at_141) (pc' := 142) rfl (v := (0 : Int32)) (by decide) ?_
      refine OwnK.callV_ X492 hx hZ hown (y := (⟨"com/example/strict_reach/strictreach/IntList", "get", "(I)I"⟩ : MethodName)) (z := (⟨"com/example/strict_reach/strictreach/IntList", "get", "(I)I"⟩ : MethodName)) (a := a339) (hw _ (List.mem_of_getElem? (i := 46) rfl)) (hw _ (List.mem_of_getElem? (i := 47) rfl)) (notFace_of_selects (args := #[]) (mvT hZ (hw _ (List.mem_of_getElem? (i := 49) rfl)))) (hw _ (List.mem_of_getElem? (i := 49) rfl)) (hw _ (List.mem_of_getElem? (i := 48) rfl)) (hw _ (List.mem_of_getElem? (i := 50) rfl)) (hw _ (List.mem_of_getElem? (i := 3) rfl)) (by decide) IE482 (own_met9 l Z a0 hw T482.heap a339 (0 : Int32) B346 K346 _ _ (4 : Int32) (16 : Int32) _ 0 p0 ⟨IE482, IS482, IB482, IAB482, f491, IEB482, IEK482, IO482, IaB482, IaK482, IBK482⟩ (by decide) (by decide) rfl ) (by decide) (W := 0) (by decide) e492 (by rw [hml]; rfl) own_pd_3 (argsL := [(.int (0 : Int32))]) rfl (S := []) rfl (Nat.le_of_eq rfl) (hb hby at_142) (pc' := 145) rfl (by decide) (by decide) (fun T494 v494 L494 X494 hQ494 => ?_)
      obtain ⟨rfl, e494, rfl⟩ := hQ494
      have N495 := Fr.app N493 (Fr.nil n0)
      refine OwnK.iconst X494 hx (hb hby at_145) (pc' := 146) rfl (v := (0 : Int32)) (by decide) ?_
      refine OwnK.iload X494 hx (hb hby at_146) (pc' := 148) rfl (v := (3 : Int32)) rfl ?_
      refine OwnK.iloadN X494 hx (hb hby at_148) (pc' := 149) rfl (v := p2) rfl ?_
      refine OwnK.aload X494 hx (hb hby at_149) (pc' := 151) rfl (v := (.ref a316)) rfl rfl ?_
      refine OwnK.callS_ X494 hx hZ hown (y := (⟨"com/example/strict_reach/strictreach/IntListSetPinLaw", "expect", "(III[I)I"⟩ : MethodName)) (hw _ (List.mem_of_getElem? (i := 51) rfl)) (hw _ (List.mem_of_getElem? (i := 52) rfl)) (hw _ (List.mem_of_getElem? (i := 53) rfl)) (hw _ (List.mem_of_getElem? (i := 54) rfl)) (by decide) (own_met10 l Z a0 hw T482.heap (0 : Int32) (3 : Int32) p2 a316 _ _ p0 0 f484 (by decide) (by decide) rfl ) (by decide) (W := 1) (by decide) e494 (by rw [hml]; rfl) own_pd_7 (argsL := [(.int (0 : Int32)), (.int (3 : Int32)), (.int p2), (.ref a316)]) rfl (S := [(.int p0)]) rfl (Nat.le_of_eq rfl) (hb hby at_151) (pc' := 154) rfl (by decide) (by decide) (fun T496 v496 L496 X496 hQ496 => ?_)
      obtain ⟨hv496, e496, rfl⟩ := hQ496
      obtain rfl : v496 = some (.int p0) := hv496.trans (by first | rw [if_pos (by decide)] | rw [if_neg (by decide)])
      have N497 := Fr.app N495 (Fr.nil n0)
      refine OwnK.icmp_ne X496 hx (hb hby at_154) (by decide) (pcT := 161) (by decide) (pc' := 157) rfl (fun (hc154 : ¬ p0.toInt = p0.toInt) => absurd rfl hc154) (fun hc154 => ?_)
      refine OwnK.iconst X496 hx (hb hby at_157) (pc' := 158) rfl (v := (1 : Int32)) (by decide) ?_
      refine OwnK.goto_ X496 hx (hb hby at_158) (by decide) (pc' := 162) (by decide) ?_
      refine OwnK.istore X496 hx (hb hby at_162) (pc' := 164) rfl (Ls' := #[.val (.int p0), .val (.int p1), .val (.int p2), .val (.int p3), .val (.int p4), .val (.int (4 : Int32)), .val (.ref a316), .val (.ref a339), .val (.int (3 : Int32)), .val (.int (1 : Int32))]) rfl ?_
      refine OwnK.iload X496 hx (hb hby at_164) (pc' := 166) rfl (v := (4 : Int32)) rfl ?_
      refine OwnK.iconst X496 hx (hb hby at_166) (pc' := 167) rfl (v := (1 : Int32)) (by decide) ?_
      refine OwnK.icmp_le X496 hx (hb hby at_167) (by decide) (pcT := 200) (by decide) (pc' := 170) rfl (fun (hc167 : 4 ≤ 1) => absurd hc167 (by decide)) (fun hc167 => ?_)
      refine OwnK.iload X496 hx (hb hby at_170) (pc' := 172) rfl (v := (1 : Int32)) rfl ?_
      refine OwnK.if_eq X496 hx (hb hby at_172) (by decide) (pcT := 197) (by decide) (pc' := 175) rfl (fun (hc172 : 1 = 0) => absurd hc172 (by decide)) (fun hc172 => ?_)
      refine OwnK.aload X496 hx (hb hby at_175) (pc' := 177) rfl (v := (.ref a339)) rfl rfl ?_
      refine OwnK.iconst X496 hx (hb hby at_177) (pc' := 178) rfl (v := (1 : Int32)) (by decide) ?_
      refine OwnK.callV_ X496 hx hZ hown (y := (⟨"com/example/strict_reach/strictreach/IntList", "get", "(I)I"⟩ : MethodName)) (z := (⟨"com/example/strict_reach/strictreach/IntList", "get", "(I)I"⟩ : MethodName)) (a := a339) (hw _ (List.mem_of_getElem? (i := 46) rfl)) (hw _ (List.mem_of_getElem? (i := 47) rfl)) (notFace_of_selects (args := #[]) (mvT hZ (hw _ (List.mem_of_getElem? (i := 49) rfl)))) (hw _ (List.mem_of_getElem? (i := 49) rfl)) (hw _ (List.mem_of_getElem? (i := 48) rfl)) (hw _ (List.mem_of_getElem? (i := 50) rfl)) (hw _ (List.mem_of_getElem? (i := 3) rfl)) (by decide) IE482 (own_met9 l Z a0 hw T482.heap a339 (1 : Int32) B346 K346 _ _ (4 : Int32) (16 : Int32) _ 1 p1 ⟨IE482, IS482, IB482, IAB482, f491, IEB482, IEK482, IO482, IaB482, IaK482, IBK482⟩ (by decide) (by decide) rfl ) (by decide) (W := 0) (by decide) e496 (by rw [hml]; rfl) own_pd_3 (argsL := [(.int (1 : Int32))]) rfl (S := []) rfl (Nat.le_of_eq rfl) (hb hby at_178) (pc' := 181) rfl (by decide) (by decide) (fun T498 v498 L498 X498 hQ498 => ?_)
      obtain ⟨rfl, e498, rfl⟩ := hQ498
      have N499 := Fr.app N497 (Fr.nil n0)
      refine OwnK.iconst X498 hx (hb hby at_181) (pc' := 182) rfl (v := (1 : Int32)) (by decide) ?_
      refine OwnK.iload X498 hx (hb hby at_182) (pc' := 184) rfl (v := (3 : Int32)) rfl ?_
      refine OwnK.iloadN X498 hx (hb hby at_184) (pc' := 185) rfl (v := p2) rfl ?_
      refine OwnK.aload X498 hx (hb hby at_185) (pc' := 187) rfl (v := (.ref a316)) rfl rfl ?_
      refine OwnK.callS_ X498 hx hZ hown (y := (⟨"com/example/strict_reach/strictreach/IntListSetPinLaw", "expect", "(III[I)I"⟩ : MethodName)) (hw _ (List.mem_of_getElem? (i := 51) rfl)) (hw _ (List.mem_of_getElem? (i := 52) rfl)) (hw _ (List.mem_of_getElem? (i := 53) rfl)) (hw _ (List.mem_of_getElem? (i := 54) rfl)) (by decide) (own_met10 l Z a0 hw T482.heap (1 : Int32) (3 : Int32) p2 a316 _ _ p1 1 f484 (by decide) (by decide) rfl ) (by decide) (W := 1) (by decide) e498 (by rw [hml]; rfl) own_pd_7 (argsL := [(.int (1 : Int32)), (.int (3 : Int32)), (.int p2), (.ref a316)]) rfl (S := [(.int p1)]) rfl (Nat.le_of_eq rfl) (hb hby at_187) (pc' := 190) rfl (by decide) (by decide) (fun T500 v500 L500 X500 hQ500 => ?_)
      obtain ⟨hv500, e500, rfl⟩ := hQ500
      obtain rfl : v500 = some (.int p1) := hv500.trans (by first | rw [if_pos (by decide)] | rw [if_neg (by decide)])
      have N501 := Fr.app N499 (Fr.nil n0)
      refine OwnK.icmp_ne X500 hx (hb hby at_190) (by decide) (pcT := 197) (by decide) (pc' := 193) rfl (fun (hc190 : ¬ p1.toInt = p1.toInt) => absurd rfl hc190) (fun hc190 => ?_)
      refine OwnK.iconst X500 hx (hb hby at_193) (pc' := 194) rfl (v := (1 : Int32)) (by decide) ?_
      refine OwnK.goto_ X500 hx (hb hby at_194) (by decide) (pc' := 198) (by decide) ?_
      refine OwnK.istore X500 hx (hb hby at_198) (pc' := 200) rfl (Ls' := #[.val (.int p0), .val (.int p1), .val (.int p2), .val (.int p3), .val (.int p4), .val (.int (4 : Int32)), .val (.ref a316), .val (.ref a339), .val (.int (3 : Int32)), .val (.int (1 : Int32))]) rfl ?_
      refine OwnK.iload X500 hx (hb hby at_200) (pc' := 202) rfl (v := (4 : Int32)) rfl ?_
      refine OwnK.iconst X500 hx (hb hby at_202) (pc' := 203) rfl (v := (2 : Int32)) (by decide) ?_
      refine OwnK.icmp_le X500 hx (hb hby at_203) (by decide) (pcT := 236) (by decide) (pc' := 206) rfl (fun (hc203 : 4 ≤ 2) => absurd hc203 (by decide)) (fun hc203 => ?_)
      refine OwnK.iload X500 hx (hb hby at_206) (pc' := 208) rfl (v := (1 : Int32)) rfl ?_
      refine OwnK.if_eq X500 hx (hb hby at_208) (by decide) (pcT := 233) (by decide) (pc' := 211) rfl (fun (hc208 : 1 = 0) => absurd hc208 (by decide)) (fun hc208 => ?_)
      refine OwnK.aload X500 hx (hb hby at_211) (pc' := 213) rfl (v := (.ref a339)) rfl rfl ?_
      refine OwnK.iconst X500 hx (hb hby at_213) (pc' := 214) rfl (v := (2 : Int32)) (by decide) ?_
      refine OwnK.callV_ X500 hx hZ hown (y := (⟨"com/example/strict_reach/strictreach/IntList", "get", "(I)I"⟩ : MethodName)) (z := (⟨"com/example/strict_reach/strictreach/IntList", "get", "(I)I"⟩ : MethodName)) (a := a339) (hw _ (List.mem_of_getElem? (i := 46) rfl)) (hw _ (List.mem_of_getElem? (i := 47) rfl)) (notFace_of_selects (args := #[]) (mvT hZ (hw _ (List.mem_of_getElem? (i := 49) rfl)))) (hw _ (List.mem_of_getElem? (i := 49) rfl)) (hw _ (List.mem_of_getElem? (i := 48) rfl)) (hw _ (List.mem_of_getElem? (i := 50) rfl)) (hw _ (List.mem_of_getElem? (i := 3) rfl)) (by decide) IE482 (own_met9 l Z a0 hw T482.heap a339 (2 : Int32) B346 K346 _ _ (4 : Int32) (16 : Int32) _ 2 (p0 ^^^ (-1 : Int32)) ⟨IE482, IS482, IB482, IAB482, f491, IEB482, IEK482, IO482, IaB482, IaK482, IBK482⟩ (by decide) (by decide) rfl ) (by decide) (W := 0) (by decide) e500 (by rw [hml]; rfl) own_pd_3 (argsL := [(.int (2 : Int32))]) rfl (S := []) rfl (Nat.le_of_eq rfl) (hb hby at_214) (pc' := 217) rfl (by decide) (by decide) (fun T502 v502 L502 X502 hQ502 => ?_)
      obtain ⟨rfl, e502, rfl⟩ := hQ502
      have N503 := Fr.app N501 (Fr.nil n0)
      refine OwnK.iconst X502 hx (hb hby at_217) (pc' := 218) rfl (v := (2 : Int32)) (by decide) ?_
      refine OwnK.iload X502 hx (hb hby at_218) (pc' := 220) rfl (v := (3 : Int32)) rfl ?_
      refine OwnK.iloadN X502 hx (hb hby at_220) (pc' := 221) rfl (v := p2) rfl ?_
      refine OwnK.aload X502 hx (hb hby at_221) (pc' := 223) rfl (v := (.ref a316)) rfl rfl ?_
      refine OwnK.callS_ X502 hx hZ hown (y := (⟨"com/example/strict_reach/strictreach/IntListSetPinLaw", "expect", "(III[I)I"⟩ : MethodName)) (hw _ (List.mem_of_getElem? (i := 51) rfl)) (hw _ (List.mem_of_getElem? (i := 52) rfl)) (hw _ (List.mem_of_getElem? (i := 53) rfl)) (hw _ (List.mem_of_getElem? (i := 54) rfl)) (by decide) (own_met10 l Z a0 hw T482.heap (2 : Int32) (3 : Int32) p2 a316 _ _ (p0 ^^^ (-1 : Int32)) 2 f484 (by decide) (by decide) rfl ) (by decide) (W := 1) (by decide) e502 (by rw [hml]; rfl) own_pd_7 (argsL := [(.int (2 : Int32)), (.int (3 : Int32)), (.int p2), (.ref a316)]) rfl (S := [(.int (p0 ^^^ (-1 : Int32)))]) rfl (Nat.le_of_eq rfl) (hb hby at_223) (pc' := 226) rfl (by decide) (by decide) (fun T504 v504 L504 X504 hQ504 => ?_)
      obtain ⟨hv504, e504, rfl⟩ := hQ504
      obtain rfl : v504 = some (.int (p0 ^^^ (-1 : Int32))) := hv504.trans (by first | rw [if_pos (by decide)] | rw [if_neg (by decide)])
      have N505 := Fr.app N503 (Fr.nil n0)
      refine OwnK.icmp_ne X504 hx (hb hby at_226) (by decide) (pcT := 233) (by decide) (pc' := 229) rfl (fun (hc226 : ¬ (p0 ^^^ (-1 : Int32)).toInt = (p0 ^^^ (-1 : Int32)).toInt) => absurd rfl hc226) (fun hc226 => ?_)
      refine OwnK.iconst X504 hx (hb hby at_229) (pc' := 230) rfl (v := (1 : Int32)) (by decide) ?_
      refine OwnK.goto_ X504 hx (hb hby at_230) (by decide) (pc' := 234) (by decide) ?_
      refine OwnK.istore X504 hx (hb hby at_234) (pc' := 236) rfl (Ls' := #[.val (.int p0), .val (.int p1), .val (.int p2), .val (.int p3), .val (.int p4), .val (.int (4 : Int32)), .val (.ref a316), .val (.ref a339), .val (.int (3 : Int32)), .val (.int (1 : Int32))]) rfl ?_
      refine OwnK.iload X504 hx (hb hby at_236) (pc' := 238) rfl (v := (4 : Int32)) rfl ?_
      refine OwnK.iconst X504 hx (hb hby at_238) (pc' := 239) rfl (v := (3 : Int32)) (by decide) ?_
      refine OwnK.icmp_le X504 hx (hb hby at_239) (by decide) (pcT := 272) (by decide) (pc' := 242) rfl (fun (hc239 : 4 ≤ 3) => absurd hc239 (by decide)) (fun hc239 => ?_)
      refine OwnK.iload X504 hx (hb hby at_242) (pc' := 244) rfl (v := (1 : Int32)) rfl ?_
      refine OwnK.if_eq X504 hx (hb hby at_244) (by decide) (pcT := 269) (by decide) (pc' := 247) rfl (fun (hc244 : 1 = 0) => absurd hc244 (by decide)) (fun hc244 => ?_)
      refine OwnK.aload X504 hx (hb hby at_247) (pc' := 249) rfl (v := (.ref a339)) rfl rfl ?_
      refine OwnK.iconst X504 hx (hb hby at_249) (pc' := 250) rfl (v := (3 : Int32)) (by decide) ?_
      refine OwnK.callV_ X504 hx hZ hown (y := (⟨"com/example/strict_reach/strictreach/IntList", "get", "(I)I"⟩ : MethodName)) (z := (⟨"com/example/strict_reach/strictreach/IntList", "get", "(I)I"⟩ : MethodName)) (a := a339) (hw _ (List.mem_of_getElem? (i := 46) rfl)) (hw _ (List.mem_of_getElem? (i := 47) rfl)) (notFace_of_selects (args := #[]) (mvT hZ (hw _ (List.mem_of_getElem? (i := 49) rfl)))) (hw _ (List.mem_of_getElem? (i := 49) rfl)) (hw _ (List.mem_of_getElem? (i := 48) rfl)) (hw _ (List.mem_of_getElem? (i := 50) rfl)) (hw _ (List.mem_of_getElem? (i := 3) rfl)) (by decide) IE482 (own_met9 l Z a0 hw T482.heap a339 (3 : Int32) B346 K346 _ _ (4 : Int32) (16 : Int32) _ 3 p2 ⟨IE482, IS482, IB482, IAB482, f491, IEB482, IEK482, IO482, IaB482, IaK482, IBK482⟩ (by decide) (by decide) rfl ) (by decide) (W := 0) (by decide) e504 (by rw [hml]; rfl) own_pd_3 (argsL := [(.int (3 : Int32))]) rfl (S := []) rfl (Nat.le_of_eq rfl) (hb hby at_250) (pc' := 253) rfl (by decide) (by decide) (fun T506 v506 L506 X506 hQ506 => ?_)
      obtain ⟨rfl, e506, rfl⟩ := hQ506
      have N507 := Fr.app N505 (Fr.nil n0)
      refine OwnK.iconst X506 hx (hb hby at_253) (pc' := 254) rfl (v := (3 : Int32)) (by decide) ?_
      refine OwnK.iload X506 hx (hb hby at_254) (pc' := 256) rfl (v := (3 : Int32)) rfl ?_
      refine OwnK.iloadN X506 hx (hb hby at_256) (pc' := 257) rfl (v := p2) rfl ?_
      refine OwnK.aload X506 hx (hb hby at_257) (pc' := 259) rfl (v := (.ref a316)) rfl rfl ?_
      refine OwnK.callS_ X506 hx hZ hown (y := (⟨"com/example/strict_reach/strictreach/IntListSetPinLaw", "expect", "(III[I)I"⟩ : MethodName)) (hw _ (List.mem_of_getElem? (i := 51) rfl)) (hw _ (List.mem_of_getElem? (i := 52) rfl)) (hw _ (List.mem_of_getElem? (i := 53) rfl)) (hw _ (List.mem_of_getElem? (i := 54) rfl)) (by decide) (own_met10 l Z a0 hw T482.heap (3 : Int32) (3 : Int32) p2 a316 _ _ (p1 ^^^ (-1 : Int32)) 3 f484 (by decide) (by decide) rfl ) (by decide) (W := 1) (by decide) e506 (by rw [hml]; rfl) own_pd_7 (argsL := [(.int (3 : Int32)), (.int (3 : Int32)), (.int p2), (.ref a316)]) rfl (S := [(.int p2)]) rfl (Nat.le_of_eq rfl) (hb hby at_259) (pc' := 262) rfl (by decide) (by decide) (fun T508 v508 L508 X508 hQ508 => ?_)
      obtain ⟨hv508, e508, rfl⟩ := hQ508
      obtain rfl : v508 = some (.int p2) := hv508.trans (by first | rw [if_pos (by decide)] | rw [if_neg (by decide)])
      have N509 := Fr.app N507 (Fr.nil n0)
      refine OwnK.icmp_ne X508 hx (hb hby at_262) (by decide) (pcT := 269) (by decide) (pc' := 265) rfl (fun (hc262 : ¬ p2.toInt = p2.toInt) => absurd rfl hc262) (fun hc262 => ?_)
      refine OwnK.iconst X508 hx (hb hby at_265) (pc' := 266) rfl (v := (1 : Int32)) (by decide) ?_
      refine OwnK.goto_ X508 hx (hb hby at_266) (by decide) (pc' := 270) (by decide) ?_
      refine OwnK.istore X508 hx (hb hby at_270) (pc' := 272) rfl (Ls' := #[.val (.int p0), .val (.int p1), .val (.int p2), .val (.int p3), .val (.int p4), .val (.int (4 : Int32)), .val (.ref a316), .val (.ref a339), .val (.int (3 : Int32)), .val (.int (1 : Int32))]) rfl ?_
      refine OwnK.iload X508 hx (hb hby at_272) (pc' := 274) rfl (v := (1 : Int32)) rfl ?_
      refine OwnK.retN_ X508 hx hret (by simp) hlk (hb hby at_274) (by decide) (by decide) ?_
      exact ⟨rfl, N509⟩
set_option maxRecDepth 65536 in
set_option maxHeartbeats 40000000 in
theorem comes_1 {Post : Tables → Env → Array Value → State → Outcome → State → Prop} (hpost : ∀ tb e args s v u, (limb_1_1.after args s (.returned v) u = true ∧ limb_1_2.after args s (.returned v) u = true ∧ True) → FrameEnd s (.returned v) u (Jvm.fieldLocs frame_1_writes args s ++ Jvm.arrayLocs frame_1_arrays args s ++ Jvm.staticLocs frame_1_statics s) 16 128 → Post tb e args s (.returned v) u) :
    ArmFor flags0 classFile x code maxLocals ret World_1 tables_1 room_1 Calls_1 rest_1 Pre_1 Post := by
  intro l hfl _ _ p e ha hc hk s m args below hf hA hF happ hP
  obtain ⟨hcalls, hrest, hpre⟩ := hP
  obtain ⟨-, -, -, hnamed, -, -, -, hat⟩ := (Spec.applies_iff hf).mp happ
  obtain ⟨hg, hn⟩ := and_e (Cond.before_iff.mp (show (Jvm.Cond.and given_1 narrow_1).before args s = true from hpre))
  obtain ⟨hcnt, hg0⟩ := and_e hg
  obtain ⟨ha0, hg1⟩ := and_e hg0
  obtain ⟨ha1, hg2⟩ := and_e hg1
  obtain ⟨ha2, hg3⟩ := and_e hg2
  obtain ⟨ha3, hg4⟩ := and_e hg3
  have ha4 := hg4
  obtain ⟨w0, w1, w2, w3, w4, rfl⟩ : ∃ w0 w1 w2 w3 w4 : Value, args = #[w0, w1, w2, w3, w4] := by
    have hs : args.size = 5 := by simpa [Cond.value, given_1] using hcnt
    obtain ⟨L⟩ := args
    match L, hs with
    | [w0, w1, w2, w3, w4], _ => exact ⟨w0, w1, w2, w3, w4, rfl⟩
  have hw := fun d (hd : d ∈ tables_1) => atoms_spec (ws := Jvm.Cond.code x code maxLocals ret :: tables_1) hat d (List.mem_cons_of_mem _ hd)
  have hfit : Fit s := fun {y c} hc i hi => by
    obtain ⟨ha, rfl⟩ := Array.getElem?_eq_some_iff.mp hc
    have q := List.all_eq_true.mp ((Array.all_eq_true_iff_forall_mem.mp hF) _ (Array.getElem_mem ha)) i (List.mem_range.mpr hi)
    simpa [Array.getElem?_eq_getElem hi] using q
  obtain ⟨i0, e0⟩ := is_v ha0
  obtain rfl : w0 = (.int i0) := Option.some.inj e0
  obtain ⟨i1, e1⟩ := is_v ha1
  obtain rfl : w1 = (.int i1) := Option.some.inj e1
  obtain ⟨i2, e2⟩ := is_v ha2
  obtain rfl : w2 = (.int i2) := Option.some.inj e2
  obtain ⟨i3, e3⟩ := is_v ha3
  obtain rfl : w3 = (.int i3) := Option.some.inj e3
  obtain ⟨i4, e4⟩ := is_v ha4
  obtain rfl : w4 = (.int i4) := Option.some.inj e4
  obtain ⟨n, o, h1, h2, h3, _, L, rfl, ⟨rfl, N⟩, hq⟩ := own_law l s _ hw tables_1 s.heap s.heap.size (Nat.le_refl _) i0 i1 i2 i3 i4  p e ha hc hk s m _ below hf ((Spec.applies_iff_loose hf).mp happ).1 ⟨rfl, State.Warmed39.refl s, rfl⟩ trivial
  refine ⟨n, _, h1, h2, h3, hpost _ _ _ _ _ _ ⟨Cond.after_iff.mpr rfl, Cond.after_iff.mpr (eq_i res_at (Term.int_eval (1)) rfl), trivial⟩ ⟨hq.1, hq.2.1, (hq.2.2.sift fun y hy => Or.inr (N y hy)).mono (by decide) (by decide)⟩⟩
theorem main_1_1 : Claimed_1_1 := comes_1 fun _ _ _ _ _ _ h hF => ⟨h.1, hF⟩
theorem main_1_2 : Claimed_1_2 := comes_1 fun _ _ _ _ _ _ h hF => ⟨h.2.1, hF⟩
end Jvm.Pilot.@@N@@
namespace Jvm.Pilot.@@N@@
open Jvm Jvm.ClassFile Sem Op Lib Jvm.Free Jvm.Stand Jvm.Pilot.@@N@@.Jvm.D
/-! MADE BY PROGRAM (witnessworld.py) out of the Statement's table words and the real class files: 11 classes; the members and pool entries that the words name. The judged class is class 1, her method 2. -/
namespace start1
open Jvm.ClassFile
def u (s : String) : CpInfo := .utf8 (stringToUtf16 s)
/-- a pool by its gaps: so many unusable entries, then the entry; so many at the end -/
def gap : Nat → List CpInfo → List CpInfo
  | 0, r => r
  | n + 1, r => .unusable :: gap n r
def poolList (es : List (Nat × CpInfo)) (last : Nat) : List CpInfo := es.foldr (fun e r => gap e.1 (e.2 :: r)) (gap last [])
def pool (es : List (Nat × CpInfo)) (last : Nat) : Array CpInfo := ⟨poolList es last⟩
def fileOf (pool : Array CpInfo) (this : Nat) (attrs : Array Attribute := #[]) (ms : Array MethodInfo := #[]) (fl : Nat := 33) (sup : Nat := 0) (ifs : Array Nat := #[]) (fds : Array FieldInfo := #[]) : ClassFile where
  minorVersion := 0
  majorVersion := 65
  constantPool := pool
  accessFlags := fl
  thisClass := this
  superClass := sup
  interfaces := ifs
  fields := fds
  methods := ms
  attributes := attrs
def plain (name : String) (sup : Option ClassId) : Class where
  name := name
  kind := .ordinary
  loader := none
  accessFlags := 33
  super := sup
  interfaces := #[]
  cf := none
  fields := #[]
  methods := #[]
  instanceTypes := #[]
  staticTypes := #[]
  resolved := #[]
  callSites := []
  init := .initialized
  statics := none
  mirror := none

def pool0 : Array CpInfo := pool [(5, u "<init>"), (0, u "()V"), (1, .class_ 10), (1, u "java/lang/Object")] 113

def k0c0 : Code := { maxStack := 0, maxLocals := 1, code := object_method_1_code, exceptionTable := #[], attributes := #[] }
def k0m0 : Method := { name := "<init>", desc := "()V", sig := { parameters := [], returnType := none }, accessFlags := 1, code := some k0c0 }
/-- java/lang/Object -/
def k0 : Class := { plain "java/lang/Object" none with
  accessFlags := 33
  interfaces := #[]
  cf := some (fileOf pool0 8 #[] #[{ accessFlags := 1, nameIndex := 5, descriptorIndex := 6, attributes := #[] }] 33 0 #[] #[])
  fields := #[]
  methods := #[k0m0]
  instanceTypes := #[]
  staticTypes := #[]
  resolved := Array.replicate 124 none
  statics := none }

def pool1 : Array CpInfo := pool [(2, .class_ 4), (0, .nameAndType 5 6), (0, u "java/lang/Object"), (0, u "<init>"), (0, u "()V"), (0, .class_ 8), (0, u "com/example/strict_reach/strictreach/IntList"), (0, .methodref 7 3), (0, .methodref 7 11), (0, .nameAndType 12 13), (0, u "add"), (0, u "(I)V"), (0, .integer 2147483647), (0, .methodref 7 16), (0, .nameAndType 17 18), (0, u "set"), (0, u "(II)V"), (0, .methodref 7 20), (0, .nameAndType 21 22), (0, u "size"), (0, u "()I"), (0, .methodref 7 24), (0, .nameAndType 25 26), (0, u "get"), (0, u "(I)I"), (0, .methodref 28 29), (0, .class_ 30), (0, .nameAndType 31 32), (0, u "com/example/strict_reach/strictreach/IntListSetPinLaw"), (0, u "expect"), (0, u "(III[I)I"), (3, u "law"), (0, u "(IIIII)Z")] 4

def k1m0 : Method := { name := "<init>", desc := "()V", sig := { parameters := [], returnType := none }, accessFlags := 1, code := none }
def k1c1 : Code := { maxStack := 2, maxLocals := 4, code := method_2_code, exceptionTable := #[], attributes := #[] }
def k1m1 : Method := { name := "expect", desc := "(III[I)I", sig := { parameters := [.int, .int, .int, (.array .int)], returnType := some .int }, accessFlags := 10, code := some k1c1 }
def k1c2 : Code := { maxStack := 5, maxLocals := 10, code := code, exceptionTable := #[], attributes := #[] }
def k1m2 : Method := { name := "law", desc := "(IIIII)Z", sig := { parameters := [.int, .int, .int, .int, .int], returnType := some .boolean }, accessFlags := 9, code := some k1c2 }
/-- com/example/strict_reach/strictreach/IntListSetPinLaw -/
def k1 : Class := { plain "com/example/strict_reach/strictreach/IntListSetPinLaw" (some 0) with
  accessFlags := 49
  interfaces := #[]
  cf := some (fileOf pool1 28 #[] #[{ accessFlags := 1, nameIndex := 5, descriptorIndex := 6, attributes := #[] }, { accessFlags := 10, nameIndex := 31, descriptorIndex := 32, attributes := #[] }, { accessFlags := 9, nameIndex := 36, descriptorIndex := 37, attributes := #[] }] 49 2 #[] #[])
  fields := #[]
  methods := #[k1m0, k1m1, k1m2]
  instanceTypes := #[]
  staticTypes := #[]
  resolved := Array.replicate 42 none
  statics := none }

def pool2 : Array CpInfo := pool [(1, .class_ 2), (0, u "com/example/strict_reach/strictreach/IntList"), (0, .methodref 4 5), (0, .class_ 6), (0, .nameAndType 7 8), (0, u "java/lang/Object"), (0, u "<init>"), (0, u "()V"), (0, .class_ 10), (0, u "[I"), (0, .fieldref 1 12), (0, .nameAndType 13 14), (0, u "blocks"), (0, u "[[I"), (0, .methodref 1 16), (0, .nameAndType 17 18), (0, u "room"), (0, u "()[I"), (0, .fieldref 1 20), (0, .nameAndType 21 22), (0, u "size"), (0, u "I"), (5, u "(II)I"), (6, .methodref 36 37), (0, .class_ 38), (0, .nameAndType 39 28), (0, u "java/util/Objects"), (0, u "checkIndex"), (2, .integer 2147483647), (17, u "BLOCK_BITS"), (2, u "BLOCK_SIZE"), (1, u "OFFSET_MASK"), (1, u "FIRST_CAPACITY"), (3, u "add"), (0, u "(I)V"), (3, u "get"), (0, u "(I)I"), (0, u "set"), (0, u "(II)V"), (0, u "()I")] 4

def k2c0 : Code := { maxStack := 5, maxLocals := 1, code := prog_9_method_1_code, exceptionTable := #[], attributes := #[] }
def k2m0 : Method := { name := "<init>", desc := "()V", sig := { parameters := [], returnType := none }, accessFlags := 0, code := some k2c0 }
def k2c1 : Code := { maxStack := 3, maxLocals := 2, code := prog_9_method_2_code, exceptionTable := #[], attributes := #[] }
def k2m1 : Method := { name := "add", desc := "(I)V", sig := { parameters := [.int], returnType := none }, accessFlags := 0, code := some k2c1 }
def k2c2 : Code := { maxStack := 3, maxLocals := 2, code := prog_9_method_4_code, exceptionTable := #[], attributes := #[] }
def k2m2 : Method := { name := "get", desc := "(I)I", sig := { parameters := [.int], returnType := some .int }, accessFlags := 0, code := some k2c2 }
def k2c3 : Code := { maxStack := 3, maxLocals := 3, code := prog_9_method_5_code, exceptionTable := #[], attributes := #[] }
def k2m3 : Method := { name := "set", desc := "(II)V", sig := { parameters := [.int, .int], returnType := none }, accessFlags := 0, code := some k2c3 }
def k2c4 : Code := { maxStack := 1, maxLocals := 1, code := prog_9_method_6_code, exceptionTable := #[], attributes := #[] }
def k2m4 : Method := { name := "size", desc := "()I", sig := { parameters := [], returnType := some .int }, accessFlags := 0, code := some k2c4 }
def k2c5 : Code := { maxStack := 4, maxLocals := 3, code := prog_9_method_9_code, exceptionTable := #[], attributes := #[] }
def k2m5 : Method := { name := "room", desc := "()[I", sig := { parameters := [], returnType := some (.array .int) }, accessFlags := 2, code := some k2c5 }
/-- com/example/strict_reach/strictreach/IntList -/
def k2 : Class := { plain "com/example/strict_reach/strictreach/IntList" (some 0) with
  accessFlags := 32
  interfaces := #[]
  cf := some (fileOf pool2 1 #[] #[{ accessFlags := 0, nameIndex := 7, descriptorIndex := 8, attributes := #[] }, { accessFlags := 0, nameIndex := 71, descriptorIndex := 72, attributes := #[] }, { accessFlags := 0, nameIndex := 76, descriptorIndex := 77, attributes := #[] }, { accessFlags := 0, nameIndex := 78, descriptorIndex := 79, attributes := #[] }, { accessFlags := 0, nameIndex := 21, descriptorIndex := 80, attributes := #[] }, { accessFlags := 2, nameIndex := 17, descriptorIndex := 18, attributes := #[] }] 32 4 #[] #[{ accessFlags := 26, nameIndex := 60, descriptorIndex := 22, attributes := #[] }, { accessFlags := 26, nameIndex := 63, descriptorIndex := 22, attributes := #[] }, { accessFlags := 26, nameIndex := 65, descriptorIndex := 22, attributes := #[] }, { accessFlags := 26, nameIndex := 67, descriptorIndex := 22, attributes := #[] }, { accessFlags := 2, nameIndex := 13, descriptorIndex := 14, attributes := #[] }, { accessFlags := 2, nameIndex := 21, descriptorIndex := 22, attributes := #[] }])
  fields := #[{ name := "BLOCK_BITS", type := .int, accessFlags := 26, slot := 0, constantValue := 0 }, { name := "BLOCK_SIZE", type := .int, accessFlags := 26, slot := 1, constantValue := 0 }, { name := "OFFSET_MASK", type := .int, accessFlags := 26, slot := 2, constantValue := 0 }, { name := "FIRST_CAPACITY", type := .int, accessFlags := 26, slot := 3, constantValue := 0 }, { name := "blocks", type := (.array (.array .int)), accessFlags := 2, slot := 0, constantValue := 0 }, { name := "size", type := .int, accessFlags := 2, slot := 1, constantValue := 0 }]
  methods := #[k2m0, k2m1, k2m2, k2m3, k2m4, k2m5]
  instanceTypes := #[(.array (.array .int)), .int]
  staticTypes := #[.int, .int, .int, .int]
  resolved := Array.replicate 85 none
  statics := none }

def pool3 : Array CpInfo := pool [(2, .class_ 4), (1, u "java/lang/Object"), (0, u "<init>"), (0, u "()V"), (35, .class_ 44), (1, u "java/util/Objects"), (60, .methodref 106 107), (0, .class_ 108), (0, .nameAndType 109 110), (0, u "jdk/internal/util/Preconditions"), (0, u "checkIndex"), (0, u "(IILjava/util/function/BiFunction;)I"), (60, u "(II)I")] 12

def k3m0 : Method := { name := "<init>", desc := "()V", sig := { parameters := [], returnType := none }, accessFlags := 2, code := none }
def k3c1 : Code := { maxStack := 3, maxLocals := 2, code := jdk_31_method_17_code, exceptionTable := #[], attributes := #[] }
def k3m1 : Method := { name := "checkIndex", desc := "(II)I", sig := { parameters := [.int, .int], returnType := some .int }, accessFlags := 9, code := some k3c1 }
/-- java/util/Objects -/
def k3 : Class := { plain "java/util/Objects" (some 0) with
  accessFlags := 49
  interfaces := #[]
  cf := some (fileOf pool3 42 #[] #[{ accessFlags := 2, nameIndex := 5, descriptorIndex := 6, attributes := #[] }, { accessFlags := 9, nameIndex := 109, descriptorIndex := 171, attributes := #[] }] 49 2 #[] #[])
  fields := #[]
  methods := #[k3m0, k3m1]
  instanceTypes := #[]
  staticTypes := #[]
  resolved := Array.replicate 184 none
  statics := none }

def pool4 : Array CpInfo := pool [(2, .class_ 4), (1, u "java/lang/Object"), (0, u "<init>"), (0, u "()V"), (17, .class_ 26), (1, u "jdk/internal/util/Preconditions"), (6, u "checkIndex"), (21, .class_ 56), (0, u "jdk/internal/util/Preconditions$4"), (57, .class_ 115), (0, u "jdk/internal/util/Preconditions$1"), (7, u "SIOOBE_FORMATTER"), (0, u "Ljava/util/function/BiFunction;"), (0, .class_ 126), (0, u "jdk/internal/util/Preconditions$2"), (3, u "AIOOBE_FORMATTER"), (0, .class_ 132), (0, u "jdk/internal/util/Preconditions$3"), (3, u "IOOBE_FORMATTER"), (41, u "(IILjava/util/function/BiFunction;)I")] 15

def k4m0 : Method := { name := "<init>", desc := "()V", sig := { parameters := [], returnType := none }, accessFlags := 1, code := none }
def k4c1 : Code := { maxStack := 3, maxLocals := 3, code := jdk_41_method_11_code, exceptionTable := #[], attributes := #[] }
def k4m1 : Method := { name := "checkIndex", desc := "(IILjava/util/function/BiFunction;)I", sig := { parameters := [.int, .int, (.object "java/util/function/BiFunction")], returnType := some .int }, accessFlags := 9, code := some k4c1 }
/-- jdk/internal/util/Preconditions -/
def k4 : Class := { plain "jdk/internal/util/Preconditions" (some 0) with
  accessFlags := 33
  interfaces := #[]
  cf := some (fileOf pool4 24 #[.nestMembers #[55, 131, 125, 114]] #[{ accessFlags := 1, nameIndex := 5, descriptorIndex := 6, attributes := #[] }, { accessFlags := 9, nameIndex := 33, descriptorIndex := 178, attributes := #[] }] 33 2 #[] #[{ accessFlags := 25, nameIndex := 123, descriptorIndex := 124, attributes := #[] }, { accessFlags := 25, nameIndex := 130, descriptorIndex := 124, attributes := #[] }, { accessFlags := 25, nameIndex := 136, descriptorIndex := 124, attributes := #[] }])
  fields := #[{ name := "SIOOBE_FORMATTER", type := (.object "java/util/function/BiFunction"), accessFlags := 25, slot := 0, constantValue := 0 }, { name := "AIOOBE_FORMATTER", type := (.object "java/util/function/BiFunction"), accessFlags := 25, slot := 1, constantValue := 0 }, { name := "IOOBE_FORMATTER", type := (.object "java/util/function/BiFunction"), accessFlags := 25, slot := 2, constantValue := 0 }]
  methods := #[k4m0, k4m1]
  instanceTypes := #[]
  staticTypes := #[(.object "java/util/function/BiFunction"), (.object "java/util/function/BiFunction"), (.object "java/util/function/BiFunction")]
  resolved := Array.replicate 194 none
  statics := none }

def pool5 : Array CpInfo := pool [(1, u "java/lang/Cloneable"), (0, .class_ 1), (0, u "java/lang/Object"), (0, .class_ 3)] 3

/-- java/lang/Cloneable -/
def k5 : Class := { plain "java/lang/Cloneable" (some 0) with
  accessFlags := 1537
  interfaces := #[]
  cf := some (fileOf pool5 2 #[] #[] 1537 4 #[] #[])
  fields := #[]
  methods := #[]
  instanceTypes := #[]
  staticTypes := #[]
  resolved := Array.replicate 8 none
  statics := none }

def pool6 : Array CpInfo := pool [(1, u "java/io/Serializable"), (0, .class_ 1), (0, u "java/lang/Object"), (0, .class_ 3)] 3

/-- java/io/Serializable -/
def k6 : Class := { plain "java/io/Serializable" (some 0) with
  accessFlags := 1537
  interfaces := #[]
  cf := some (fileOf pool6 2 #[] #[] 1537 4 #[] #[])
  fields := #[]
  methods := #[]
  instanceTypes := #[]
  staticTypes := #[]
  resolved := Array.replicate 8 none
  statics := none }

/-- the primitive byte -/
def k7 : Class := { plain "byte" none with kind := .primitive 'B', accessFlags := 0x411 }
/-- [B -/
def k8 : Class := { plain "[B" (some 0) with kind := .array 7 .byte, interfaces := #[5, 6], accessFlags := 1041 }

/-- the primitive int -/
def k9 : Class := { plain "int" none with kind := .primitive 'I', accessFlags := 0x411 }
/-- [I -/
def k10 : Class := { plain "[I" (some 0) with kind := .array 9 .int, interfaces := #[5, 6], accessFlags := 1041 }
/-- [[I -/
def k11 : Class := { plain "[[I" (some 0) with kind := .array 10 (.array .int), interfaces := #[5, 6], accessFlags := 1041 }

def heap : Heap := #[]
def classes : Array Class := #[k0, k1, k2, k3, k4, k5, k6, k7, k8, k9, k10, k11]
def interned : List (Array UInt16 × Addr) := []
def slotsUsed : Nat := 0
def theMethod : MethodId := ⟨1, 2⟩
def args0 : Array Value := #[.int 5, .int 300, .int 7, .int 5, .int 6]
def aboutOver (below : List Frame) : State where
  vm := { classes := classes, interned := interned.toArray }
  heap := heap
  slotsUsed := slotsUsed
  threads := #[{ frames := .invoking theMethod args0 :: below }]
def below0 : List Frame := [.native { method := ⟨0, 0⟩, args := #[] }]
def about1 : State := aboutOver below0
def p0 : Program := .bare "" "" ""
def e0 : Env := launch0.env 0 0 0
theorem w_frames : about1.frames = Frame.invoking theMethod args0 :: below0 := rfl
set_option maxRecDepth 65536 in
theorem w_args : argsFit about1.vm theMethod args0 = true := by decide +kernel
set_option maxRecDepth 65536 in
theorem w_heap : heapFits about1 = true := by decide +kernel
set_option maxRecDepth 65536 in
theorem w_runnable : about1.curStatus? = some .runnable := by decide +kernel
set_option maxRecDepth 65536 in
theorem w_alone : about1.alone = true := by decide +kernel
set_option maxRecDepth 65536 in
theorem w_named : about1.methodNamed? x = some theMethod := by decide +kernel
set_option maxRecDepth 65536 in
theorem w_hears : about1.hears theMethod below0 = true := by decide +kernel
set_option maxRecDepth 65536 in
theorem w_ripe : about1.ripe theMethod args0 below0 = true := by decide +kernel
theorem w_running : about1.status = .running := rfl
set_option maxRecDepth 65536 in
theorem w_room : about1.hasRoom e0.platform room_1 = true :=
  launch0.hasRoom_least _ room_1 (by decide +kernel) (by decide +kernel) (by decide +kernel) (by decide +kernel) (by decide +kernel) (by decide +kernel)
theorem allAtoms_all (ts : List Jvm.Cond) (a : Array Jvm.Value) (st : Jvm.State) : (allAtoms ts).before a st = ts.all (fun c => c.before a st) := by
  induction ts with
  | nil => rfl
  | cons c t ih =>
    show (Jvm.Cond.and c (allAtoms t)).before a st = _
    rw [Jvm.Cond.before_and, ih, List.all_cons]
def words1 : List Jvm.Cond := Jvm.Cond.code x code maxLocals ret :: tables_1
/-- a 'code' word, met by the world's own term for the bytes: nothing is compared byte by byte -/
theorem code_word {y : MethodName} {bytes : ByteArray} {mx : Nat} {rt : Option FieldType} {a : Array Value} {s : State} {m : MethodId} {meth : Method} {c : Code} (h1 : s.methodNamed? y = some m) (h2 : s.vm.method? m = some meth) (h3 : meth.code = some c) (h4 : c.code = bytes)
    (h5 : (c.maxLocals == mx && c.exceptionTable.isEmpty && decide (c.maxStack ≤ mostOperands) && decide (meth.sig.returnType = rt) && !meth.locks && decide (parseMethodDescriptor y.desc = some meth.sig)) = true) : (Jvm.Cond.code y bytes mx rt).before a s = true := by
  simp only [Bool.and_eq_true, beq_iff_eq, Bool.not_eq_true', decide_eq_true_eq] at h5
  obtain ⟨⟨⟨⟨⟨g1, g2⟩, g3⟩, g4⟩, g5⟩, g6⟩ := h5
  simp [Cond.before, Cond.holds, Cond.value, h1, h2, h3, h4, g1, g2, g3, g4, g5, g6]
def isCode : Jvm.Cond → Bool
  | .code _ _ _ _ => true
  | _ => false
theorem all_split {L : List Jvm.Cond} {P : Jvm.Cond → Bool} (h1 : L.all (fun c => isCode c || P c) = true) (h2 : ∀ c ∈ L.filter isCode, P c = true) : L.all P = true := by
  refine List.all_eq_true.mpr fun c hc => ?_
  have h := List.all_eq_true.mp h1 c hc
  rcases Bool.eq_false_or_eq_true (isCode c) with hi | hi
  · exact h2 c (List.mem_filter.mpr ⟨hc, hi⟩)
  · simpa [hi] using h
set_option maxRecDepth 65536 in
theorem w_c0 : (Jvm.Cond.code x code maxLocals ret).before args0 about1 = true := code_word (m := ⟨1, 2⟩) (meth := k1m2) (c := k1c2) (by decide +kernel) rfl rfl rfl (by decide +kernel)
set_option maxRecDepth 65536 in
theorem w_c1 : (Jvm.Cond.code ({ cls := "com/example/strict_reach/strictreach/IntList", name := "<init>", desc := "()V" } : Jvm.MethodName) prog_9_method_1_code (1 : Nat) (Option.none : Option Jvm.ClassFile.FieldType)).before args0 about1 = true := code_word (m := ⟨2, 0⟩) (meth := k2m0) (c := k2c0) (by decide +kernel) rfl rfl rfl (by decide +kernel)
set_option maxRecDepth 65536 in
theorem w_c2 : (Jvm.Cond.code ({ cls := "java/lang/Object", name := "<init>", desc := "()V" } : Jvm.MethodName) object_method_1_code (1 : Nat) (Option.none : Option Jvm.ClassFile.FieldType)).before args0 about1 = true := code_word (m := ⟨0, 0⟩) (meth := k0m0) (c := k0c0) (by decide +kernel) rfl rfl rfl (by decide +kernel)
set_option maxRecDepth 65536 in
theorem w_c3 : (Jvm.Cond.code ({ cls := "com/example/strict_reach/strictreach/IntList", name := "add", desc := "(I)V" } : Jvm.MethodName) prog_9_method_2_code (2 : Nat) (Option.none : Option Jvm.ClassFile.FieldType)).before args0 about1 = true := code_word (m := ⟨2, 1⟩) (meth := k2m1) (c := k2c1) (by decide +kernel) rfl rfl rfl (by decide +kernel)
set_option maxRecDepth 65536 in
theorem w_c4 : (Jvm.Cond.code ({ cls := "com/example/strict_reach/strictreach/IntList", name := "room", desc := "()[I" } : Jvm.MethodName) prog_9_method_9_code (3 : Nat) (Option.some (Jvm.ClassFile.FieldType.array Jvm.ClassFile.FieldType.int))).before args0 about1 = true := code_word (m := ⟨2, 5⟩) (meth := k2m5) (c := k2c5) (by decide +kernel) rfl rfl rfl (by decide +kernel)
set_option maxRecDepth 65536 in
theorem w_c5 : (Jvm.Cond.code ({ cls := "com/example/strict_reach/strictreach/IntList", name := "set", desc := "(II)V" } : Jvm.MethodName) prog_9_method_5_code (3 : Nat) (Option.none : Option Jvm.ClassFile.FieldType)).before args0 about1 = true := code_word (m := ⟨2, 3⟩) (meth := k2m3) (c := k2c3) (by decide +kernel) rfl rfl rfl (by decide +kernel)
set_option maxRecDepth 65536 in
theorem w_c6 : (Jvm.Cond.code ({ cls := "java/util/Objects", name := "checkIndex", desc := "(II)I" } : Jvm.MethodName) jdk_31_method_17_code (2 : Nat) (Option.some Jvm.ClassFile.FieldType.int)).before args0 about1 = true := code_word (m := ⟨3, 1⟩) (meth := k3m1) (c := k3c1) (by decide +kernel) rfl rfl rfl (by decide +kernel)
set_option maxRecDepth 65536 in
theorem w_c7 : (Jvm.Cond.code ({ cls := "jdk/internal/util/Preconditions", name := "checkIndex", desc := "(IILjava/util/function/BiFunction;)I" } : Jvm.MethodName) jdk_41_method_11_code (3 : Nat) (Option.some Jvm.ClassFile.FieldType.int)).before args0 about1 = true := code_word (m := ⟨4, 1⟩) (meth := k4m1) (c := k4c1) (by decide +kernel) rfl rfl rfl (by decide +kernel)
set_option maxRecDepth 65536 in
theorem w_c8 : (Jvm.Cond.code ({ cls := "com/example/strict_reach/strictreach/IntList", name := "size", desc := "()I" } : Jvm.MethodName) prog_9_method_6_code (1 : Nat) (Option.some Jvm.ClassFile.FieldType.int)).before args0 about1 = true := code_word (m := ⟨2, 4⟩) (meth := k2m4) (c := k2c4) (by decide +kernel) rfl rfl rfl (by decide +kernel)
set_option maxRecDepth 65536 in
theorem w_c9 : (Jvm.Cond.code ({ cls := "com/example/strict_reach/strictreach/IntList", name := "get", desc := "(I)I" } : Jvm.MethodName) prog_9_method_4_code (2 : Nat) (Option.some Jvm.ClassFile.FieldType.int)).before args0 about1 = true := code_word (m := ⟨2, 2⟩) (meth := k2m2) (c := k2c2) (by decide +kernel) rfl rfl rfl (by decide +kernel)
set_option maxRecDepth 65536 in
theorem w_c10 : (Jvm.Cond.code ({ cls := "com/example/strict_reach/strictreach/IntListSetPinLaw", name := "expect", desc := "(III[I)I" } : Jvm.MethodName) method_2_code (4 : Nat) (Option.some Jvm.ClassFile.FieldType.int)).before args0 about1 = true := code_word (m := ⟨1, 1⟩) (meth := k1m1) (c := k1c1) (by decide +kernel) rfl rfl rfl (by decide +kernel)
def codes1 : List Jvm.Cond := [Jvm.Cond.code x code maxLocals ret, Jvm.Cond.code ({ cls := "com/example/strict_reach/strictreach/IntList", name := "<init>", desc := "()V" } : Jvm.MethodName) prog_9_method_1_code (1 : Nat) (Option.none : Option Jvm.ClassFile.FieldType), Jvm.Cond.code ({ cls := "java/lang/Object", name := "<init>", desc := "()V" } : Jvm.MethodName) object_method_1_code (1 : Nat) (Option.none : Option Jvm.ClassFile.FieldType), Jvm.Cond.code ({ cls := "com/example/strict_reach/strictreach/IntList", name := "add", desc := "(I)V" } : Jvm.MethodName) prog_9_method_2_code (2 : Nat) (Option.none : Option Jvm.ClassFile.FieldType), Jvm.Cond.code ({ cls := "com/example/strict_reach/strictreach/IntList", name := "room", desc := "()[I" } : Jvm.MethodName) prog_9_method_9_code (3 : Nat) (Option.some (Jvm.ClassFile.FieldType.array Jvm.ClassFile.FieldType.int)), Jvm.Cond.code ({ cls := "com/example/strict_reach/strictreach/IntList", name := "set", desc := "(II)V" } : Jvm.MethodName) prog_9_method_5_code (3 : Nat) (Option.none : Option Jvm.ClassFile.FieldType), Jvm.Cond.code ({ cls := "java/util/Objects", name := "checkIndex", desc := "(II)I" } : Jvm.MethodName) jdk_31_method_17_code (2 : Nat) (Option.some Jvm.ClassFile.FieldType.int), Jvm.Cond.code ({ cls := "jdk/internal/util/Preconditions", name := "checkIndex", desc := "(IILjava/util/function/BiFunction;)I" } : Jvm.MethodName) jdk_41_method_11_code (3 : Nat) (Option.some Jvm.ClassFile.FieldType.int), Jvm.Cond.code ({ cls := "com/example/strict_reach/strictreach/IntList", name := "size", desc := "()I" } : Jvm.MethodName) prog_9_method_6_code (1 : Nat) (Option.some Jvm.ClassFile.FieldType.int), Jvm.Cond.code ({ cls := "com/example/strict_reach/strictreach/IntList", name := "get", desc := "(I)I" } : Jvm.MethodName) prog_9_method_4_code (2 : Nat) (Option.some Jvm.ClassFile.FieldType.int), Jvm.Cond.code ({ cls := "com/example/strict_reach/strictreach/IntListSetPinLaw", name := "expect", desc := "(III[I)I" } : Jvm.MethodName) method_2_code (4 : Nat) (Option.some Jvm.ClassFile.FieldType.int)]
set_option maxRecDepth 65536 in
theorem codes_eq : words1.filter isCode = codes1 := rfl
theorem w_codes : ∀ c ∈ words1.filter isCode, c.before args0 about1 = true := by
  rw [codes_eq]
  intro c hc
  simp only [codes1, List.mem_cons, List.not_mem_nil, or_false] at hc
  rcases hc with rfl | rfl | rfl | rfl | rfl | rfl | rfl | rfl | rfl | rfl | rfl
  · exact w_c0
  · exact w_c1
  · exact w_c2
  · exact w_c3
  · exact w_c4
  · exact w_c5
  · exact w_c6
  · exact w_c7
  · exact w_c8
  · exact w_c9
  · exact w_c10
set_option maxRecDepth 65536 in
theorem w_t1 : (words1.take 24).all (fun c => isCode c || c.before args0 about1) = true := by decide +kernel
set_option maxRecDepth 65536 in
theorem w_t2 : ((words1.drop 24).take 24).all (fun c => isCode c || c.before args0 about1) = true := by decide +kernel
set_option maxRecDepth 65536 in
theorem w_t3 : ((words1.drop 24).drop 24).all (fun c => isCode c || c.before args0 about1) = true := by decide +kernel
theorem w_tables : (allAtoms (Jvm.Cond.code x code maxLocals ret :: tables_1)).before args0 about1 = true := by
  rw [allAtoms_all]
  show words1.all (fun c => c.before args0 about1) = true
  refine all_split ?_ w_codes
  rw [← List.take_append_drop 24 words1, List.all_append, w_t1, ← List.take_append_drop 24 (words1.drop 24), List.all_append, w_t2, w_t3]
  rfl
set_option maxRecDepth 65536 in
theorem w_case : (Jvm.Cond.and given_1 narrow_1).before args0 about1 = true := by decide +kernel
theorem w_applies : (headSpec (Jvm.Cond.code x code maxLocals ret :: tables_1) room_1).applies x e0.platform about1 = true :=
  (Spec.applies_iff w_frames).mpr ⟨w_running, w_runnable, w_alone, w_named, w_hears, w_ripe, w_room, w_tables⟩
theorem atStart : AtStart classFile x code maxLocals ret World_1 tables_1 room_1 Calls_1 rest_1 Pre_1 launch0 p0 e0 about1 theMethod args0 below0 :=
  ⟨lists_1, trivial, launch0.admits_env _ _ _, launch0.least_env, fairChoices_fair.cas, fairChoices_fair.clock, w_frames, w_args, w_heap, w_applies, trivial, trivial, w_case⟩
end start1
theorem witness_1 : WitnessClaimed_1 := ⟨start1.p0, start1.e0, start1.about1, start1.theMethod, start1.args0, start1.below0, start1.atStart⟩
end Jvm.Pilot.@@N@@
