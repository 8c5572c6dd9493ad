import JvmDerived
import JvmDerived.Pilot.@@N@@Statement
import JvmDerived.Pilot.@@N@@Code
set_option linter.unusedVariables false
set_option linter.unusedSimpArgs false
namespace Jvm.OwnK
open Sem ClassFile Op Lib Jvm.Stand Jvm.Free Jvm.LawKit Jvm.RoadKit Bundle
/-- from the frame f at T the run ends, and P holds of its end -/
def Go (tb : Tables) (e : Env) (below : List Frame) (P : Outcome → State → Prop) (T : State) (f : JFrame) : Prop :=
  ∃ s₂ o, Steps tb e below (T.setTop f) s₂ ∧ s₂.status = .running ∧ Ended s₂ below o ∧ P o s₂
abbrev PQ (s : State) (Q : Option Value → Heap → List Loc → Prop) (C N : Nat) : Outcome → State → Prop := fun o U' => ∃ v L, o = .returned v ∧ Q v U'.heap L ∧ FrameEnd s o U' L C N
theorem Go.st {tb : Tables} {e : Env} {below : List Frame} {P : Outcome → State → Prop} {T T' : State} {f f' : JFrame} (h : ∀ t, Steps tb e below (T'.setTop f') t → Steps tb e below (T.setTop f) t) (k : Go tb e below P T' f') : Go tb e below P T f := by
  obtain ⟨s₂, o, h1, h2⟩ := k; exact ⟨s₂, o, h _ h1, h2⟩
theorem Go.st1 {tb : Tables} {e : Env} {below : List Frame} {P : Outcome → State → Prop} {T T' : State} {f f' : JFrame} (h : Steps tb e below (T.setTop f) (T'.setTop f')) (k : Go tb e below P T' f') : Go tb e below P T f :=
  Go.st (fun t q => h.trans q) k
theorem tI {x : Int32} {n : Int} (h : x.toInt = n) : x = Int32.ofInt n := by subst h; simp
section Steps
variable {p : Program} {l : Launch} {e : Env} {R : Room} {s : State} {m : MethodId} {args : Array Value} {below : List Frame} {meth : Method} {c : Code} {T : State} {locs : List Loc} {cells slots : Nat} {P : Outcome → State → Prop} {pc pc' : Nat} {Ls : Array Slot} {S : List Value} {Z : State} {a0 : Array Value} {h : Heap}
theorem iload (X : Stand p l e R s m args below meth c T locs cells slots) (hx : p.tables.exec = Jvm.exec) {j : Nat} {v : Int32} (hd : decode c.code pc = .ok (.iload j, 2)) (hp : pc' = pc + 2) (hl : Ls[j]? = some (.val (.int v)))
    (k : Go p.tables e below P T (mkF m pc' Ls (.int v :: S))) : Go p.tables e below P T (mkF m pc Ls (S)) := by
  subst hp; exact Go.st (fun t q => XS.iload X.here hx rfl hd  hl q) k
theorem iloadN (X : Stand p l e R s m args below meth c T locs cells slots) (hx : p.tables.exec = Jvm.exec) {j : Fin 4} {v : Int32} (hd : decode c.code pc = .ok (.iload_n j, 1)) (hp : pc' = pc + 1) (hl : Ls[j.val]? = some (.val (.int v)))
    (k : Go p.tables e below P T (mkF m pc' Ls (.int v :: S))) : Go p.tables e below P T (mkF m pc Ls (S)) := by
  subst hp; exact Go.st (fun t q => XS.iloadN X.here hx rfl hd  hl q) k
theorem aload (X : Stand p l e R s m args below meth c T locs cells slots) (hx : p.tables.exec = Jvm.exec) {j : Nat} {v : Value} (hd : decode c.code pc = .ok (.aload j, 2)) (hp : pc' = pc + 2) (hl : Ls[j]? = some (.val v)) (hv : v.isRef = true)
    (k : Go p.tables e below P T (mkF m pc' Ls (v :: S))) : Go p.tables e below P T (mkF m pc Ls (S)) := by
  subst hp; exact Go.st (fun t q => XS.aload X.here hx rfl hd  hl hv q) k
theorem aloadN (X : Stand p l e R s m args below meth c T locs cells slots) (hx : p.tables.exec = Jvm.exec) {j : Fin 4} {v : Value} (hd : decode c.code pc = .ok (.aload_n j, 1)) (hp : pc' = pc + 1) (hl : Ls[j.val]? = some (.val v)) (hv : v.isRef = true)
    (k : Go p.tables e below P T (mkF m pc' Ls (v :: S))) : Go p.tables e below P T (mkF m pc Ls (S)) := by
  subst hp; exact Go.st (fun t q => XS.aloadN X.here hx rfl hd  hl hv q) k
theorem istore (X : Stand p l e R s m args below meth c T locs cells slots) (hx : p.tables.exec = Jvm.exec) {j : Nat} {v : Int32} {Ls' : Array Slot} (hd : decode c.code pc = .ok (.istore j, 2)) (hp : pc' = pc + 2) (hl : storeLocals Ls j (.int v) = some Ls')
    (k : Go p.tables e below P T (mkF m pc' Ls' (S))) : Go p.tables e below P T (mkF m pc Ls (.int v :: S)) := by
  subst hp; exact Go.st (fun t q => XS.istore X.here hx rfl hd rfl hl q) k
theorem istoreN (X : Stand p l e R s m args below meth c T locs cells slots) (hx : p.tables.exec = Jvm.exec) {j : Fin 4} {v : Int32} {Ls' : Array Slot} (hd : decode c.code pc = .ok (.istore_n j, 1)) (hp : pc' = pc + 1) (hl : storeLocals Ls j.val (.int v) = some Ls')
    (k : Go p.tables e below P T (mkF m pc' Ls' (S))) : Go p.tables e below P T (mkF m pc Ls (.int v :: S)) := by
  subst hp; exact Go.st (fun t q => XS.istoreN X.here hx rfl hd rfl hl q) k
theorem astore (X : Stand p l e R s m args below meth c T locs cells slots) (hx : p.tables.exec = Jvm.exec) {j : Nat} {v : Value} {Ls' : Array Slot} (hd : decode c.code pc = .ok (.astore j, 2)) (hp : pc' = pc + 2) (hv : v.isRef = true) (hl : storeLocals Ls j v = some Ls')
    (k : Go p.tables e below P T (mkF m pc' Ls' (S))) : Go p.tables e below P T (mkF m pc Ls (v :: S)) := by
  subst hp; exact Go.st (fun t q => XS.astore X.here hx rfl hd rfl hv hl q) k
theorem astoreN (X : Stand p l e R s m args below meth c T locs cells slots) (hx : p.tables.exec = Jvm.exec) {j : Fin 4} {v : Value} {Ls' : Array Slot} (hd : decode c.code pc = .ok (.astore_n j, 1)) (hp : pc' = pc + 1) (hv : v.isRef = true) (hl : storeLocals Ls j.val v = some Ls')
    (k : Go p.tables e below P T (mkF m pc' Ls' (S))) : Go p.tables e below P T (mkF m pc Ls (v :: S)) := by
  subst hp; exact Go.st (fun t q => XS.astoreN X.here hx rfl hd rfl hv hl q) k
theorem istoreG (X : Stand p l e R s m args below meth c T locs cells slots) (hx : p.tables.exec = Jvm.exec) {j : Nat} {v : Int32} {Ls' : Int32 → Array Slot} (hd : decode c.code pc = .ok (.istore j, 2)) (hp : pc' = pc + 2) (hl : ∀ u, storeLocals Ls j (.int u) = some (Ls' u))
    (k : ∀ u, u = v → Go p.tables e below P T (mkF m pc' (Ls' u) (S))) : Go p.tables e below P T (mkF m pc Ls (.int v :: S)) := istore X hx hd hp (hl v) (k v rfl)
theorem istoreNG (X : Stand p l e R s m args below meth c T locs cells slots) (hx : p.tables.exec = Jvm.exec) {j : Fin 4} {v : Int32} {Ls' : Int32 → Array Slot} (hd : decode c.code pc = .ok (.istore_n j, 1)) (hp : pc' = pc + 1) (hl : ∀ u, storeLocals Ls j.val (.int u) = some (Ls' u))
    (k : ∀ u, u = v → Go p.tables e below P T (mkF m pc' (Ls' u) (S))) : Go p.tables e below P T (mkF m pc Ls (.int v :: S)) := istoreN X hx hd hp (hl v) (k v rfl)
theorem iconst (X : Stand p l e R s m args below meth c T locs cells slots) (hx : p.tables.exec = Jvm.exec) {i : Int} {v : Int32} (hd : decode c.code pc = .ok (.iconst i, 1)) (hp : pc' = pc + 1) (hv : Int32.ofInt i = v)
    (k : Go p.tables e below P T (mkF m pc' Ls (.int v :: S))) : Go p.tables e below P T (mkF m pc Ls (S)) := by
  subst hp hv; exact Go.st (fun t q => XS.iconst X.here hx rfl hd q) k
theorem bipush (X : Stand p l e R s m args below meth c T locs cells slots) (hx : p.tables.exec = Jvm.exec) {i : Int} {v : Int32} (hd : decode c.code pc = .ok (.bipush i, 2)) (hp : pc' = pc + 2) (hv : (Int8.ofInt i).toInt32 = v)
    (k : Go p.tables e below P T (mkF m pc' Ls (.int v :: S))) : Go p.tables e below P T (mkF m pc Ls (S)) := by
  subst hp hv; exact Go.st (fun t q => XS.bipush X.here hx rfl hd q) k
theorem sipush (X : Stand p l e R s m args below meth c T locs cells slots) (hx : p.tables.exec = Jvm.exec) {i : Int} {v : Int32} (hd : decode c.code pc = .ok (.sipush i, 3)) (hp : pc' = pc + 3) (hv : (Int16.ofInt i).toInt32 = v)
    (k : Go p.tables e below P T (mkF m pc' Ls (.int v :: S))) : Go p.tables e below P T (mkF m pc Ls (S)) := by
  subst hp hv; exact Go.st (fun t q => XS.sipush X.here hx rfl hd q) k
theorem aconstNull (X : Stand p l e R s m args below meth c T locs cells slots) (hx : p.tables.exec = Jvm.exec)  (hd : decode c.code pc = .ok (.aconst_null, 1)) (hp : pc' = pc + 1)
    (k : Go p.tables e below P T (mkF m pc' Ls (.null :: S))) : Go p.tables e below P T (mkF m pc Ls (S)) := by
  subst hp; exact Go.st (fun t q => XS.aconstNull X.here hx rfl hd   q) k
theorem iadd (X : Stand p l e R s m args below meth c T locs cells slots) (hx : p.tables.exec = Jvm.exec) {x y : Int32} (hd : decode c.code pc = .ok (.iadd, 1)) (hp : pc' = pc + 1)
    (k : Go p.tables e below P T (mkF m pc' Ls (.int (x + y) :: S))) : Go p.tables e below P T (mkF m pc Ls (.int y :: .int x :: S)) := by
  subst hp; exact Go.st (fun t q => XS.iadd X.here hx rfl hd rfl  q) k
theorem isub (X : Stand p l e R s m args below meth c T locs cells slots) (hx : p.tables.exec = Jvm.exec) {x y : Int32} (hd : decode c.code pc = .ok (.isub, 1)) (hp : pc' = pc + 1)
    (k : Go p.tables e below P T (mkF m pc' Ls (.int (x - y) :: S))) : Go p.tables e below P T (mkF m pc Ls (.int y :: .int x :: S)) := by
  subst hp; exact Go.st (fun t q => XS.isub X.here hx rfl hd rfl  q) k
theorem iand (X : Stand p l e R s m args below meth c T locs cells slots) (hx : p.tables.exec = Jvm.exec) {x y : Int32} (hd : decode c.code pc = .ok (.iand, 1)) (hp : pc' = pc + 1)
    (k : Go p.tables e below P T (mkF m pc' Ls (.int (x &&& y) :: S))) : Go p.tables e below P T (mkF m pc Ls (.int y :: .int x :: S)) := by
  subst hp; exact Go.st (fun t q => XS.iand X.here hx rfl hd rfl  q) k
theorem imul (X : Stand p l e R s m args below meth c T locs cells slots) (hx : p.tables.exec = Jvm.exec) {x y : Int32} (hd : decode c.code pc = .ok (.imul, 1)) (hp : pc' = pc + 1)
    (k : Go p.tables e below P T (mkF m pc' Ls (.int (x * y) :: S))) : Go p.tables e below P T (mkF m pc Ls (.int y :: .int x :: S)) := by
  subst hp; exact Go.st (fun t q => XS.imul X.here hx rfl hd rfl  q) k
theorem ixor (X : Stand p l e R s m args below meth c T locs cells slots) (hx : p.tables.exec = Jvm.exec) {x y : Int32} (hd : decode c.code pc = .ok (.ixor, 1)) (hp : pc' = pc + 1)
    (k : Go p.tables e below P T (mkF m pc' Ls (.int (x ^^^ y) :: S))) : Go p.tables e below P T (mkF m pc Ls (.int y :: .int x :: S)) := by
  subst hp; exact Go.st (fun t q => XT.ixor X.here hx rfl hd rfl  q) k
theorem iushr (X : Stand p l e R s m args below meth c T locs cells slots) (hx : p.tables.exec = Jvm.exec) {x y : Int32} (hd : decode c.code pc = .ok (.iushr, 1)) (hp : pc' = pc + 1)
    (k : Go p.tables e below P T (mkF m pc' Ls (.int (XT.ushr x y) :: S))) : Go p.tables e below P T (mkF m pc Ls (.int y :: .int x :: S)) := by
  subst hp; exact Go.st (fun t q => XT.iushr X.here hx rfl hd rfl  q) k
theorem iaddL (X : Stand p l e R s m args below meth c T locs cells slots) (hx : p.tables.exec = Jvm.exec) {x y z : Int32} (hd : decode c.code pc = .ok (.iadd, 1)) (hp : pc' = pc + 1) (hz : (x + y) = z)
    (k : Go p.tables e below P T (mkF m pc' Ls (.int z :: S))) : Go p.tables e below P T (mkF m pc Ls (.int y :: .int x :: S)) := by
  subst hz; exact iadd X hx hd hp k
theorem isubL (X : Stand p l e R s m args below meth c T locs cells slots) (hx : p.tables.exec = Jvm.exec) {x y z : Int32} (hd : decode c.code pc = .ok (.isub, 1)) (hp : pc' = pc + 1) (hz : (x - y) = z)
    (k : Go p.tables e below P T (mkF m pc' Ls (.int z :: S))) : Go p.tables e below P T (mkF m pc Ls (.int y :: .int x :: S)) := by
  subst hz; exact isub X hx hd hp k
theorem imulL (X : Stand p l e R s m args below meth c T locs cells slots) (hx : p.tables.exec = Jvm.exec) {x y z : Int32} (hd : decode c.code pc = .ok (.imul, 1)) (hp : pc' = pc + 1) (hz : (x * y) = z)
    (k : Go p.tables e below P T (mkF m pc' Ls (.int z :: S))) : Go p.tables e below P T (mkF m pc Ls (.int y :: .int x :: S)) := by
  subst hz; exact imul X hx hd hp k
theorem iushrL (X : Stand p l e R s m args below meth c T locs cells slots) (hx : p.tables.exec = Jvm.exec) {x y z : Int32} (hd : decode c.code pc = .ok (.iushr, 1)) (hp : pc' = pc + 1) (hz : (XT.ushr x y) = z)
    (k : Go p.tables e below P T (mkF m pc' Ls (.int z :: S))) : Go p.tables e below P T (mkF m pc Ls (.int y :: .int x :: S)) := by
  subst hz; exact iushr X hx hd hp k
theorem i2b (X : Stand p l e R s m args below meth c T locs cells slots) (hx : p.tables.exec = Jvm.exec) {x : Int32} (hd : decode c.code pc = .ok (.i2b, 1)) (hp : pc' = pc + 1)
    (k : Go p.tables e below P T (mkF m pc' Ls (.int (x.toInt8.toInt32) :: S))) : Go p.tables e below P T (mkF m pc Ls (.int x :: S)) := by
  subst hp; exact Go.st (fun t q => XT.i2b X.here hx rfl hd rfl  q) k
theorem i2c (X : Stand p l e R s m args below meth c T locs cells slots) (hx : p.tables.exec = Jvm.exec) {x : Int32} (hd : decode c.code pc = .ok (.i2c, 1)) (hp : pc' = pc + 1)
    (k : Go p.tables e below P T (mkF m pc' Ls (.int (x.toUInt32.toUInt16.toUInt32.toInt32) :: S))) : Go p.tables e below P T (mkF m pc Ls (.int x :: S)) := by
  subst hp; exact Go.st (fun t q => XT.i2c X.here hx rfl hd rfl  q) k
theorem dup (X : Stand p l e R s m args below meth c T locs cells slots) (hx : p.tables.exec = Jvm.exec) {x : Value} (hd : decode c.code pc = .ok (.dup, 1)) (hp : pc' = pc + 1) (hc : x.category = 1)
    (k : Go p.tables e below P T (mkF m pc' Ls (x :: x :: S))) : Go p.tables e below P T (mkF m pc Ls (x :: S)) := by
  subst hp; exact Go.st (fun t q => XS.dup X.here hx rfl hd rfl hc q) k
theorem pop (X : Stand p l e R s m args below meth c T locs cells slots) (hx : p.tables.exec = Jvm.exec) {x : Value} (hd : decode c.code pc = .ok (.pop, 1)) (hp : pc' = pc + 1) (hc : x.category = 1)
    (k : Go p.tables e below P T (mkF m pc' Ls (S))) : Go p.tables e below P T (mkF m pc Ls (x :: S)) := by
  subst hp; exact Go.st (fun t q => XT.pop X.here hx rfl hd rfl hc q) k
theorem dupX1 (X : Stand p l e R s m args below meth c T locs cells slots) (hx : p.tables.exec = Jvm.exec) {x y : Value} (hd : decode c.code pc = .ok (.dup_x1, 1)) (hp : pc' = pc + 1) (hc : x.category = 1) (hc' : y.category = 1)
    (k : Go p.tables e below P T (mkF m pc' Ls (x :: y :: x :: S))) : Go p.tables e below P T (mkF m pc Ls (x :: y :: S)) := by
  subst hp; exact Go.st (fun t q => XT.dupX1 X.here hx rfl hd rfl hc hc' q) k
theorem iinc (X : Stand p l e R s m args below meth c T locs cells slots) (hx : p.tables.exec = Jvm.exec) {j : Nat} {i : Int} {x v : Int32} {Ls' : Array Slot} (hd : decode c.code pc = .ok (.iinc j i, 3)) (hp : pc' = pc + 3) (hv : Int32.ofInt i = v) (hl : Ls[j]? = some (.val (.int x))) (hl' : storeLocals Ls j (.int (x + v)) = some Ls')
    (k : Go p.tables e below P T (mkF m pc' Ls' (S))) : Go p.tables e below P T (mkF m pc Ls (S)) := by
  subst hp hv; exact Go.st (fun t q => XS.iinc X.here hx rfl hd hl hl' q) k
theorem iincL (X : Stand p l e R s m args below meth c T locs cells slots) (hx : p.tables.exec = Jvm.exec) {j : Nat} {i : Int} {x v : Int32} {Ls' : Array Slot} (hd : decode c.code pc = .ok (.iinc j i, 3)) (hp : pc' = pc + 3) (hl : Ls[j]? = some (.val (.int x))) (hv : x + Int32.ofInt i = v) (hl' : storeLocals Ls j (.int v) = some Ls')
    (k : Go p.tables e below P T (mkF m pc' Ls' (S))) : Go p.tables e below P T (mkF m pc Ls (S)) := by
  subst hv; exact iinc X hx hd hp rfl hl hl' k
theorem goto_ (X : Stand p l e R s m args below meth c T locs cells slots) (hx : p.tables.exec = Jvm.exec) {o : Int} (hd : decode c.code pc = .ok (.goto o, 3)) (ho : 0 ≤ (pc : Int) + o) (hp : ((pc : Int) + o).toNat = pc')
    (k : Go p.tables e below P T (mkF m pc' Ls (S))) : Go p.tables e below P T (mkF m pc Ls (S)) :=
  Go.st (fun t q => XS.goto X.here hx rfl rfl hd ho hp q) k
theorem h_lt (x y : Int32) : if_icmp.holds .lt x y = decide (x.toInt < y.toInt) := by simp [if_icmp.holds, Int32.lt_iff_toInt_lt]
theorem h_ge (x y : Int32) : if_icmp.holds .ge x y = decide (y.toInt ≤ x.toInt) := by simp [if_icmp.holds, Int32.le_iff_toInt_le]
theorem h_gt (x y : Int32) : if_icmp.holds .gt x y = decide (y.toInt < x.toInt) := by simp [if_icmp.holds, Int32.lt_iff_toInt_lt]
theorem h_le (x y : Int32) : if_icmp.holds .le x y = decide (x.toInt ≤ y.toInt) := by simp [if_icmp.holds, Int32.le_iff_toInt_le]
theorem h_eq (x y : Int32) : if_icmp.holds .eq x y = decide (x.toInt = y.toInt) := by rw [Bool.eq_iff_iff]; simp [if_icmp.holds, Int32.toInt_inj]
theorem h_ne (x y : Int32) : if_icmp.holds .ne x y = decide (¬ x.toInt = y.toInt) := by rw [Bool.eq_iff_iff]; simp [if_icmp.holds, Int32.toInt_inj]
theorem z_any (cd : ClassFile.Cond) (x : Int32) : ifCond.holds cd x = if_icmp.holds cd x 0 := by cases cd <;> simp [ifCond.holds, if_icmp.holds]
theorem z0 : (0 : Int32).toInt = 0 := by decide
theorem icmp_lt (X : Stand p l e R s m args below meth c T locs cells slots) (hx : p.tables.exec = Jvm.exec) {o : Int} {x y : Int32} {pcT : Nat} (hd : decode c.code pc = .ok (.if_icmp .lt o, 3)) (ho : 0 ≤ (pc : Int) + o) (hT : ((pc : Int) + o).toNat = pcT) (hp : pc' = pc + 3)
    (kt : x.toInt < y.toInt → Go p.tables e below P T (mkF m pcT Ls (S))) (kf : y.toInt ≤ x.toInt → Go p.tables e below P T (mkF m pc' Ls (S))) : Go p.tables e below P T (mkF m pc Ls (.int y :: .int x :: S)) := by
  subst hp
  by_cases q : x.toInt < y.toInt
  · exact Go.st (fun t r => XS.icmpYes X.here hx rfl rfl hd rfl (by rw [h_lt]; exact decide_eq_true q) ho hT r) (kt q)
  · exact Go.st (fun t r => XS.icmpNo X.here hx rfl hd rfl (by rw [h_lt]; exact decide_eq_false q) r) (kf (by omega))
theorem if_lt (X : Stand p l e R s m args below meth c T locs cells slots) (hx : p.tables.exec = Jvm.exec) {o : Int} {x : Int32} {pcT : Nat} (hd : decode c.code pc = .ok (.ifCond .lt o, 3)) (ho : 0 ≤ (pc : Int) + o) (hT : ((pc : Int) + o).toNat = pcT) (hp : pc' = pc + 3)
    (kt : x.toInt < 0 → Go p.tables e below P T (mkF m pcT Ls (S))) (kf : 0 ≤ x.toInt → Go p.tables e below P T (mkF m pc' Ls (S))) : Go p.tables e below P T (mkF m pc Ls (.int x :: S)) := by
  subst hp
  by_cases q : x.toInt < 0
  · exact Go.st (fun t r => XS.ifYes X.here hx rfl rfl hd rfl (by rw [z_any, h_lt, z0]; exact decide_eq_true q) ho hT r) (kt q)
  · exact Go.st (fun t r => XS.ifNo X.here hx rfl hd rfl (by rw [z_any, h_lt, z0]; exact decide_eq_false q) r) (kf (by omega))
theorem icmp_ge (X : Stand p l e R s m args below meth c T locs cells slots) (hx : p.tables.exec = Jvm.exec) {o : Int} {x y : Int32} {pcT : Nat} (hd : decode c.code pc = .ok (.if_icmp .ge o, 3)) (ho : 0 ≤ (pc : Int) + o) (hT : ((pc : Int) + o).toNat = pcT) (hp : pc' = pc + 3)
    (kt : y.toInt ≤ x.toInt → Go p.tables e below P T (mkF m pcT Ls (S))) (kf : x.toInt < y.toInt → Go p.tables e below P T (mkF m pc' Ls (S))) : Go p.tables e below P T (mkF m pc Ls (.int y :: .int x :: S)) := by
  subst hp
  by_cases q : y.toInt ≤ x.toInt
  · exact Go.st (fun t r => XS.icmpYes X.here hx rfl rfl hd rfl (by rw [h_ge]; exact decide_eq_true q) ho hT r) (kt q)
  · exact Go.st (fun t r => XS.icmpNo X.here hx rfl hd rfl (by rw [h_ge]; exact decide_eq_false q) r) (kf (by omega))
theorem if_ge (X : Stand p l e R s m args below meth c T locs cells slots) (hx : p.tables.exec = Jvm.exec) {o : Int} {x : Int32} {pcT : Nat} (hd : decode c.code pc = .ok (.ifCond .ge o, 3)) (ho : 0 ≤ (pc : Int) + o) (hT : ((pc : Int) + o).toNat = pcT) (hp : pc' = pc + 3)
    (kt : 0 ≤ x.toInt → Go p.tables e below P T (mkF m pcT Ls (S))) (kf : x.toInt < 0 → Go p.tables e below P T (mkF m pc' Ls (S))) : Go p.tables e below P T (mkF m pc Ls (.int x :: S)) := by
  subst hp
  by_cases q : 0 ≤ x.toInt
  · exact Go.st (fun t r => XS.ifYes X.here hx rfl rfl hd rfl (by rw [z_any, h_ge, z0]; exact decide_eq_true q) ho hT r) (kt q)
  · exact Go.st (fun t r => XS.ifNo X.here hx rfl hd rfl (by rw [z_any, h_ge, z0]; exact decide_eq_false q) r) (kf (by omega))
theorem icmp_gt (X : Stand p l e R s m args below meth c T locs cells slots) (hx : p.tables.exec = Jvm.exec) {o : Int} {x y : Int32} {pcT : Nat} (hd : decode c.code pc = .ok (.if_icmp .gt o, 3)) (ho : 0 ≤ (pc : Int) + o) (hT : ((pc : Int) + o).toNat = pcT) (hp : pc' = pc + 3)
    (kt : y.toInt < x.toInt → Go p.tables e below P T (mkF m pcT Ls (S))) (kf : x.toInt ≤ y.toInt → Go p.tables e below P T (mkF m pc' Ls (S))) : Go p.tables e below P T (mkF m pc Ls (.int y :: .int x :: S)) := by
  subst hp
  by_cases q : y.toInt < x.toInt
  · exact Go.st (fun t r => XS.icmpYes X.here hx rfl rfl hd rfl (by rw [h_gt]; exact decide_eq_true q) ho hT r) (kt q)
  · exact Go.st (fun t r => XS.icmpNo X.here hx rfl hd rfl (by rw [h_gt]; exact decide_eq_false q) r) (kf (by omega))
theorem icmp_le (X : Stand p l e R s m args below meth c T locs cells slots) (hx : p.tables.exec = Jvm.exec) {o : Int} {x y : Int32} {pcT : Nat} (hd : decode c.code pc = .ok (.if_icmp .le o, 3)) (ho : 0 ≤ (pc : Int) + o) (hT : ((pc : Int) + o).toNat = pcT) (hp : pc' = pc + 3)
    (kt : x.toInt ≤ y.toInt → Go p.tables e below P T (mkF m pcT Ls (S))) (kf : y.toInt < x.toInt → Go p.tables e below P T (mkF m pc' Ls (S))) : Go p.tables e below P T (mkF m pc Ls (.int y :: .int x :: S)) := by
  subst hp
  by_cases q : x.toInt ≤ y.toInt
  · exact Go.st (fun t r => XS.icmpYes X.here hx rfl rfl hd rfl (by rw [h_le]; exact decide_eq_true q) ho hT r) (kt q)
  · exact Go.st (fun t r => XS.icmpNo X.here hx rfl hd rfl (by rw [h_le]; exact decide_eq_false q) r) (kf (by omega))
theorem icmp_eq (X : Stand p l e R s m args below meth c T locs cells slots) (hx : p.tables.exec = Jvm.exec) {o : Int} {x y : Int32} {pcT : Nat} (hd : decode c.code pc = .ok (.if_icmp .eq o, 3)) (ho : 0 ≤ (pc : Int) + o) (hT : ((pc : Int) + o).toNat = pcT) (hp : pc' = pc + 3)
    (kt : x.toInt = y.toInt → Go p.tables e below P T (mkF m pcT Ls (S))) (kf : ¬ x.toInt = y.toInt → Go p.tables e below P T (mkF m pc' Ls (S))) : Go p.tables e below P T (mkF m pc Ls (.int y :: .int x :: S)) := by
  subst hp
  by_cases q : x.toInt = y.toInt
  · exact Go.st (fun t r => XS.icmpYes X.here hx rfl rfl hd rfl (by rw [h_eq]; exact decide_eq_true q) ho hT r) (kt q)
  · exact Go.st (fun t r => XS.icmpNo X.here hx rfl hd rfl (by rw [h_eq]; exact decide_eq_false q) r) (kf (by omega))
theorem if_eq (X : Stand p l e R s m args below meth c T locs cells slots) (hx : p.tables.exec = Jvm.exec) {o : Int} {x : Int32} {pcT : Nat} (hd : decode c.code pc = .ok (.ifCond .eq o, 3)) (ho : 0 ≤ (pc : Int) + o) (hT : ((pc : Int) + o).toNat = pcT) (hp : pc' = pc + 3)
    (kt : x.toInt = 0 → Go p.tables e below P T (mkF m pcT Ls (S))) (kf : ¬ x.toInt = 0 → Go p.tables e below P T (mkF m pc' Ls (S))) : Go p.tables e below P T (mkF m pc Ls (.int x :: S)) := by
  subst hp
  by_cases q : x.toInt = 0
  · exact Go.st (fun t r => XS.ifYes X.here hx rfl rfl hd rfl (by rw [z_any, h_eq, z0]; exact decide_eq_true q) ho hT r) (kt q)
  · exact Go.st (fun t r => XS.ifNo X.here hx rfl hd rfl (by rw [z_any, h_eq, z0]; exact decide_eq_false q) r) (kf (by omega))
theorem icmp_ne (X : Stand p l e R s m args below meth c T locs cells slots) (hx : p.tables.exec = Jvm.exec) {o : Int} {x y : Int32} {pcT : Nat} (hd : decode c.code pc = .ok (.if_icmp .ne o, 3)) (ho : 0 ≤ (pc : Int) + o) (hT : ((pc : Int) + o).toNat = pcT) (hp : pc' = pc + 3)
    (kt : ¬ x.toInt = y.toInt → Go p.tables e below P T (mkF m pcT Ls (S))) (kf : x.toInt = y.toInt → Go p.tables e below P T (mkF m pc' Ls (S))) : Go p.tables e below P T (mkF m pc Ls (.int y :: .int x :: S)) := by
  subst hp
  by_cases q : ¬ x.toInt = y.toInt
  · exact Go.st (fun t r => XS.icmpYes X.here hx rfl rfl hd rfl (by rw [h_ne]; exact decide_eq_true q) ho hT r) (kt q)
  · exact Go.st (fun t r => XS.icmpNo X.here hx rfl hd rfl (by rw [h_ne]; exact decide_eq_false q) r) (kf (by omega))
theorem if_ne (X : Stand p l e R s m args below meth c T locs cells slots) (hx : p.tables.exec = Jvm.exec) {o : Int} {x : Int32} {pcT : Nat} (hd : decode c.code pc = .ok (.ifCond .ne o, 3)) (ho : 0 ≤ (pc : Int) + o) (hT : ((pc : Int) + o).toNat = pcT) (hp : pc' = pc + 3)
    (kt : ¬ x.toInt = 0 → Go p.tables e below P T (mkF m pcT Ls (S))) (kf : x.toInt = 0 → Go p.tables e below P T (mkF m pc' Ls (S))) : Go p.tables e below P T (mkF m pc Ls (.int x :: S)) := by
  subst hp
  by_cases q : ¬ x.toInt = 0
  · exact Go.st (fun t r => XS.ifYes X.here hx rfl rfl hd rfl (by rw [z_any, h_ne, z0]; exact decide_eq_true q) ho hT r) (kt q)
  · exact Go.st (fun t r => XS.ifNo X.here hx rfl hd rfl (by rw [z_any, h_ne, z0]; exact decide_eq_false q) r) (kf (by omega))
theorem acmp_ne (X : Stand p l e R s m args below meth c T locs cells slots) (hx : p.tables.exec = Jvm.exec) {o : Int} {x y : Value} {pcT : Nat} (hd : decode c.code pc = .ok (.if_acmp .ne o, 3)) (h1 : x.isRef = true) (h2 : y.isRef = true) (ho : 0 ≤ (pc : Int) + o) (hT : ((pc : Int) + o).toNat = pcT) (hp : pc' = pc + 3)
    (kt : ¬ x = y → Go p.tables e below P T (mkF m pcT Ls (S))) (kf : x = y → Go p.tables e below P T (mkF m pc' Ls (S))) : Go p.tables e below P T (mkF m pc Ls (y :: x :: S)) := by
  subst hp
  by_cases q : ¬ x = y
  · exact Go.st (fun t r => XT.acmpYes X.here hx rfl rfl hd rfl h1 h2 (XT.aa_ne_t q) ho hT r) (kt q)
  · exact Go.st (fun t r => XT.acmpNo X.here hx rfl hd rfl h1 h2 (XT.aa_ne_f (Classical.not_not.mp q)) r) (kf (Classical.not_not.mp q))
theorem ifnull_ (X : Stand p l e R s m args below meth c T locs cells slots) (hx : p.tables.exec = Jvm.exec) {o : Int} {v : Value} {pcT : Nat} (hd : decode c.code pc = .ok (.ifnull o, 3)) (hv : v.isRef = true) (ho : 0 ≤ (pc : Int) + o) (hT : ((pc : Int) + o).toNat = pcT) (hp : pc' = pc + 3)
    (kt : v = .null → Go p.tables e below P T (mkF m pcT Ls (S))) (kf : ¬ v = .null → Go p.tables e below P T (mkF m pc' Ls (S))) : Go p.tables e below P T (mkF m pc Ls (v :: S)) := by
  subst hp
  by_cases q : v = .null
  · exact Go.st (fun t r => XT.nullYes X.here hx rfl rfl hd rfl q ho hT r) (kt q)
  · exact Go.st (fun t r => XT.nullNo X.here hx rfl hd rfl hv q r) (kf q)
theorem ifnull_ref (X : Stand p l e R s m args below meth c T locs cells slots) (hx : p.tables.exec = Jvm.exec) {o : Int} {a : Addr} {pcT : Nat} (hd : decode c.code pc = .ok (.ifnull o, 3)) (ho : 0 ≤ (pc : Int) + o) (hT : ((pc : Int) + o).toNat = pcT) (hp : pc' = pc + 3)
    (k : Go p.tables e below P T (mkF m pc' Ls (S))) : Go p.tables e below P T (mkF m pc Ls (.ref a :: S)) :=
  ifnull_ X hx hd rfl ho hT hp (fun q => nomatch q) (fun _ => k)
theorem ifnull_null (X : Stand p l e R s m args below meth c T locs cells slots) (hx : p.tables.exec = Jvm.exec) {o : Int} {pcT : Nat} (hd : decode c.code pc = .ok (.ifnull o, 3)) (ho : 0 ≤ (pc : Int) + o) (hT : ((pc : Int) + o).toNat = pcT) (hp : pc' = pc + 3)
    (k : Go p.tables e below P T (mkF m pcT Ls (S))) : Go p.tables e below P T (mkF m pc Ls (.null :: S)) :=
  ifnull_ X hx hd rfl ho hT hp (fun _ => k) (fun q => absurd rfl q)
theorem ifnonnull_ (X : Stand p l e R s m args below meth c T locs cells slots) (hx : p.tables.exec = Jvm.exec) {o : Int} {v : Value} {pcT : Nat} (hd : decode c.code pc = .ok (.ifnonnull o, 3)) (hv : v.isRef = true) (ho : 0 ≤ (pc : Int) + o) (hT : ((pc : Int) + o).toNat = pcT) (hp : pc' = pc + 3)
    (kt : ¬ v = .null → Go p.tables e below P T (mkF m pcT Ls (S))) (kf : v = .null → Go p.tables e below P T (mkF m pc' Ls (S))) : Go p.tables e below P T (mkF m pc Ls (v :: S)) := by
  subst hp
  by_cases q : ¬ v = .null
  · exact Go.st (fun t r => XT.nonnullYes X.here hx rfl rfl hd rfl hv q ho hT r) (kt q)
  · exact Go.st (fun t r => XT.nonnullNo X.here hx rfl hd rfl (Classical.not_not.mp q) r) (kf (Classical.not_not.mp q))
theorem ifnonnull_ref (X : Stand p l e R s m args below meth c T locs cells slots) (hx : p.tables.exec = Jvm.exec) {o : Int} {a : Addr} {pcT : Nat} (hd : decode c.code pc = .ok (.ifnonnull o, 3)) (ho : 0 ≤ (pc : Int) + o) (hT : ((pc : Int) + o).toNat = pcT) (hp : pc' = pc + 3)
    (k : Go p.tables e below P T (mkF m pcT Ls (S))) : Go p.tables e below P T (mkF m pc Ls (.ref a :: S)) :=
  ifnonnull_ X hx hd rfl ho hT hp (fun _ => k) (fun q => nomatch q)
theorem ifnonnull_null (X : Stand p l e R s m args below meth c T locs cells slots) (hx : p.tables.exec = Jvm.exec) {o : Int} {pcT : Nat} (hd : decode c.code pc = .ok (.ifnonnull o, 3)) (ho : 0 ≤ (pc : Int) + o) (hT : ((pc : Int) + o).toNat = pcT) (hp : pc' = pc + 3)
    (k : Go p.tables e below P T (mkF m pc' Ls (S))) : Go p.tables e below P T (mkF m pc Ls (.null :: S)) :=
  ifnonnull_ X hx hd rfl ho hT hp (fun q => absurd rfl q) (fun _ => k)
theorem getF_ (X : Stand p l e R s m args below meth c T locs cells slots) (hx : p.tables.exec = Jvm.exec) (hZ : Z.Warmed39 s.vm) {own : String} (hown : s.vm.findClass own = some m.cls) {R0 O n d host : String} {i : Nat} (w : (Cond.fieldLink own i R0 n d).before a0 Z = true ∨ (Cond.fieldLinkNest own i R0 n d host).before a0 Z = true) (via : Via Z R0 O n d) (eT : T.heap = h) {a : Addr} {v : Value} (F : Fld Z h a O n d v) (hd : decode c.code pc = .ok (.getfield i, 3)) (hp : pc' = pc + 3)
    (k : ∀ T', Stand p l e R s m args below meth c T' locs cells slots → T'.heap = h → Go p.tables e below P T' (mkF m pc' Ls (v :: S))) : Go p.tables e below P T (mkF m pc Ls (.ref a :: S)) := by
  subst hp
  obtain ⟨T', X', e', st⟩ := getF X hx hZ hown w via eT F (g := mkF m pc Ls (.ref a :: S)) rfl rfl hd
  exact Go.st st (k T' X' e')
theorem getS_ (X : Stand p l e R s m args below meth c T locs cells slots) (hx : p.tables.exec = Jvm.exec) (hZ : Z.Warmed39 s.vm) {own : String} (hown : s.vm.findClass own = some m.cls) {R0 O n d host : String} {i : Nat} (w : (Cond.fieldLink own i R0 n d).before a0 Z = true ∨ (Cond.fieldLinkNest own i R0 n d host).before a0 Z = true) (via : Via Z R0 O n d) (eT : T.heap = h) {v : Value} (F : Sta Z h O n d v) (hd : decode c.code pc = .ok (.getstatic i, 3)) (hp : pc' = pc + 3)
    (k : ∀ T', Stand p l e R s m args below meth c T' locs cells slots → T'.heap = h → Go p.tables e below P T' (mkF m pc' Ls (v :: S))) : Go p.tables e below P T (mkF m pc Ls (S)) := by
  subst hp
  obtain ⟨T', X', e', st⟩ := getS2 X hx hZ hown w via eT F (g := mkF m pc Ls S) rfl hd
  exact Go.st st (k T' X' e')
theorem putF_ (X : Stand p l e R s m args below meth c T locs cells slots) (hx : p.tables.exec = Jvm.exec) (hZ : Z.Warmed39 s.vm) {own : String} (hown : s.vm.findClass own = some m.cls) {R0 O n d C : String} {i kk : Nat} {ty : FieldType} (w : (Cond.fieldLink own i R0 n d).before a0 Z = true) (via : Via Z R0 O n d) (eT : T.heap = h) {a : Addr} {v v' old : Value} (F : Fld Z h a O n d old) (E : Exa Z h a C) (L : (Cond.lays C O n d).before a0 Z = true ∨ ((Cond.laysFinal C O n d).before a0 Z = true ∧ own = O ∧ meth.name = "<init>")) (wi : (Cond.instantiable C kk).before a0 Z = true) (hty : parseFieldDescriptor d = some ty) (hn : narrow ty v = v') (hf : fits ty v' = true) (hd : decode c.code pc = .ok (.putfield i, 3)) (hp : pc' = pc + 3)
    (k : ∀ T' h', Stand p l e R s m args below meth c T' (locs ++ [⟨a, Jvm.RoadKit.slotOf Z O n d⟩]) cells slots → T'.heap = h' → Wr h h' a (Jvm.RoadKit.slotOf Z O n d) v' → Go p.tables e below P T' (mkF m pc' Ls (S))) : Go p.tables e below P T (mkF m pc Ls (v :: .ref a :: S)) := by
  subst hp
  obtain ⟨T', h', X', e', W', st⟩ := putFN X hx hZ hown w via eT F E L wi hty hn hf (g := mkF m pc Ls (v :: .ref a :: S)) rfl rfl hd
  exact Go.st st (k T' h' X' e' W')
theorem new_ (X : Stand p l e R s m args below meth c T locs cells slots) (hx : p.tables.exec = Jvm.exec) (hZ : Z.Warmed39 s.vm) {own : String} (hown : s.vm.findClass own = some m.cls) {C : String} {i n : Nat} (w : (Cond.classLink own i C).before a0 Z = true) (wi : (Cond.instantiable C n).before a0 Z = true) (wz : (Cond.initialized C).before a0 Z = true) (eT : T.heap = h) (hd : decode c.code pc = .ok (.new i, 3)) (hp : pc' = pc + 3) (hc : cells + 1 ≤ R.cells) (hl : slots + n ≤ R.slots)
    (k : ∀ T' h' a, Stand p l e R s m args below meth c T' locs (cells + 1) (slots + n) → T'.heap = h' → a = h.size → Ext h h' → Exa Z h' a C → (∀ {O nm d : String} {ty : FieldType}, Laid Z a0 C O nm d → parseFieldDescriptor d = some ty → Fld Z h' a O nm d (defaultValue ty)) → Go p.tables e below P T' (mkF m pc' Ls (.ref a :: S))) : Go p.tables e below P T (mkF m pc Ls (S)) := by
  subst hp
  obtain ⟨T', h', X', e', E', A', D', -, st⟩ := newO X hx hZ hown w wi wz eT (g := mkF m pc Ls S) rfl hd hc hl
  exact Go.st st (k T' h' _ X' e' rfl E' A' D')
theorem jin {j z : Int32} (h0 : 0 ≤ j.toInt) (h1 : j.toInt < z.toInt) : ¬ j < 0 ∧ j < z := ⟨fun q => by have := Int32.lt_iff_toInt_lt.mp q; rw [z0] at this; omega, Int32.lt_iff_toInt_lt.mpr h1⟩
theorem jnat {j : Int32} {i : Nat} (h : j.toInt = i) : j.toNatClampNeg = i := by
  have q : ¬ j < 0 := fun q => by have := Int32.lt_iff_toInt_lt.mp q; rw [z0] at this; omega
  have := nat_of q; omega
theorem newP_ (X : Stand p l e R s m args below meth c T locs cells slots) (hx : p.tables.exec = Jvm.exec) (hZ : Z.Warmed39 s.vm) {aty : ArrayType} (w : (Cond.arrayClass (newarray.typeOf aty)).before a0 Z = true) (eT : T.heap = h) (hd : decode c.code pc = .ok (.newarray aty, 2)) (hp : pc' = pc + 2) {n : Int32} (hn : 0 ≤ n.toInt) {cap : Nat} (hcap : n.toInt ≤ cap) (hb : cap * 8 ≤ 536870912) (hc : cells + 1 ≤ R.cells) (hl : slots + cap ≤ R.slots) {ad : String} (had : "[" ++ (newarray.typeOf aty).toString = ad)
    (k : ∀ T' h' a cA, Stand p l e R s m args below meth c T' locs (cells + 1) (slots + cap) → T'.heap = h' → a = h.size → Ext h h' → Arv Z h' a cA (newarray.typeOf aty) n [] (defaultValue (newarray.typeOf aty)) → Exa Z h' a ad → Go p.tables e below P T' (mkF m pc' Ls (.ref a :: S))) : Go p.tables e below P T (mkF m pc Ls (.int n :: S)) := by
  subst hp
  have hn' : ¬ n < 0 := fun z => by have := Int32.lt_iff_toInt_lt.mp z; rw [z0] at this; omega
  obtain ⟨T', h', cA, X', e', E', A', Q', st⟩ := newPE X hx hZ w eT (g := mkF m pc Ls (.int n :: S)) rfl hd rfl hn' (cap := cap) (by have := nat_of hn'; omega) hb hc hl had
  exact Go.st st (k T' h' _ cA X' e' rfl E' (Arv.new A' hn') Q')
theorem newR_ (X : Stand p l e R s m args below meth c T locs cells slots) (hx : p.tables.exec = Jvm.exec) (hZ : Z.Warmed39 s.vm) {own : String} (hown : s.vm.findClass own = some m.cls) {C : String} {i : Nat} (w1 : (Cond.classLink own i C).before a0 Z = true) (w2 : (Cond.arrayOver (.object C)).before a0 Z = true) (eT : T.heap = h) (hd : decode c.code pc = .ok (.anewarray i, 3)) (hp : pc' = pc + 3) {n : Int32} (hn : 0 ≤ n.toInt) {cap : Nat} (hcap : n.toInt ≤ cap) (hb : cap * 8 ≤ 536870912) (hc : cells + 1 ≤ R.cells) (hl : slots + cap ≤ R.slots) {ad : String} (had : "[" ++ (FieldType.object C).toString = ad)
    (k : ∀ T' h' a cA, Stand p l e R s m args below meth c T' locs (cells + 1) (slots + cap) → T'.heap = h' → a = h.size → Ext h h' → Arv Z h' a cA (.object C) n [] .null → Exa Z h' a ad → Ovr Z cA C → Go p.tables e below P T' (mkF m pc' Ls (.ref a :: S))) : Go p.tables e below P T (mkF m pc Ls (.int n :: S)) := by
  subst hp
  have hn' : ¬ n < 0 := fun z => by have := Int32.lt_iff_toInt_lt.mp z; rw [z0] at this; omega
  obtain ⟨T', h', cA, X', e', E', A', Q', O', st⟩ := newRE X hx hZ hown w1 w2 eT (g := mkF m pc Ls (.int n :: S)) rfl hd rfl hn' (cap := cap) (by have := nat_of hn'; omega) hb hc hl had
  exact Go.st st (k T' h' _ cA X' e' rfl E' (Arv.new A' hn') Q' O')
theorem iaload (X : Stand p l e R s m args below meth c T locs cells slots) (hx : p.tables.exec = Jvm.exec) (hZ : Z.Warmed39 s.vm) (eT : T.heap = h) {a : Addr} {kA : ClassId} {z j : Int32} {vs : List Value} {dv v : Value} (A : Arv Z h a kA .int z vs dv) (h0 : 0 ≤ j.toInt) (h1 : j.toInt < z.toInt) (hv : vs.getD j.toNatClampNeg dv = v) (hd : decode c.code pc = .ok (.iaload, 1)) (hp : pc' = pc + 1)
    (k : Go p.tables e below P T (mkF m pc' Ls (v :: S))) : Go p.tables e below P T (mkF m pc Ls (.int j :: .ref a :: S)) := by
  subst hp
  obtain ⟨cl, Ar, -, Sz, Nz, H, -⟩ := A
  have hin := inb_of Sz (jin h0 h1)
  exact Go.st (fun t q => X.iaload hx (j := j) (v := v) (by rw [eT]; exact Ar.1) (State.isArrayOf_alike hZ.alike Ar.2.1) Ar.2.2 hin (H.at hin hv) (g := mkF m pc Ls (.int j :: .ref a :: S)) rfl rfl hd t q) k
theorem caload (X : Stand p l e R s m args below meth c T locs cells slots) (hx : p.tables.exec = Jvm.exec) (hZ : Z.Warmed39 s.vm) (eT : T.heap = h) {a : Addr} {kA : ClassId} {z j : Int32} {vs : List Value} {dv v : Value} (A : Arv Z h a kA .char z vs dv) (h0 : 0 ≤ j.toInt) (h1 : j.toInt < z.toInt) (hv : vs.getD j.toNatClampNeg dv = v) (hd : decode c.code pc = .ok (.caload, 1)) (hp : pc' = pc + 1)
    (k : Go p.tables e below P T (mkF m pc' Ls (v :: S))) : Go p.tables e below P T (mkF m pc Ls (.int j :: .ref a :: S)) := by
  subst hp
  obtain ⟨cl, Ar, -, Sz, Nz, H, -⟩ := A
  have hin := inb_of Sz (jin h0 h1)
  exact Go.st (fun t q => X.caload hx (j := j) (v := v) (by rw [eT]; exact Ar.1) (State.isArrayOf_alike hZ.alike Ar.2.1) Ar.2.2 hin (H.at hin hv) (g := mkF m pc Ls (.int j :: .ref a :: S)) rfl rfl hd t q) k
theorem baload (X : Stand p l e R s m args below meth c T locs cells slots) (hx : p.tables.exec = Jvm.exec) (hZ : Z.Warmed39 s.vm) (eT : T.heap = h) {a : Addr} {kA : ClassId} {z j : Int32} {vs : List Value} {dv v : Value} (A : Arv Z h a kA .byte z vs dv) (h0 : 0 ≤ j.toInt) (h1 : j.toInt < z.toInt) (hv : vs.getD j.toNatClampNeg dv = v) (hd : decode c.code pc = .ok (.baload, 1)) (hp : pc' = pc + 1)
    (k : Go p.tables e below P T (mkF m pc' Ls (v :: S))) : Go p.tables e below P T (mkF m pc Ls (.int j :: .ref a :: S)) := by
  subst hp
  obtain ⟨cl, Ar, -, Sz, Nz, H, -⟩ := A
  have hin := inb_of Sz (jin h0 h1)
  exact Go.st (fun t q => X.baloadBytes hx (j := j) (v := v) (by rw [eT]; exact Ar.1) (State.isArrayOf_alike hZ.alike Ar.2.1) Ar.2.2 hin (H.at hin hv) (g := mkF m pc Ls (.int j :: .ref a :: S)) rfl rfl hd t q) k
theorem aaload (X : Stand p l e R s m args below meth c T locs cells slots) (hx : p.tables.exec = Jvm.exec) (hZ : Z.Warmed39 s.vm) (eT : T.heap = h) {a : Addr} {kA : ClassId} {ty : FieldType} {z j : Int32} {vs : List Value} {dv v : Value} (A : Arv Z h a kA ty z vs dv) (hty : ty.isReference = true) (h0 : 0 ≤ j.toInt) (h1 : j.toInt < z.toInt) (hv : vs.getD j.toNatClampNeg dv = v) (hd : decode c.code pc = .ok (.aaload, 1)) (hp : pc' = pc + 1)
    (k : Go p.tables e below P T (mkF m pc' Ls (v :: S))) : Go p.tables e below P T (mkF m pc Ls (.int j :: .ref a :: S)) := by
  subst hp
  obtain ⟨cl, Ar, -, Sz, Nz, H, -⟩ := A
  have hin := inb_of Sz (jin h0 h1)
  exact Go.st (fun t q => X.aaload hx (j := j) (v := v) (by rw [eT]; exact Ar.1) (State.isArrayOf_alike hZ.alike Ar.2.1) hty Ar.2.2 hin (H.at hin hv) (g := mkF m pc Ls (.int j :: .ref a :: S)) rfl rfl hd t q) k
theorem arrlen (X : Stand p l e R s m args below meth c T locs cells slots) (hx : p.tables.exec = Jvm.exec) (hZ : Z.Warmed39 s.vm) (eT : T.heap = h) {a : Addr} {kA : ClassId} {ty : FieldType} {z : Int32} {vs : List Value} {dv : Value} (A : Arv Z h a kA ty z vs dv) (hd : decode c.code pc = .ok (.arraylength, 1)) (hp : pc' = pc + 1)
    (k : Go p.tables e below P T (mkF m pc' Ls (.int z :: S))) : Go p.tables e below P T (mkF m pc Ls (.ref a :: S)) := by
  subst hp
  obtain ⟨cl, Ar, -, Sz, Nz, H, -⟩ := A
  refine Go.st (fun t q => X.arraylength hx (by rw [eT]; exact Ar.1) (State.isArrayOf_alike hZ.alike Ar.2.1) (g := mkF m pc Ls (.ref a :: S)) rfl rfl hd t q) ?_
  rw [len_of Sz Nz]
  exact k
theorem iastore (X : Stand p l e R s m args below meth c T locs cells slots) (hx : p.tables.exec = Jvm.exec) (hZ : Z.Warmed39 s.vm) (eT : T.heap = h) {a : Addr} {kA : ClassId} {z j : Int32} {x : Int32} {vs : List Value} {dv : Value} (A : Arv Z h a kA .int z vs dv) {i : Nat} (hi : j.toInt = i) (hz : (i : Int) < z.toInt) (hl : i < vs.length) (hd : decode c.code pc = .ok (.iastore, 1)) (hp : pc' = pc + 1)
    (k : ∀ T' h', Stand p l e R s m args below meth c T' (locs ++ [⟨a, j.toNatClampNeg⟩]) cells slots → T'.heap = h' → Wr h h' a j.toNatClampNeg (.int x) → Arv Z h' a kA .int z (vs.set i (.int x)) dv → Go p.tables e below P T' (mkF m pc' Ls (S))) : Go p.tables e below P T (mkF m pc Ls (.int x :: .int j :: .ref a :: S)) := by
  subst hp
  obtain ⟨cl, Ar, q1, Sz, Nz, H, G⟩ := A
  have hin := inb_of Sz (jin (j := j) (z := z) (by omega) (by omega))
  obtain ⟨T', h', X', e', W', st⟩ := stI X hx hZ eT Ar (j := j) hin (g := mkF m pc Ls (.int x :: .int j :: .ref a :: S)) rfl rfl hd
  exact Go.st st (k T' h' X' e' W' (Arv.set Ar q1 Sz Nz H G rfl W' i (jnat hi) hl))
theorem castore (X : Stand p l e R s m args below meth c T locs cells slots) (hx : p.tables.exec = Jvm.exec) (hZ : Z.Warmed39 s.vm) (eT : T.heap = h) {a : Addr} {kA : ClassId} {z j : Int32} {x : Int32} {vs : List Value} {dv : Value} (A : Arv Z h a kA .char z vs dv) {i : Nat} (hi : j.toInt = i) (hz : (i : Int) < z.toInt) (hl : i < vs.length) (hd : decode c.code pc = .ok (.castore, 1)) (hp : pc' = pc + 1)
    (k : ∀ T' h', Stand p l e R s m args below meth c T' (locs ++ [⟨a, j.toNatClampNeg⟩]) cells slots → T'.heap = h' → Wr h h' a j.toNatClampNeg (.int (nar .char x)) → Arv Z h' a kA .char z (vs.set i (.int (nar .char x))) dv → Go p.tables e below P T' (mkF m pc' Ls (S))) : Go p.tables e below P T (mkF m pc Ls (.int x :: .int j :: .ref a :: S)) := by
  subst hp
  obtain ⟨cl, Ar, q1, Sz, Nz, H, G⟩ := A
  have hin := inb_of Sz (jin (j := j) (z := z) (by omega) (by omega))
  obtain ⟨T', h', X', e', W', st⟩ := stC X hx hZ eT Ar (j := j) hin (g := mkF m pc Ls (.int x :: .int j :: .ref a :: S)) rfl rfl hd
  exact Go.st st (k T' h' X' e' W' (Arv.set Ar q1 Sz Nz H G (fits_nar_char _) W' i (jnat hi) hl))
theorem bastore (X : Stand p l e R s m args below meth c T locs cells slots) (hx : p.tables.exec = Jvm.exec) (hZ : Z.Warmed39 s.vm) (eT : T.heap = h) {a : Addr} {kA : ClassId} {z j : Int32} {x : Int32} {vs : List Value} {dv : Value} (A : Arv Z h a kA .byte z vs dv) {i : Nat} (hi : j.toInt = i) (hz : (i : Int) < z.toInt) (hl : i < vs.length) (hd : decode c.code pc = .ok (.bastore, 1)) (hp : pc' = pc + 1)
    (k : ∀ T' h', Stand p l e R s m args below meth c T' (locs ++ [⟨a, j.toNatClampNeg⟩]) cells slots → T'.heap = h' → Wr h h' a j.toNatClampNeg (.int (nar .byte x)) → Arv Z h' a kA .byte z (vs.set i (.int (nar .byte x))) dv → Go p.tables e below P T' (mkF m pc' Ls (S))) : Go p.tables e below P T (mkF m pc Ls (.int x :: .int j :: .ref a :: S)) := by
  subst hp
  obtain ⟨cl, Ar, q1, Sz, Nz, H, G⟩ := A
  have hin := inb_of Sz (jin (j := j) (z := z) (by omega) (by omega))
  obtain ⟨T', h', X', e', W', st⟩ := stB X hx hZ eT Ar (j := j) hin (g := mkF m pc Ls (.int x :: .int j :: .ref a :: S)) rfl rfl hd
  exact Go.st st (k T' h' X' e' W' (Arv.set Ar q1 Sz Nz H G (fits_nar_byte _) W' i (jnat hi) hl))
theorem aastore (X : Stand p l e R s m args below meth c T locs cells slots) (hx : p.tables.exec = Jvm.exec) (hZ : Z.Warmed39 s.vm) (eT : T.heap = h) {a : Addr} {kA : ClassId} {ty : FieldType} {z j : Int32} {v : Value} {vs : List Value} {dv : Value} (A : Arv Z h a kA ty z vs dv) (hty : ty.isReference = true) (hfv : fits ty v = true) (F : Sto Z h a v) {i : Nat} (hi : j.toInt = i) (hz : (i : Int) < z.toInt) (hl : i < vs.length) (hd : decode c.code pc = .ok (.aastore, 1)) (hp : pc' = pc + 1)
    (k : ∀ T' h', Stand p l e R s m args below meth c T' (locs ++ [⟨a, j.toNatClampNeg⟩]) cells slots → T'.heap = h' → Wr h h' a j.toNatClampNeg v → Arv Z h' a kA ty z (vs.set i v) dv → Go p.tables e below P T' (mkF m pc' Ls (S))) : Go p.tables e below P T (mkF m pc Ls (v :: .int j :: .ref a :: S)) := by
  subst hp
  obtain ⟨cl, Ar, q1, Sz, Nz, H, G⟩ := A
  have hin := inb_of Sz (jin (j := j) (z := z) (by omega) (by omega))
  obtain ⟨T', h', X', e', W', st⟩ := stR X hx hZ eT Ar (j := j) hin hty F (g := mkF m pc Ls (v :: .int j :: .ref a :: S)) rfl rfl hd
  exact Go.st st (k T' h' X' e' W' (Arv.set Ar q1 Sz Nz H G hfv W' i (jnat hi) hl))
theorem stoOf {a y : Addr} {kA : ClassId} {ty : FieldType} {z : Int32} {vs : List Value} {dv : Value} {C : String} (A : Arv Z h a kA ty z vs dv) (O : Ovr Z kA C) (I : Ins Z h y C true) : Sto Z h a (.ref y) := by
  obtain ⟨c, Ar, q, _⟩ := A; exact Sto.ofV Ar q O I
theorem cast_ (X : Stand p l e R s m args below meth c T locs cells slots) (hx : p.tables.exec = Jvm.exec) (hZ : Z.Warmed39 s.vm) {own : String} (hown : s.vm.findClass own = some m.cls) {K : String} {i : Nat} (w : (Cond.classLink own i K).before a0 Z = true) (eT : T.heap = h) {a : Addr} (F : Ins Z h a K true) (hd : decode c.code pc = .ok (.checkcast i, 3)) (hp : pc' = pc + 3)
    (k : ∀ T', Stand p l e R s m args below meth c T' locs cells slots → T'.heap = h → Go p.tables e below P T' (mkF m pc' Ls (.ref a :: S))) : Go p.tables e below P T (mkF m pc Ls (.ref a :: S)) := by
  subst hp
  obtain ⟨T', X', e', st⟩ := castY X hx hZ hown w eT F (g := mkF m pc Ls (.ref a :: S)) rfl rfl hd
  exact Go.st st (k T' X' e')
theorem instYes (X : Stand p l e R s m args below meth c T locs cells slots) (hx : p.tables.exec = Jvm.exec) (hZ : Z.Warmed39 s.vm) {own : String} (hown : s.vm.findClass own = some m.cls) {K : String} {i : Nat} (w : (Cond.classLink own i K).before a0 Z = true) (eT : T.heap = h) {a : Addr} (F : Ins Z h a K true) (hd : decode c.code pc = .ok (.instanceof i, 3)) (hp : pc' = pc + 3)
    (k : ∀ T', Stand p l e R s m args below meth c T' locs cells slots → T'.heap = h → Go p.tables e below P T' (mkF m pc' Ls (.int 1 :: S))) : Go p.tables e below P T (mkF m pc Ls (.ref a :: S)) := by
  subst hp
  obtain ⟨T', X', e', st⟩ := instY X hx hZ hown w eT F (g := mkF m pc Ls (.ref a :: S)) rfl rfl hd
  exact Go.st st (k T' X' e')
theorem initO_ (X : Stand p l e R s m args below meth c T locs cells slots) (hx : p.tables.exec = Jvm.exec) (hZ : Z.Warmed39 s.vm) {own : String} (hown : s.vm.findClass own = some m.cls) {i : Nat} (w1 : (Cond.methodLink own i Lib.objectInit).before a0 Z = true) (w2 : (Cond.instanceMethod Lib.objectInit).before a0 Z = true) (w3 : (Cond.code Lib.objectInit ⟨#[0xb1]⟩ 1 none).before a0 Z = true) (eT : T.heap = h) (hsize : Ls.size = c.maxLocals) {a : Addr} (hd : decode c.code pc = .ok (.invokespecial i, 3)) (hp : pc' = pc + 3) (hf : 1 ≤ R.frames) {W : Nat} (hW : (S.map fun v => v.category).sum ≤ W) (hl : W + 12 ≤ R.locals)
    (k : ∀ T', Stand p l e R s m args below meth c T' locs cells slots → T'.heap = h → Go p.tables e below P T' (mkF m pc' Ls (S))) : Go p.tables e below P T (mkF m pc Ls (.ref a :: S)) := by
  subst hp
  obtain ⟨T', X', e', st⟩ := initO X hx hZ hown w1 w2 w3 eT (g := mkF m pc Ls (.ref a :: S)) rfl hsize rfl hd hf (W := W) (by show 2 * 0 + _ ≤ _; simpa using hW) hl
  exact Go.st st (k T' X' e')
theorem callS_ (X : Stand p l e R s m args below meth c T locs cells slots) (hx : p.tables.exec = Jvm.exec) (hZ : Z.Warmed39 s.vm) {own : String} (hown : s.vm.findClass own = some m.cls) {y : MethodName} {i : Nat} {bytes : ByteArray} {maxL : Nat} {ret : Option FieldType} {rm : Room} {Q : Option Value → Heap → List Loc → Prop} {argsL S0 : List Value} (w1 : (Cond.methodLink own i y).before a0 Z = true) (w2 : (Cond.static y).before a0 Z = true) (w3 : (Cond.initialized y.cls).before a0 Z = true) (w4 : (Cond.code y bytes maxL ret).before a0 Z = true) (hy : y.cls ≠ "java/lang/invoke/MethodHandle" ∧ y.cls ≠ "java/lang/invoke/VarHandle") (hM : MetFree l y (head1 [Cond.code y bytes maxL ret] rm) (fun ar U => ar = argsL.toArray ∧ Z.Warmed39 U.vm ∧ U.heap = h) (fun _ _ _ _ _ => True) (fun _ U o U' => ∃ v L, o = .returned v ∧ Q v U'.heap L ∧ FrameEnd U o U' L rm.cells rm.slots)) (hf : rm.frames + 1 ≤ R.frames) {W : Nat} (hl : W + (maxL + 11) + rm.locals ≤ R.locals) (eT : T.heap = h) (hsize : Ls.size = c.maxLocals) {ps : List FieldType} {rt : Option FieldType} (hdesc : parseMethodDescriptor y.desc = some ⟨ps, rt⟩) (hlen : argsL.length = ps.length) (hS : S0 = argsL.reverse ++ S) (hW : (S.map fun v => v.category).sum ≤ W) (hd : decode c.code pc = .ok (.invokestatic i, 3)) (hp : pc' = pc + 3) (hc : cells + rm.cells ≤ R.cells) (hs : slots + rm.slots ≤ R.slots)
    (k : ∀ T' v L, Stand p l e R s m args below meth c T' (locs ++ L) (cells + rm.cells) (slots + rm.slots) → Q v T'.heap L → Go p.tables e below P T' (mkF m pc' Ls (v.toList ++ S))) : Go p.tables e below P T (mkF m pc Ls (S0)) := by
  subst hp hS
  obtain ⟨v, vm₁, ⟨T', L', k', n'⟩, -, X', ⟨L, hQ, l', y', z'⟩, st⟩ := Jvm.LawKit.callS X hx hown (mvT hZ w1) (mvT hZ w2) (mvT hZ w3) (mvT hZ w4) hy (backOf (W := W) hM hZ w4 w3 hf hl) (g := mkF m pc Ls (argsL.reverse ++ S)) rfl hsize (argsL := argsL) (rest := S) (lenOf hdesc hlen) rfl (by show 2 * 0 + _ ≤ _; simpa using hW) hd (fun _ _ => ⟨rfl, eT, hc, hs⟩)
  dsimp only [Pt.U, Pt.locs, Pt.cells, Pt.slots] at X' l' y' z' st hQ
  subst l' y' z'
  exact Go.st st (k T' v L X' hQ)
theorem callI_ (X : Stand p l e R s m args below meth c T locs cells slots) (hx : p.tables.exec = Jvm.exec) (hZ : Z.Warmed39 s.vm) {own : String} (hown : s.vm.findClass own = some m.cls) {y : MethodName} {i : Nat} {a : Addr} {bytes : ByteArray} {maxL : Nat} {ret : Option FieldType} {rm : Room} {Q : Option Value → Heap → List Loc → Prop} {argsL S0 : List Value} (hy1 : y.name = "<init>") (w1 : (Cond.methodLink own i y).before a0 Z = true) (w2 : (Cond.instanceMethod y).before a0 Z = true) (w3 : (Cond.initialized y.cls).before a0 Z = true) (w4 : (Cond.code y bytes maxL none).before a0 Z = true) (hret : ret = none) (hy : y.cls ≠ "java/lang/invoke/MethodHandle" ∧ y.cls ≠ "java/lang/invoke/VarHandle") (hM : MetFree l y (head1 [Cond.code y bytes maxL ret] rm) (fun ar U => ar = (.ref a :: argsL).toArray ∧ Z.Warmed39 U.vm ∧ U.heap = h) (fun _ _ _ _ _ => True) (fun _ U o U' => ∃ v L, o = .returned v ∧ Q v U'.heap L ∧ FrameEnd U o U' L rm.cells rm.slots)) (hf : rm.frames + 1 ≤ R.frames) {W : Nat} (hl : W + (maxL + 11) + rm.locals ≤ R.locals) (eT : T.heap = h) (hsize : Ls.size = c.maxLocals) {ps : List FieldType} {rt : Option FieldType} (hdesc : parseMethodDescriptor y.desc = some ⟨ps, rt⟩) (hlen : argsL.length = ps.length) (hS : S0 = argsL.reverse ++ .ref a :: S) (hW : (S.map fun v => v.category).sum ≤ W) (hd : decode c.code pc = .ok (.invokespecial i, 3)) (hp : pc' = pc + 3) (hc : cells + rm.cells ≤ R.cells) (hs : slots + rm.slots ≤ R.slots)
    (k : ∀ T' v L, Stand p l e R s m args below meth c T' (locs ++ L) (cells + rm.cells) (slots + rm.slots) → Q v T'.heap L → Go p.tables e below P T' (mkF m pc' Ls (v.toList ++ S))) : Go p.tables e below P T (mkF m pc Ls (S0)) := by
  subst hp hS hret
  obtain ⟨v, vm₁, ⟨T', L', k', n'⟩, -, X', ⟨L, hQ, l', y', z'⟩, st⟩ := X.specialBack hx hy1 hown (mvT hZ w1) (mvT hZ w2) (mvT hZ w4) hy (backOf (W := W) hM hZ w4 w3 hf hl) (g := mkF m pc Ls (argsL.reverse ++ .ref a :: S)) rfl hsize (Steps.refl _) (a := a) (argsL := argsL) (rest := S) (lenOf hdesc hlen) rfl (by show 2 * 0 + _ ≤ _; simpa using hW) hd (fun _ _ => ⟨rfl, eT, hc, hs⟩)
  dsimp only [Pt.U, Pt.locs, Pt.cells, Pt.slots] at X' l' y' z' st hQ
  subst l' y' z'
  exact Go.st1 st (k T' v L X' hQ)
theorem callV_ (X : Stand p l e R s m args below meth c T locs cells slots) (hx : p.tables.exec = Jvm.exec) (hZ : Z.Warmed39 s.vm) {own : String} (hown : s.vm.findClass own = some m.cls) {C : String} {y z : MethodName} {i : Nat} {a : Addr} {bytes : ByteArray} {maxL : Nat} {ret : Option FieldType} {rm : Room} {Q : Option Value → Heap → List Loc → Prop} {argsL S0 : List Value} (w1 : (Cond.methodLink own i y).before a0 Z = true) (w2 : (Cond.declares y).before a0 Z = true) (nf : NotFace s y) (w3 : (Cond.selects C y z).before a0 Z = true) (w4 : (Cond.instanceMethod z).before a0 Z = true) (w5 : (Cond.code z bytes maxL ret).before a0 Z = true) (w6 : (Cond.initialized z.cls).before a0 Z = true) (hy : y.cls ≠ "java/lang/invoke/MethodHandle" ∧ y.cls ≠ "java/lang/invoke/VarHandle") (E : Exa Z h a C) (hM : MetFree l z (head1 [Cond.code z bytes maxL ret] rm) (fun ar U => ar = (.ref a :: argsL).toArray ∧ Z.Warmed39 U.vm ∧ U.heap = h) (fun _ _ _ _ _ => True) (fun _ U o U' => ∃ v L, o = .returned v ∧ Q v U'.heap L ∧ FrameEnd U o U' L rm.cells rm.slots)) (hf : rm.frames + 1 ≤ R.frames) {W : Nat} (hl : W + (maxL + 11) + rm.locals ≤ R.locals) (eT : T.heap = h) (hsize : Ls.size = c.maxLocals) {ps : List FieldType} {rt : Option FieldType} (hdesc : parseMethodDescriptor y.desc = some ⟨ps, rt⟩) (hlen : argsL.length = ps.length) (hS : S0 = argsL.reverse ++ .ref a :: S) (hW : (S.map fun v => v.category).sum ≤ W) (hd : decode c.code pc = .ok (.invokevirtual i, 3)) (hp : pc' = pc + 3) (hc : cells + rm.cells ≤ R.cells) (hs : slots + rm.slots ≤ R.slots)
    (k : ∀ T' v L, Stand p l e R s m args below meth c T' (locs ++ L) (cells + rm.cells) (slots + rm.slots) → Q v T'.heap L → Go p.tables e below P T' (mkF m pc' Ls (v.toList ++ S))) : Go p.tables e below P T (mkF m pc Ls (S0)) := by
  subst hp hS
  obtain ⟨cq, kq, qa, qb, qc⟩ := isOf hZ eT E
  obtain ⟨v, vm₁, ⟨T', L', k', n'⟩, -, X', ⟨L, hQ, l', y', z'⟩, st⟩ := X.virtualBack hx hown (mvT hZ w1) (mvT hZ w2) nf (mvT hZ w3) (mvT hZ w4) hy (backOf (W := W) hM hZ w5 w6 hf hl) qa qc (g := mkF m pc Ls (argsL.reverse ++ .ref a :: S)) rfl hsize (Steps.refl _) (argsL := argsL) (rest := S) (lenOf hdesc hlen) rfl (by show 2 * 0 + _ ≤ _; simpa using hW) hd (fun _ _ => ⟨rfl, eT, hc, hs⟩)
  dsimp only [Pt.U, Pt.locs, Pt.cells, Pt.slots] at X' l' y' z' st hQ
  subst l' y' z'
  exact Go.st1 st (k T' v L X' hQ)
theorem selfSel {y z : MethodName} {a : Array Value} (hc : z.cls = y.cls) (wz : (Cond.selects z.cls z z).before a s = true) (hpriv : s.PrivateAt y) (hinst : (Cond.instanceMethod y).before a s = true) (hy : y.cls ≠ "java/lang/invoke/MethodHandle" ∧ y.cls ≠ "java/lang/invoke/VarHandle") : (Cond.selects y.cls y y).before a s = true := by
  obtain ⟨c2, r2, m2, -, -, q3, -, kP, hkP, hkPi⟩ := Cond.selects_spec wz
  exact selects_self_of_private (by rw [← hc]; exact findClass_of_methodNamed q3) hkP hkPi hpriv hinst hy
theorem callP_ (X : Stand p l e R s m args below meth c T locs cells slots) (hx : p.tables.exec = Jvm.exec) (hZ : Z.Warmed39 s.vm) {own : String} (hown : s.vm.findClass own = some m.cls) {y z : MethodName} {i : Nat} {a : Addr} {C : String} {bytes : ByteArray} {maxL : Nat} {ret : Option FieldType} {rm : Room} {Q : Option Value → Heap → List Loc → Prop} {argsL S0 : List Value} (w1 : (Cond.methodLink own i y).before a0 Z = true) (w2 : (Cond.instanceMethod y).before a0 Z = true) (hcl : z.cls = y.cls) (wz : (Cond.selects z.cls z z).before a0 Z = true) (w3 : (Cond.privateMethod y).before a0 Z = true) (w4 : (Cond.code y bytes maxL ret).before a0 Z = true) (w5 : (Cond.initialized y.cls).before a0 Z = true) (hy : y.cls ≠ "java/lang/invoke/MethodHandle" ∧ y.cls ≠ "java/lang/invoke/VarHandle") (E : Exa Z h a C) (hM : MetFree l y (head1 [Cond.code y bytes maxL ret] rm) (fun ar U => ar = (.ref a :: argsL).toArray ∧ Z.Warmed39 U.vm ∧ U.heap = h) (fun _ _ _ _ _ => True) (fun _ U o U' => ∃ v L, o = .returned v ∧ Q v U'.heap L ∧ FrameEnd U o U' L rm.cells rm.slots)) (hf : rm.frames + 1 ≤ R.frames) {W : Nat} (hl : W + (maxL + 11) + rm.locals ≤ R.locals) (eT : T.heap = h) (hsize : Ls.size = c.maxLocals) {ps : List FieldType} {rt : Option FieldType} (hdesc : parseMethodDescriptor y.desc = some ⟨ps, rt⟩) (hlen : argsL.length = ps.length) (hS : S0 = argsL.reverse ++ .ref a :: S) (hW : (S.map fun v => v.category).sum ≤ W) (hd : decode c.code pc = .ok (.invokevirtual i, 3)) (hp : pc' = pc + 3) (hc : cells + rm.cells ≤ R.cells) (hs : slots + rm.slots ≤ R.slots)
    (k : ∀ T' v L, Stand p l e R s m args below meth c T' (locs ++ L) (cells + rm.cells) (slots + rm.slots) → Q v T'.heap L → Go p.tables e below P T' (mkF m pc' Ls (v.toList ++ S))) : Go p.tables e below P T (mkF m pc Ls (S0)) := by
  subst hp hS
  obtain ⟨cq, q1, q2⟩ := E.cell
  have hpr := Cond.privateMethod_at (mvP hZ w3 (args := args))
  obtain ⟨v, vm₁, ⟨T', L', k', n'⟩, -, X', ⟨L, hQ, l', y', z'⟩, st⟩ := X.privateBack hx hown (mvT hZ w1) (mvT hZ w2) (selfSel hcl (mvT hZ wz) hpr (mvT hZ w2) hy) hpr (mvT hZ w4) hy (backOf (W := W) hM hZ w4 w5 hf hl) (g := mkF m pc Ls (argsL.reverse ++ .ref a :: S)) rfl hsize (Steps.refl _) (a := a) (by rw [eT]; exact q1) q2 (argsL := argsL) (rest := S) (lenOf hdesc hlen) rfl (by show 2 * 0 + _ ≤ _; simpa using hW) hd (fun _ _ => ⟨rfl, eT, hc, hs⟩)
  dsimp only [Pt.U, Pt.locs, Pt.cells, Pt.slots] at X' l' y' z' st hQ
  subst l' y' z'
  exact Go.st1 st (k T' v L X' hQ)
theorem met {y : MethodName} {bytes : ByteArray} {maxL : Nat} {ret : Option FieldType} {rm : Room} {as' : Array Value} {Q : Option Value → Heap → List Loc → Prop} {ws : List Jvm.Cond} {C N : Nat} (hpl : plainFor y = true) (ef : ∀ m, entryFrame m as' maxL = mkF m 0 Ls [])
    (body : ∀ (p : Program) (e : Env) (s : State) (m : MethodId) (below : List Frame) (meth : Method) (c : Code) (T : State), Stand p l e rm s m as' below meth c T [] 0 0 → p.tables.exec = Jvm.exec → Z.Warmed39 s.vm → c.code = bytes → c.maxLocals = maxL → s.vm.findClass y.cls = some m.cls → meth.name = y.name → meth.sig.returnType = ret → meth.locks = false → T.heap = h →
      Go p.tables e below (PQ s Q C N) T (mkF m 0 Ls [])) :
    MetFree l y (head1 (Cond.code y bytes maxL ret :: ws) rm) (fun a U => a = as' ∧ Z.Warmed39 U.vm ∧ U.heap = h) (fun _ _ _ _ _ => True) (fun _ U o U' => ∃ v L, o = .returned v ∧ Q v U'.heap L ∧ FrameEnd U o U' L C N) := by
  refine MetFree.of_bodySF hpl hisR ?_
  intro p e s m args below meth c s₁ Bd hml0 hP hK
  obtain ⟨rfl, hZ, hh⟩ := hP
  have e0 : s₁.heap = h := by rw [← hh, Bd.state]; rfl
  obtain ⟨s₂, o, h1, h2⟩ := body p e s m below meth c s₁ (Stand.of_body Bd) Bd.exec hZ Bd.bytes hml0 (findClass_of_methodNamed Bd.named) (name_of_methodNamed Bd.named Bd.method).1 Bd.returns Bd.notSynchronized e0
  exact ⟨s₂, o, castTop (ef m) h1, h2⟩
theorem ret_ (X : Stand p l e R s m args below meth c T locs cells slots) (hx : p.tables.exec = Jvm.exec) {Q : Option Value → Heap → List Loc → Prop} {C N : Nat} {w : Value} {t : FieldType} {i : Instr} (hret : meth.sig.returnType = some t) (hlk : meth.locks = false) (hn : narrow t w = w)
    (hi : (i = .ireturn ∧ (t = .int ∨ t = .boolean ∨ t = .byte ∨ t = .char ∨ t = .short) ∧ ∃ z, w = .int z) ∨ (i = .lreturn ∧ t = .long ∧ ∃ z, w = .long z) ∨ (i = .dreturn ∧ t = .double ∧ ∃ z, w = .double z) ∨ (i = .freturn ∧ t = .float ∧ ∃ z, w = .float z) ∨ (i = .areturn ∧ t.isReference = true ∧ w.isRef = true))
    (hd : decode c.code pc = .ok (i, 1)) (hC : cells ≤ C) (hN : slots ≤ N) (q : Q (some w) T.heap locs) : Go p.tables e below (PQ s Q C N) T (mkF m pc Ls (w :: S)) := by
  obtain ⟨fs, hr, hrun, hended, hW, hsame⟩ := X.leave (v := some w) (fun h => by rw [hret] at h; cases h) hlk
  exact ⟨_, _, retOut X hx hret hn hi hd hr, hrun, hended, _, _, rfl, q, ⟨_, rfl⟩, hW, hsame.mono hC hN⟩
theorem retI_ (X : Stand p l e R s m args below meth c T locs cells slots) (hx : p.tables.exec = Jvm.exec) {Q : Option Value → Heap → List Loc → Prop} {C N : Nat} {z : Int32} (hret : meth.sig.returnType = some .int) (hlk : meth.locks = false) (hd : decode c.code pc = .ok (.ireturn, 1)) (hC : cells ≤ C) (hN : slots ≤ N) (q : Q (some (.int z)) T.heap locs) : Go p.tables e below (PQ s Q C N) T (mkF m pc Ls (.int z :: S)) :=
  ret_ X hx hret hlk rfl (Or.inl ⟨rfl, Or.inl rfl, z, rfl⟩) hd hC hN q
theorem retA_ (X : Stand p l e R s m args below meth c T locs cells slots) (hx : p.tables.exec = Jvm.exec) {Q : Option Value → Heap → List Loc → Prop} {C N : Nat} {w : Value} {t : FieldType} (hret : meth.sig.returnType = some t) (ht : t.isReference = true) (hw : w.isRef = true) (hlk : meth.locks = false) (hd : decode c.code pc = .ok (.areturn, 1)) (hC : cells ≤ C) (hN : slots ≤ N) (q : Q (some w) T.heap locs) : Go p.tables e below (PQ s Q C N) T (mkF m pc Ls (w :: S)) :=
  ret_ X hx hret hlk (by cases t <;> first | (cases ht; done) | rfl) (Or.inr (Or.inr (Or.inr (Or.inr ⟨rfl, ht, hw⟩)))) hd hC hN q
theorem retN_ (X : Stand p l e R s m args below meth c T locs cells slots) (hx : p.tables.exec = Jvm.exec) {Q : Option Value → Heap → List Loc → Prop} {C N : Nat} {z : Int32} {t : FieldType} (hret : meth.sig.returnType = some t) (ht : t = .boolean ∨ t = .byte ∨ t = .char ∨ t = .short) (hlk : meth.locks = false) (hd : decode c.code pc = .ok (.ireturn, 1)) (hC : cells ≤ C) (hN : slots ≤ N) (q : Q (some (.int (nar t z))) T.heap locs) : Go p.tables e below (PQ s Q C N) T (mkF m pc Ls (.int z :: S)) := by
  obtain ⟨fs, hr, hrun, hended, hW, hsame⟩ := X.leave (v := some (.int (nar t z))) (fun h => by rw [hret] at h; cases h) hlk
  exact ⟨_, _, retN X hx hret ht hd hr, hrun, hended, _, _, rfl, q, ⟨_, rfl⟩, hW, hsame.mono hC hN⟩
theorem retV_ (X : Stand p l e R s m args below meth c T locs cells slots) (hx : p.tables.exec = Jvm.exec) {Q : Option Value → Heap → List Loc → Prop} {C N : Nat} (hret : meth.sig.returnType = none) (hlk : meth.locks = false) (hd : decode c.code pc = .ok (.return_, 1)) (hC : cells ≤ C) (hN : slots ≤ N) (q : Q none T.heap locs) : Go p.tables e below (PQ s Q C N) T (mkF m pc Ls []) := by
  obtain ⟨fs, hr, hrun, hended, hW, hsame⟩ := X.leave (v := none) (fun _ => rfl) hlk
  exact ⟨_, _, X.returnOut hx hret hd hr, hrun, hended, _, _, rfl, q, ⟨_, rfl⟩, hW, hsame.mono hC hN⟩
theorem lswHit_ (X : Stand p l e R s m args below meth c T locs cells slots) (hx : p.tables.exec = Jvm.exec) {k0 : Int32} {dflt a off : Int} {pairs : Array (Int × Int)} {len : Nat} (hd : decode c.code pc = .ok (.lookupswitch dflt pairs, len)) (hs : (pairs.toList.zip (pairs.toList.drop 1)).all (fun (a, next) => a.1 < next.1) = true) (hf : pairs.find? (·.1 == k0.toInt) = some (a, off)) (ho : 0 ≤ (pc : Int) + off) (hp : ((pc : Int) + off).toNat = pc')
    (k : Go p.tables e below P T (mkF m pc' Ls (S))) : Go p.tables e below P T (mkF m pc Ls (.int k0 :: S)) := by
  subst hp; exact Go.st (X.lookupswitchHit hx (g := mkF m pc Ls (.int k0 :: S)) rfl rfl hd hs hf ho) k
theorem lswMiss_ (X : Stand p l e R s m args below meth c T locs cells slots) (hx : p.tables.exec = Jvm.exec) {k0 : Int32} {dflt : Int} {pairs : Array (Int × Int)} {len : Nat} (hd : decode c.code pc = .ok (.lookupswitch dflt pairs, len)) (hs : (pairs.toList.zip (pairs.toList.drop 1)).all (fun (a, next) => a.1 < next.1) = true) (hf : pairs.find? (·.1 == k0.toInt) = none) (ho : 0 ≤ (pc : Int) + dflt) (hp : ((pc : Int) + dflt).toNat = pc')
    (k : Go p.tables e below P T (mkF m pc' Ls (S))) : Go p.tables e below P T (mkF m pc Ls (.int k0 :: S)) := by
  subst hp; exact Go.st (X.lookupswitchMiss hx (g := mkF m pc Ls (.int k0 :: S)) rfl rfl hd hs hf ho) k
theorem tswIn_ (X : Stand p l e R s m args below meth c T locs cells slots) (hx : p.tables.exec = Jvm.exec) {k0 : Int32} {dflt low high off : Int} {offs : Array Int} {len : Nat} (hd : decode c.code pc = .ok (.tableswitch dflt low high offs, len)) (hin : ¬ (k0.toInt < low ∨ k0.toInt > high)) (hf : offs[(k0.toInt - low).toNat]? = some off) (ho : 0 ≤ (pc : Int) + off) (hp : ((pc : Int) + off).toNat = pc')
    (k : Go p.tables e below P T (mkF m pc' Ls (S))) : Go p.tables e below P T (mkF m pc Ls (.int k0 :: S)) := by
  subst hp; exact Go.st (X.tableswitchIn hx (g := mkF m pc Ls (.int k0 :: S)) rfl rfl hd hin hf ho) k
theorem loop (X : Stand p l e R s m args below meth c T locs cells slots) (eT : T.heap = h) {Inv : Nat → Array Slot → Prop} {f : Nat} (i0 : Inv f Ls)
    (step : ∀ f T Ls, Stand p l e R s m args below meth c T locs cells slots → T.heap = h → Inv f Ls → (∀ T' Ls' f', Stand p l e R s m args below meth c T' locs cells slots → T'.heap = h → f' < f → Inv f' Ls' → Go p.tables e below P T' (mkF m pc Ls' [])) → Go p.tables e below P T (mkF m pc Ls [])) : Go p.tables e below P T (mkF m pc Ls []) := by
  induction f using Nat.strongRecOn generalizing T Ls with
  | _ f ih => exact step f T Ls X eT i0 (fun T' Ls' f' X' e' hf i' => ih f' hf X' e' i')
end Steps
end Jvm.OwnK
namespace Jvm.Pilot.@@N@@
open Jvm Jvm.ClassFile Sem Op Lib Jvm.Free Jvm.Stand Jvm.LawKit Jvm.RoadKit Bundle Jvm.Pilot.@@N@@.Jvm.D
theorem own_ef_5_0_0_2 (p1 : Addr) (p3 : Addr)  (m : MethodId) : entryFrame m #[(.ref p1), (.int (0 : Int32)), (.ref p3), (.int (0 : Int32)), (.int (2 : Int32))] 7 = mkF m 0 #[.val (.ref p1), .val (.int (0 : Int32)), .val (.ref p3), .val (.int (0 : Int32)), .val (.int (2 : Int32)), .unset, .unset] [] := by first | (simp [entryFrame, mkF, argsToLocals, Value.category]; done) | rfl
theorem own_d5_0 : decode jdk_52_method_21_code 0 = .ok (.iconst 0, 1) := by decide +kernel
theorem own_d5_1 : decode jdk_52_method_21_code 1 = .ok (.istore 5, 2) := by decide +kernel
theorem own_d5_3 : decode jdk_52_method_21_code 3 = .ok (.iload 5, 2) := by decide +kernel
theorem own_d5_5 : decode jdk_52_method_21_code 5 = .ok (.iload 4, 2) := by decide +kernel
theorem own_d5_7 : decode jdk_52_method_21_code 7 = .ok (.if_icmp .ge 37, 3) := by decide +kernel
theorem own_d5_10 : decode jdk_52_method_21_code 10 = .ok (.aload_n 0, 1) := by decide +kernel
theorem own_d5_11 : decode jdk_52_method_21_code 11 = .ok (.iload_n 1, 1) := by decide +kernel
theorem own_d5_12 : decode jdk_52_method_21_code 12 = .ok (.caload, 1) := by decide +kernel
theorem own_d5_13 : decode jdk_52_method_21_code 13 = .ok (.istore 6, 2) := by decide +kernel
theorem own_d5_15 : decode jdk_52_method_21_code 15 = .ok (.iload 6, 2) := by decide +kernel
theorem own_d5_17 : decode jdk_52_method_21_code 17 = .ok (.sipush 255, 3) := by decide +kernel
theorem own_d5_20 : decode jdk_52_method_21_code 20 = .ok (.if_icmp .le 6, 3) := by decide +kernel
theorem own_d5_26 : decode jdk_52_method_21_code 26 = .ok (.aload_n 2, 1) := by decide +kernel
theorem own_d5_27 : decode jdk_52_method_21_code 27 = .ok (.iload_n 3, 1) := by decide +kernel
theorem own_d5_28 : decode jdk_52_method_21_code 28 = .ok (.iload 6, 2) := by decide +kernel
theorem own_d5_30 : decode jdk_52_method_21_code 30 = .ok (.i2b, 1) := by decide +kernel
theorem own_d5_31 : decode jdk_52_method_21_code 31 = .ok (.bastore, 1) := by decide +kernel
theorem own_d5_32 : decode jdk_52_method_21_code 32 = .ok (.iinc 1 1, 3) := by decide +kernel
theorem own_d5_35 : decode jdk_52_method_21_code 35 = .ok (.iinc 3 1, 3) := by decide +kernel
theorem own_d5_38 : decode jdk_52_method_21_code 38 = .ok (.iinc 5 1, 3) := by decide +kernel
theorem own_d5_41 : decode jdk_52_method_21_code 41 = .ok (.goto (-38), 3) := by decide +kernel
theorem own_d5_44 : decode jdk_52_method_21_code 44 = .ok (.iload 4, 2) := by decide +kernel
theorem own_d5_46 : decode jdk_52_method_21_code 46 = .ok (.ireturn, 1) := by decide +kernel
theorem own_pl_5 : plainFor (⟨"java/lang/StringUTF16", "compress", "([CI[BII)I"⟩ : MethodName) = true := plainFor_of_name (by first | (simp [plainName, overriddenIn]; done) | decide +kernel)
theorem own_ef_4_0_2 (p1 : Addr)  (m : MethodId) : entryFrame m #[(.ref p1), (.int (0 : Int32)), (.int (2 : Int32))] 6 = mkF m 0 #[.val (.ref p1), .val (.int (0 : Int32)), .val (.int (2 : Int32)), .unset, .unset, .unset] [] := by first | (simp [entryFrame, mkF, argsToLocals, Value.category]; done) | rfl
theorem own_d4_0 : decode jdk_52_method_16_code 0 = .ok (.iload_n 2, 1) := by decide +kernel
theorem own_d4_1 : decode jdk_52_method_16_code 1 = .ok (.newarray .byte, 2) := by decide +kernel
theorem own_d4_3 : decode jdk_52_method_16_code 3 = .ok (.astore_n 3, 1) := by decide +kernel
theorem own_d4_4 : decode jdk_52_method_16_code 4 = .ok (.aload_n 0, 1) := by decide +kernel
theorem own_d4_5 : decode jdk_52_method_16_code 5 = .ok (.iload_n 1, 1) := by decide +kernel
theorem own_d4_6 : decode jdk_52_method_16_code 6 = .ok (.aload_n 3, 1) := by decide +kernel
theorem own_d4_7 : decode jdk_52_method_16_code 7 = .ok (.iconst 0, 1) := by decide +kernel
theorem own_d4_8 : decode jdk_52_method_16_code 8 = .ok (.iload_n 2, 1) := by decide +kernel
theorem own_d4_9 : decode jdk_52_method_16_code 9 = .ok (.invokestatic 115, 3) := by decide +kernel
theorem own_pd_20 : parseMethodDescriptor "([CI[BII)I" = some ⟨[(.array .char), .int, (.array .byte), .int, .int], some .int⟩ := by decide +kernel
theorem own_d4_12 : decode jdk_52_method_16_code 12 = .ok (.istore 4, 2) := by decide +kernel
theorem own_d4_14 : decode jdk_52_method_16_code 14 = .ok (.iload 4, 2) := by decide +kernel
theorem own_d4_16 : decode jdk_52_method_16_code 16 = .ok (.iload_n 2, 1) := by decide +kernel
theorem own_d4_17 : decode jdk_52_method_16_code 17 = .ok (.if_icmp .eq 40, 3) := by decide +kernel
theorem own_d4_57 : decode jdk_52_method_16_code 57 = .ok (.aload_n 3, 1) := by decide +kernel
theorem own_d4_58 : decode jdk_52_method_16_code 58 = .ok (.areturn, 1) := by decide +kernel
theorem own_pl_4 : plainFor (⟨"java/lang/StringUTF16", "compress", "([CII)[B"⟩ : MethodName) = true := plainFor_of_name (by first | (simp [plainName, overriddenIn]; done) | decide +kernel)
theorem own_ef_6_2 (p1 : Addr)  (m : MethodId) : entryFrame m #[(.ref p1), (.int (2 : Int32))] 2 = mkF m 0 #[.val (.ref p1), .val (.int (2 : Int32))] [] := by first | (simp [entryFrame, mkF, argsToLocals, Value.category]; done) | rfl
theorem own_d6_0 : decode jdk_52_method_15_code 0 = .ok (.iload_n 1, 1) := by decide +kernel
theorem own_d6_1 : decode jdk_52_method_15_code 1 = .ok (.aload_n 0, 1) := by decide +kernel
theorem own_d6_2 : decode jdk_52_method_15_code 2 = .ok (.arraylength, 1) := by decide +kernel
theorem own_d6_3 : decode jdk_52_method_15_code 3 = .ok (.isub, 1) := by decide +kernel
theorem own_d6_4 : decode jdk_52_method_15_code 4 = .ok (.bipush 31, 2) := by decide +kernel
theorem own_d6_6 : decode jdk_52_method_15_code 6 = .ok (.iushr, 1) := by decide +kernel
theorem own_d6_7 : decode jdk_52_method_15_code 7 = .ok (.i2b, 1) := by decide +kernel
theorem own_d6_8 : decode jdk_52_method_15_code 8 = .ok (.ireturn, 1) := by decide +kernel
theorem own_pl_6 : plainFor (⟨"java/lang/StringUTF16", "coderFromArrayLen", "([BI)B"⟩ : MethodName) = true := plainFor_of_name (by first | (simp [plainName, overriddenIn]; done) | decide +kernel)
theorem own_ef_2n_0_2 (p1 : Addr) (p2 : Addr)  (m : MethodId) : entryFrame m #[(.ref p1), (.ref p2), (.int (0 : Int32)), (.int (2 : Int32)), .null] 6 = mkF m 0 #[.val (.ref p1), .val (.ref p2), .val (.int (0 : Int32)), .val (.int (2 : Int32)), .val .null, .unset] [] := by first | (simp [entryFrame, mkF, argsToLocals, Value.category]; done) | rfl
theorem own_d2_0 : decode jdk_42_method_149_code 0 = .ok (.aload_n 0, 1) := by decide +kernel
theorem own_d2_1 : decode jdk_42_method_149_code 1 = .ok (.invokespecial 1, 3) := by decide +kernel
theorem own_d2_4 : decode jdk_42_method_149_code 4 = .ok (.iload_n 3, 1) := by decide +kernel
theorem own_d2_5 : decode jdk_42_method_149_code 5 = .ok (.ifCond .ne 22, 3) := by decide +kernel
theorem own_d2_27 : decode jdk_42_method_149_code 27 = .ok (.getstatic 38, 3) := by decide +kernel
theorem own_d2_30 : decode jdk_42_method_149_code 30 = .ok (.ifCond .eq 28, 3) := by decide +kernel
theorem own_d2_33 : decode jdk_42_method_149_code 33 = .ok (.aload_n 1, 1) := by decide +kernel
theorem own_d2_34 : decode jdk_42_method_149_code 34 = .ok (.iload_n 2, 1) := by decide +kernel
theorem own_d2_35 : decode jdk_42_method_149_code 35 = .ok (.iload_n 3, 1) := by decide +kernel
theorem own_d2_36 : decode jdk_42_method_149_code 36 = .ok (.invokestatic 177, 3) := by decide +kernel
theorem own_pd_18 : parseMethodDescriptor "([CII)[B" = some ⟨[(.array .char), .int, .int], some (.array .byte)⟩ := by decide +kernel
theorem own_d2_39 : decode jdk_42_method_149_code 39 = .ok (.astore 5, 2) := by decide +kernel
theorem own_d2_41 : decode jdk_42_method_149_code 41 = .ok (.aload_n 0, 1) := by decide +kernel
theorem own_d2_42 : decode jdk_42_method_149_code 42 = .ok (.aload 5, 2) := by decide +kernel
theorem own_d2_44 : decode jdk_42_method_149_code 44 = .ok (.iload_n 3, 1) := by decide +kernel
theorem own_d2_45 : decode jdk_42_method_149_code 45 = .ok (.invokestatic 47, 3) := by decide +kernel
theorem own_pd_15 : parseMethodDescriptor "([BI)B" = some ⟨[(.array .byte), .int], some .byte⟩ := by decide +kernel
theorem own_d2_48 : decode jdk_42_method_149_code 48 = .ok (.putfield 15, 3) := by decide +kernel
theorem own_d2_51 : decode jdk_42_method_149_code 51 = .ok (.aload_n 0, 1) := by decide +kernel
theorem own_d2_52 : decode jdk_42_method_149_code 52 = .ok (.aload 5, 2) := by decide +kernel
theorem own_d2_54 : decode jdk_42_method_149_code 54 = .ok (.putfield 9, 3) := by decide +kernel
theorem own_d2_57 : decode jdk_42_method_149_code 57 = .ok (.return_, 1) := by decide +kernel
theorem own_pl_2 : plainFor (⟨"java/lang/String", "<init>", "([CIILjava/lang/Void;)V"⟩ : MethodName) = true := plainFor_of_name (by first | (simp [plainName, overriddenIn]; done) | decide +kernel)
theorem own_ef_1 (p1 : Addr) (p2 : Addr)  (m : MethodId) : entryFrame m #[(.ref p1), (.ref p2)] 2 = mkF m 0 #[.val (.ref p1), .val (.ref p2)] [] := by first | (simp [entryFrame, mkF, argsToLocals, Value.category]; done) | rfl
theorem own_d1_0 : decode jdk_42_method_3_code 0 = .ok (.aload_n 0, 1) := by decide +kernel
theorem own_d1_1 : decode jdk_42_method_3_code 1 = .ok (.aload_n 1, 1) := by decide +kernel
theorem own_d1_2 : decode jdk_42_method_3_code 2 = .ok (.iconst 0, 1) := by decide +kernel
theorem own_d1_3 : decode jdk_42_method_3_code 3 = .ok (.aload_n 1, 1) := by decide +kernel
theorem own_d1_4 : decode jdk_42_method_3_code 4 = .ok (.arraylength, 1) := by decide +kernel
theorem own_d1_5 : decode jdk_42_method_3_code 5 = .ok (.aconst_null, 1) := by decide +kernel
theorem own_d1_6 : decode jdk_42_method_3_code 6 = .ok (.invokespecial 27, 3) := by decide +kernel
theorem own_pd_19 : parseMethodDescriptor "([CIILjava/lang/Void;)V" = some ⟨[(.array .char), .int, .int, (.object "java/lang/Void")], none⟩ := by decide +kernel
theorem own_d1_9 : decode jdk_42_method_3_code 9 = .ok (.return_, 1) := by decide +kernel
theorem own_pl_1 : plainFor (⟨"java/lang/String", "<init>", "([C)V"⟩ : MethodName) = true := plainFor_of_name (by first | (simp [plainName, overriddenIn]; done) | decide +kernel)
theorem own_ef_26 (p1 : Addr) (p2 : Addr)  (m : MethodId) : entryFrame m #[(.ref p1), (.ref p2)] 3 = mkF m 0 #[.val (.ref p1), .val (.ref p2), .unset] [] := by first | (simp [entryFrame, mkF, argsToLocals, Value.category]; done) | rfl
theorem own_d26_0 : decode jdk_43_method_13_code 0 = .ok (.aload_n 0, 1) := by decide +kernel
theorem own_d26_1 : decode jdk_43_method_13_code 1 = .ok (.arraylength, 1) := by decide +kernel
theorem own_d26_2 : decode jdk_43_method_13_code 2 = .ok (.aload_n 1, 1) := by decide +kernel
theorem own_d26_3 : decode jdk_43_method_13_code 3 = .ok (.arraylength, 1) := by decide +kernel
theorem own_d26_4 : decode jdk_43_method_13_code 4 = .ok (.if_icmp .ne 30, 3) := by decide +kernel
theorem own_d26_34 : decode jdk_43_method_13_code 34 = .ok (.iconst 0, 1) := by decide +kernel
theorem own_d26_35 : decode jdk_43_method_13_code 35 = .ok (.ireturn, 1) := by decide +kernel
theorem own_d26_7 : decode jdk_43_method_13_code 7 = .ok (.iconst 0, 1) := by decide +kernel
theorem own_d26_8 : decode jdk_43_method_13_code 8 = .ok (.istore_n 2, 1) := by decide +kernel
theorem own_d26_9 : decode jdk_43_method_13_code 9 = .ok (.iload_n 2, 1) := by decide +kernel
theorem own_d26_10 : decode jdk_43_method_13_code 10 = .ok (.aload_n 0, 1) := by decide +kernel
theorem own_d26_11 : decode jdk_43_method_13_code 11 = .ok (.arraylength, 1) := by decide +kernel
theorem own_d26_12 : decode jdk_43_method_13_code 12 = .ok (.if_icmp .ge 20, 3) := by decide +kernel
theorem own_d26_32 : decode jdk_43_method_13_code 32 = .ok (.iconst 1, 1) := by decide +kernel
theorem own_d26_33 : decode jdk_43_method_13_code 33 = .ok (.ireturn, 1) := by decide +kernel
theorem own_d26_15 : decode jdk_43_method_13_code 15 = .ok (.aload_n 0, 1) := by decide +kernel
theorem own_d26_16 : decode jdk_43_method_13_code 16 = .ok (.iload_n 2, 1) := by decide +kernel
theorem own_d26_17 : decode jdk_43_method_13_code 17 = .ok (.baload, 1) := by decide +kernel
theorem own_d26_18 : decode jdk_43_method_13_code 18 = .ok (.aload_n 1, 1) := by decide +kernel
theorem own_d26_19 : decode jdk_43_method_13_code 19 = .ok (.iload_n 2, 1) := by decide +kernel
theorem own_d26_20 : decode jdk_43_method_13_code 20 = .ok (.baload, 1) := by decide +kernel
theorem own_d26_21 : decode jdk_43_method_13_code 21 = .ok (.if_icmp .eq 5, 3) := by decide +kernel
theorem own_d26_26 : decode jdk_43_method_13_code 26 = .ok (.iinc 2 1, 3) := by decide +kernel
theorem own_d26_29 : decode jdk_43_method_13_code 29 = .ok (.goto (-20), 3) := by decide +kernel
theorem own_d26_24 : decode jdk_43_method_13_code 24 = .ok (.iconst 0, 1) := by decide +kernel
theorem own_d26_25 : decode jdk_43_method_13_code 25 = .ok (.ireturn, 1) := by decide +kernel
theorem own_pl_26 : plainFor (⟨"java/lang/StringLatin1", "equals", "([B[B)Z"⟩ : MethodName) = true := plainFor_of_name (by first | (simp [plainName, overriddenIn]; done) | decide +kernel)
theorem own_ef_21 (p1 : Addr) (p2 : Addr)  (m : MethodId) : entryFrame m #[(.ref p1), (.ref p2)] 3 = mkF m 0 #[.val (.ref p1), .val (.ref p2), .unset] [] := by first | (simp [entryFrame, mkF, argsToLocals, Value.category]; done) | rfl
theorem own_d21_0 : decode jdk_42_method_66_code 0 = .ok (.aload_n 0, 1) := by decide +kernel
theorem own_d21_1 : decode jdk_42_method_66_code 1 = .ok (.aload_n 1, 1) := by decide +kernel
theorem own_d21_2 : decode jdk_42_method_66_code 2 = .ok (.if_acmp .ne 5, 3) := by decide +kernel
theorem own_d21_7 : decode jdk_42_method_66_code 7 = .ok (.aload_n 1, 1) := by decide +kernel
theorem own_d21_8 : decode jdk_42_method_66_code 8 = .ok (.instanceof 10, 3) := by decide +kernel
theorem own_d21_11 : decode jdk_42_method_66_code 11 = .ok (.ifCond .eq 43, 3) := by decide +kernel
theorem own_d21_14 : decode jdk_42_method_66_code 14 = .ok (.aload_n 1, 1) := by decide +kernel
theorem own_d21_15 : decode jdk_42_method_66_code 15 = .ok (.checkcast 10, 3) := by decide +kernel
theorem own_d21_18 : decode jdk_42_method_66_code 18 = .ok (.astore_n 2, 1) := by decide +kernel
theorem own_d21_19 : decode jdk_42_method_66_code 19 = .ok (.getstatic 38, 3) := by decide +kernel
theorem own_d21_22 : decode jdk_42_method_66_code 22 = .ok (.ifCond .eq 14, 3) := by decide +kernel
theorem own_d21_25 : decode jdk_42_method_66_code 25 = .ok (.aload_n 0, 1) := by decide +kernel
theorem own_d21_26 : decode jdk_42_method_66_code 26 = .ok (.getfield 15, 3) := by decide +kernel
theorem own_d21_29 : decode jdk_42_method_66_code 29 = .ok (.aload_n 2, 1) := by decide +kernel
theorem own_d21_30 : decode jdk_42_method_66_code 30 = .ok (.getfield 15, 3) := by decide +kernel
theorem own_d21_33 : decode jdk_42_method_66_code 33 = .ok (.if_icmp .ne 21, 3) := by decide +kernel
theorem own_d21_36 : decode jdk_42_method_66_code 36 = .ok (.aload_n 0, 1) := by decide +kernel
theorem own_d21_37 : decode jdk_42_method_66_code 37 = .ok (.getfield 9, 3) := by decide +kernel
theorem own_d21_40 : decode jdk_42_method_66_code 40 = .ok (.aload_n 2, 1) := by decide +kernel
theorem own_d21_41 : decode jdk_42_method_66_code 41 = .ok (.getfield 9, 3) := by decide +kernel
theorem own_d21_44 : decode jdk_42_method_66_code 44 = .ok (.invokestatic 541, 3) := by decide +kernel
theorem own_pd_16 : parseMethodDescriptor "([B[B)Z" = some ⟨[(.array .byte), (.array .byte)], some .boolean⟩ := by decide +kernel
theorem own_d21_47 : decode jdk_42_method_66_code 47 = .ok (.ifCond .eq 7, 3) := by decide +kernel
theorem own_d21_54 : decode jdk_42_method_66_code 54 = .ok (.iconst 0, 1) := by decide +kernel
theorem own_d21_55 : decode jdk_42_method_66_code 55 = .ok (.ireturn, 1) := by decide +kernel
theorem own_d21_50 : decode jdk_42_method_66_code 50 = .ok (.iconst 1, 1) := by decide +kernel
theorem own_d21_51 : decode jdk_42_method_66_code 51 = .ok (.goto 4, 3) := by decide +kernel
theorem own_d21_5 : decode jdk_42_method_66_code 5 = .ok (.iconst 1, 1) := by decide +kernel
theorem own_d21_6 : decode jdk_42_method_66_code 6 = .ok (.ireturn, 1) := by decide +kernel
theorem own_pl_21 : plainFor (⟨"java/lang/String", "equals", "(Ljava/lang/Object;)Z"⟩ : MethodName) = true := plainFor_of_name (by first | (simp [plainName, overriddenIn]; done) | decide +kernel)
theorem own_ef_8 (p1 : Int32)  (m : MethodId) : entryFrame m #[(.int p1)] 1 = mkF m 0 #[.val (.int p1)] [] := by first | (simp [entryFrame, mkF, argsToLocals, Value.category]; done) | rfl
theorem own_d8_0 : decode jdk_43_method_3_code 0 = .ok (.iload_n 0, 1) := by decide +kernel
theorem own_d8_1 : decode jdk_43_method_3_code 1 = .ok (.sipush 255, 3) := by decide +kernel
theorem own_d8_4 : decode jdk_43_method_3_code 4 = .ok (.if_icmp .gt 7, 3) := by decide +kernel
theorem own_d8_7 : decode jdk_43_method_3_code 7 = .ok (.iconst 1, 1) := by decide +kernel
theorem own_d8_8 : decode jdk_43_method_3_code 8 = .ok (.goto 4, 3) := by decide +kernel
theorem own_d8_12 : decode jdk_43_method_3_code 12 = .ok (.ireturn, 1) := by decide +kernel
theorem own_pl_8 : plainFor (⟨"java/lang/StringLatin1", "canEncode", "(C)Z"⟩ : MethodName) = true := plainFor_of_name (by first | (simp [plainName, overriddenIn]; done) | decide +kernel)
theorem own_ef_9 (p1 : Int32)  (m : MethodId) : entryFrame m #[(.int p1)] 1 = mkF m 0 #[.val (.int p1)] [] := by first | (simp [entryFrame, mkF, argsToLocals, Value.category]; done) | rfl
theorem own_d9_0 : decode jdk_43_method_46_code 0 = .ok (.iconst 1, 1) := by decide +kernel
theorem own_d9_1 : decode jdk_43_method_46_code 1 = .ok (.newarray .byte, 2) := by decide +kernel
theorem own_d9_3 : decode jdk_43_method_46_code 3 = .ok (.dup, 1) := by decide +kernel
theorem own_d9_4 : decode jdk_43_method_46_code 4 = .ok (.iconst 0, 1) := by decide +kernel
theorem own_d9_5 : decode jdk_43_method_46_code 5 = .ok (.iload_n 0, 1) := by decide +kernel
theorem own_d9_6 : decode jdk_43_method_46_code 6 = .ok (.i2b, 1) := by decide +kernel
theorem own_d9_7 : decode jdk_43_method_46_code 7 = .ok (.bastore, 1) := by decide +kernel
theorem own_d9_8 : decode jdk_43_method_46_code 8 = .ok (.areturn, 1) := by decide +kernel
theorem own_pl_9 : plainFor (⟨"java/lang/StringLatin1", "toBytes", "(C)[B"⟩ : MethodName) = true := plainFor_of_name (by first | (simp [plainName, overriddenIn]; done) | decide +kernel)
theorem own_ef_10_0 (p1 : Addr) (p2 : Addr)  (m : MethodId) : entryFrame m #[(.ref p1), (.ref p2), (.int (0 : Int32))] 3 = mkF m 0 #[.val (.ref p1), .val (.ref p2), .val (.int (0 : Int32))] [] := by first | (simp [entryFrame, mkF, argsToLocals, Value.category]; done) | rfl
theorem own_d10_0 : decode jdk_42_method_151_code 0 = .ok (.aload_n 0, 1) := by decide +kernel
theorem own_d10_1 : decode jdk_42_method_151_code 1 = .ok (.invokespecial 1, 3) := by decide +kernel
theorem own_d10_4 : decode jdk_42_method_151_code 4 = .ok (.aload_n 0, 1) := by decide +kernel
theorem own_d10_5 : decode jdk_42_method_151_code 5 = .ok (.aload_n 1, 1) := by decide +kernel
theorem own_d10_6 : decode jdk_42_method_151_code 6 = .ok (.putfield 9, 3) := by decide +kernel
theorem own_d10_9 : decode jdk_42_method_151_code 9 = .ok (.aload_n 0, 1) := by decide +kernel
theorem own_d10_10 : decode jdk_42_method_151_code 10 = .ok (.iload_n 2, 1) := by decide +kernel
theorem own_d10_11 : decode jdk_42_method_151_code 11 = .ok (.putfield 15, 3) := by decide +kernel
theorem own_d10_14 : decode jdk_42_method_151_code 14 = .ok (.return_, 1) := by decide +kernel
theorem own_pl_10 : plainFor (⟨"java/lang/String", "<init>", "([BB)V"⟩ : MethodName) = true := plainFor_of_name (by first | (simp [plainName, overriddenIn]; done) | decide +kernel)
theorem own_ef_7 (p1 : Int32)  (m : MethodId) : entryFrame m #[(.int p1)] 1 = mkF m 0 #[.val (.int p1)] [] := by first | (simp [entryFrame, mkF, argsToLocals, Value.category]; done) | rfl
theorem own_d7_0 : decode jdk_42_method_139_code 0 = .ok (.getstatic 38, 3) := by decide +kernel
theorem own_d7_3 : decode jdk_42_method_139_code 3 = .ok (.ifCond .eq 23, 3) := by decide +kernel
theorem own_d7_6 : decode jdk_42_method_139_code 6 = .ok (.iload_n 0, 1) := by decide +kernel
theorem own_d7_7 : decode jdk_42_method_139_code 7 = .ok (.invokestatic 1015, 3) := by decide +kernel
theorem own_pd_4 : parseMethodDescriptor "(C)Z" = some ⟨[.char], some .boolean⟩ := by decide +kernel
theorem own_d7_10 : decode jdk_42_method_139_code 10 = .ok (.ifCond .eq 16, 3) := by decide +kernel
theorem own_d7_13 : decode jdk_42_method_139_code 13 = .ok (.new 10, 3) := by decide +kernel
theorem own_d7_16 : decode jdk_42_method_139_code 16 = .ok (.dup, 1) := by decide +kernel
theorem own_d7_17 : decode jdk_42_method_139_code 17 = .ok (.iload_n 0, 1) := by decide +kernel
theorem own_d7_18 : decode jdk_42_method_139_code 18 = .ok (.invokestatic 1018, 3) := by decide +kernel
theorem own_pd_5 : parseMethodDescriptor "(C)[B" = some ⟨[.char], some (.array .byte)⟩ := by decide +kernel
theorem own_d7_21 : decode jdk_42_method_139_code 21 = .ok (.iconst 0, 1) := by decide +kernel
theorem own_d7_22 : decode jdk_42_method_139_code 22 = .ok (.invokespecial 209, 3) := by decide +kernel
theorem own_pd_14 : parseMethodDescriptor "([BB)V" = some ⟨[(.array .byte), .byte], none⟩ := by decide +kernel
theorem own_d7_25 : decode jdk_42_method_139_code 25 = .ok (.areturn, 1) := by decide +kernel
theorem own_pl_7 : plainFor (⟨"java/lang/String", "valueOf", "(C)Ljava/lang/String;"⟩ : MethodName) = true := plainFor_of_name (by first | (simp [plainName, overriddenIn]; done) | decide +kernel)
theorem own_ef_20_0_0_2 (p2 : Addr)  (m : MethodId) : entryFrame m #[(.int (0 : Int32)), (.ref p2), (.int (0 : Int32)), (.int (2 : Int32))] 6 = mkF m 0 #[.val (.int (0 : Int32)), .val (.ref p2), .val (.int (0 : Int32)), .val (.int (2 : Int32)), .unset, .unset] [] := by first | (simp [entryFrame, mkF, argsToLocals, Value.category]; done) | rfl
theorem own_d20_0 : decode jdk_48_method_5_code 0 = .ok (.iload_n 2, 1) := by decide +kernel
theorem own_d20_1 : decode jdk_48_method_5_code 1 = .ok (.iload_n 3, 1) := by decide +kernel
theorem own_d20_2 : decode jdk_48_method_5_code 2 = .ok (.iadd, 1) := by decide +kernel
theorem own_d20_3 : decode jdk_48_method_5_code 3 = .ok (.istore 4, 2) := by decide +kernel
theorem own_d20_5 : decode jdk_48_method_5_code 5 = .ok (.iload_n 2, 1) := by decide +kernel
theorem own_d20_6 : decode jdk_48_method_5_code 6 = .ok (.istore 5, 2) := by decide +kernel
theorem own_d20_8 : decode jdk_48_method_5_code 8 = .ok (.iload 5, 2) := by decide +kernel
theorem own_d20_10 : decode jdk_48_method_5_code 10 = .ok (.iload 4, 2) := by decide +kernel
theorem own_d20_12 : decode jdk_48_method_5_code 12 = .ok (.if_icmp .ge 23, 3) := by decide +kernel
theorem own_d20_15 : decode jdk_48_method_5_code 15 = .ok (.bipush 31, 2) := by decide +kernel
theorem own_d20_17 : decode jdk_48_method_5_code 17 = .ok (.iload_n 0, 1) := by decide +kernel
theorem own_d20_18 : decode jdk_48_method_5_code 18 = .ok (.imul, 1) := by decide +kernel
theorem own_d20_19 : decode jdk_48_method_5_code 19 = .ok (.aload_n 1, 1) := by decide +kernel
theorem own_d20_20 : decode jdk_48_method_5_code 20 = .ok (.iload 5, 2) := by decide +kernel
theorem own_d20_22 : decode jdk_48_method_5_code 22 = .ok (.baload, 1) := by decide +kernel
theorem own_d20_23 : decode jdk_48_method_5_code 23 = .ok (.sipush 255, 3) := by decide +kernel
theorem own_d20_26 : decode jdk_48_method_5_code 26 = .ok (.iand, 1) := by decide +kernel
theorem own_d20_27 : decode jdk_48_method_5_code 27 = .ok (.iadd, 1) := by decide +kernel
theorem own_d20_28 : decode jdk_48_method_5_code 28 = .ok (.istore_n 0, 1) := by decide +kernel
theorem own_d20_29 : decode jdk_48_method_5_code 29 = .ok (.iinc 5 1, 3) := by decide +kernel
theorem own_d20_32 : decode jdk_48_method_5_code 32 = .ok (.goto (-24), 3) := by decide +kernel
theorem own_d20_35 : decode jdk_48_method_5_code 35 = .ok (.iload_n 0, 1) := by decide +kernel
theorem own_d20_36 : decode jdk_48_method_5_code 36 = .ok (.ireturn, 1) := by decide +kernel
theorem own_pl_20 : plainFor (⟨"jdk/internal/util/ArraysSupport", "signedHashCode", "(I[BII)I"⟩ : MethodName) = true := plainFor_of_name (by first | (simp [plainName, overriddenIn]; done) | decide +kernel)
theorem own_ef_19_0_2_0_4 (p1 : Addr)  (m : MethodId) : entryFrame m #[(.ref p1), (.int (0 : Int32)), (.int (2 : Int32)), (.int (0 : Int32)), (.int (4 : Int32))] 5 = mkF m 0 #[.val (.ref p1), .val (.int (0 : Int32)), .val (.int (2 : Int32)), .val (.int (0 : Int32)), .val (.int (4 : Int32))] [] := by first | (simp [entryFrame, mkF, argsToLocals, Value.category]; done) | rfl
theorem own_d19_0 : decode jdk_48_method_4_code 0 = .ok (.iload 4, 2) := by decide +kernel
theorem own_d19_2 : decode jdk_48_method_4_code 2 = .ok (.tableswitch 127 4 10 #[42, 55, 127, 127, 88, 101, 114], 42) := by decide +kernel
theorem own_d19_44 : decode jdk_48_method_4_code 44 = .ok (.iload_n 3, 1) := by decide +kernel
theorem own_d19_45 : decode jdk_48_method_4_code 45 = .ok (.aload_n 0, 1) := by decide +kernel
theorem own_d19_46 : decode jdk_48_method_4_code 46 = .ok (.checkcast 60, 3) := by decide +kernel
theorem own_d19_49 : decode jdk_48_method_4_code 49 = .ok (.iload_n 1, 1) := by decide +kernel
theorem own_d19_50 : decode jdk_48_method_4_code 50 = .ok (.iload_n 2, 1) := by decide +kernel
theorem own_d19_51 : decode jdk_48_method_4_code 51 = .ok (.invokestatic 62, 3) := by decide +kernel
theorem own_pd_9 : parseMethodDescriptor "(I[BII)I" = some ⟨[.int, (.array .byte), .int, .int], some .int⟩ := by decide +kernel
theorem own_d19_54 : decode jdk_48_method_4_code 54 = .ok (.goto 103, 3) := by decide +kernel
theorem own_d19_157 : decode jdk_48_method_4_code 157 = .ok (.ireturn, 1) := by decide +kernel
theorem own_pl_19 : plainFor (⟨"jdk/internal/util/ArraysSupport", "vectorizedHashCode", "(Ljava/lang/Object;IIII)I"⟩ : MethodName) = true := plainFor_of_name (by first | (simp [plainName, overriddenIn]; done) | decide +kernel)
theorem own_ef_18 (p1 : Addr)  (m : MethodId) : entryFrame m #[(.ref p1)] 1 = mkF m 0 #[.val (.ref p1)] [] := by first | (simp [entryFrame, mkF, argsToLocals, Value.category]; done) | rfl
theorem own_d18_0 : decode jdk_43_method_21_code 0 = .ok (.aload_n 0, 1) := by decide +kernel
theorem own_d18_1 : decode jdk_43_method_21_code 1 = .ok (.arraylength, 1) := by decide +kernel
theorem own_d18_2 : decode jdk_43_method_21_code 2 = .ok (.lookupswitch 40 #[(0, 26), (1, 30)], 26) := by decide +kernel
theorem own_d18_32 : decode jdk_43_method_21_code 32 = .ok (.aload_n 0, 1) := by decide +kernel
theorem own_d18_33 : decode jdk_43_method_21_code 33 = .ok (.iconst 0, 1) := by decide +kernel
theorem own_d18_34 : decode jdk_43_method_21_code 34 = .ok (.baload, 1) := by decide +kernel
theorem own_d18_35 : decode jdk_43_method_21_code 35 = .ok (.sipush 255, 3) := by decide +kernel
theorem own_d18_38 : decode jdk_43_method_21_code 38 = .ok (.iand, 1) := by decide +kernel
theorem own_d18_39 : decode jdk_43_method_21_code 39 = .ok (.goto 12, 3) := by decide +kernel
theorem own_d18_51 : decode jdk_43_method_21_code 51 = .ok (.ireturn, 1) := by decide +kernel
theorem own_pl_18 : plainFor (⟨"java/lang/StringLatin1", "hashCode", "([B)I"⟩ : MethodName) = true := plainFor_of_name (by first | (simp [plainName, overriddenIn]; done) | decide +kernel)
theorem own_d18_42 : decode jdk_43_method_21_code 42 = .ok (.aload_n 0, 1) := by decide +kernel
theorem own_d18_43 : decode jdk_43_method_21_code 43 = .ok (.iconst 0, 1) := by decide +kernel
theorem own_d18_44 : decode jdk_43_method_21_code 44 = .ok (.aload_n 0, 1) := by decide +kernel
theorem own_d18_45 : decode jdk_43_method_21_code 45 = .ok (.arraylength, 1) := by decide +kernel
theorem own_d18_46 : decode jdk_43_method_21_code 46 = .ok (.iconst 0, 1) := by decide +kernel
theorem own_d18_47 : decode jdk_43_method_21_code 47 = .ok (.iconst 4, 1) := by decide +kernel
theorem own_d18_48 : decode jdk_43_method_21_code 48 = .ok (.invokestatic 84, 3) := by decide +kernel
theorem own_pd_11 : parseMethodDescriptor "(Ljava/lang/Object;IIII)I" = some ⟨[(.object "java/lang/Object"), .int, .int, .int, .int], some .int⟩ := by decide +kernel
theorem own_ef_17 (p1 : Addr)  (m : MethodId) : entryFrame m #[(.ref p1)] 1 = mkF m 0 #[.val (.ref p1)] [] := by first | (simp [entryFrame, mkF, argsToLocals, Value.category]; done) | rfl
theorem own_d17_0 : decode jdk_42_method_154_code 0 = .ok (.getstatic 38, 3) := by decide +kernel
theorem own_d17_3 : decode jdk_42_method_154_code 3 = .ok (.ifCond .eq 14, 3) := by decide +kernel
theorem own_d17_6 : decode jdk_42_method_154_code 6 = .ok (.aload_n 0, 1) := by decide +kernel
theorem own_d17_7 : decode jdk_42_method_154_code 7 = .ok (.getfield 15, 3) := by decide +kernel
theorem own_d17_10 : decode jdk_42_method_154_code 10 = .ok (.ifCond .ne 7, 3) := by decide +kernel
theorem own_d17_13 : decode jdk_42_method_154_code 13 = .ok (.iconst 1, 1) := by decide +kernel
theorem own_d17_14 : decode jdk_42_method_154_code 14 = .ok (.goto 4, 3) := by decide +kernel
theorem own_d17_18 : decode jdk_42_method_154_code 18 = .ok (.ireturn, 1) := by decide +kernel
theorem own_pl_17 : plainFor (⟨"java/lang/String", "isLatin1", "()Z"⟩ : MethodName) = true := plainFor_of_name (by first | (simp [plainName, overriddenIn]; done) | decide +kernel)
theorem own_ef_16 (p1 : Addr)  (m : MethodId) : entryFrame m #[(.ref p1)] 2 = mkF m 0 #[.val (.ref p1), .unset] [] := by first | (simp [entryFrame, mkF, argsToLocals, Value.category]; done) | rfl
theorem own_d16_0 : decode jdk_42_method_78_code 0 = .ok (.aload_n 0, 1) := by decide +kernel
theorem own_d16_1 : decode jdk_42_method_78_code 1 = .ok (.getfield 19, 3) := by decide +kernel
theorem own_d16_4 : decode jdk_42_method_78_code 4 = .ok (.istore_n 1, 1) := by decide +kernel
theorem own_d16_5 : decode jdk_42_method_78_code 5 = .ok (.iload_n 1, 1) := by decide +kernel
theorem own_d16_6 : decode jdk_42_method_78_code 6 = .ok (.ifCond .ne 52, 3) := by decide +kernel
theorem own_d16_58 : decode jdk_42_method_78_code 58 = .ok (.iload_n 1, 1) := by decide +kernel
theorem own_d16_59 : decode jdk_42_method_78_code 59 = .ok (.ireturn, 1) := by decide +kernel
theorem own_d16_9 : decode jdk_42_method_78_code 9 = .ok (.aload_n 0, 1) := by decide +kernel
theorem own_d16_10 : decode jdk_42_method_78_code 10 = .ok (.getfield 23, 3) := by decide +kernel
theorem own_d16_13 : decode jdk_42_method_78_code 13 = .ok (.ifCond .ne 45, 3) := by decide +kernel
theorem own_d16_16 : decode jdk_42_method_78_code 16 = .ok (.aload_n 0, 1) := by decide +kernel
theorem own_d16_17 : decode jdk_42_method_78_code 17 = .ok (.invokevirtual 492, 3) := by decide +kernel
theorem own_pd_2 : parseMethodDescriptor "()Z" = some ⟨[], some .boolean⟩ := by decide +kernel
theorem own_d16_20 : decode jdk_42_method_78_code 20 = .ok (.ifCond .eq 13, 3) := by decide +kernel
theorem own_d16_23 : decode jdk_42_method_78_code 23 = .ok (.aload_n 0, 1) := by decide +kernel
theorem own_d16_24 : decode jdk_42_method_78_code 24 = .ok (.getfield 9, 3) := by decide +kernel
theorem own_d16_27 : decode jdk_42_method_78_code 27 = .ok (.invokestatic 628, 3) := by decide +kernel
theorem own_pd_13 : parseMethodDescriptor "([B)I" = some ⟨[(.array .byte)], some .int⟩ := by decide +kernel
theorem own_d16_30 : decode jdk_42_method_78_code 30 = .ok (.goto 10, 3) := by decide +kernel
theorem own_d16_40 : decode jdk_42_method_78_code 40 = .ok (.istore_n 1, 1) := by decide +kernel
theorem own_d16_41 : decode jdk_42_method_78_code 41 = .ok (.iload_n 1, 1) := by decide +kernel
theorem own_d16_42 : decode jdk_42_method_78_code 42 = .ok (.ifCond .ne 11, 3) := by decide +kernel
theorem own_d16_53 : decode jdk_42_method_78_code 53 = .ok (.aload_n 0, 1) := by decide +kernel
theorem own_d16_54 : decode jdk_42_method_78_code 54 = .ok (.iload_n 1, 1) := by decide +kernel
theorem own_d16_55 : decode jdk_42_method_78_code 55 = .ok (.putfield 19, 3) := by decide +kernel
theorem own_d16_45 : decode jdk_42_method_78_code 45 = .ok (.aload_n 0, 1) := by decide +kernel
theorem own_d16_46 : decode jdk_42_method_78_code 46 = .ok (.iconst 1, 1) := by decide +kernel
theorem own_d16_47 : decode jdk_42_method_78_code 47 = .ok (.putfield 23, 3) := by decide +kernel
theorem own_d16_50 : decode jdk_42_method_78_code 50 = .ok (.goto 8, 3) := by decide +kernel
theorem own_pl_16 : plainFor (⟨"java/lang/String", "hashCode", "()I"⟩ : MethodName) = true := plainFor_of_name (by first | (simp [plainName, overriddenIn]; done) | decide +kernel)
theorem own_ef_13 (p1 : Addr)  (m : MethodId) : entryFrame m #[(.ref p1)] 1 = mkF m 0 #[.val (.ref p1)] [] := by first | (simp [entryFrame, mkF, argsToLocals, Value.category]; done) | rfl
theorem own_d13_0 : decode jdk_71_method_1_code 0 = .ok (.aload_n 0, 1) := by decide +kernel
theorem own_d13_1 : decode jdk_71_method_1_code 1 = .ok (.invokespecial 1, 3) := by decide +kernel
theorem own_d13_4 : decode jdk_71_method_1_code 4 = .ok (.return_, 1) := by decide +kernel
theorem own_pl_13 : plainFor (⟨"java/util/AbstractMap", "<init>", "()V"⟩ : MethodName) = true := plainFor_of_name (by first | (simp [plainName, overriddenIn]; done) | decide +kernel)
theorem own_ef_12 (p1 : Addr)  (m : MethodId) : entryFrame m #[(.ref p1)] 1 = mkF m 0 #[.val (.ref p1)] [] := by first | (simp [entryFrame, mkF, argsToLocals, Value.category]; done) | rfl
theorem own_d12_0 : decode jdk_2729_method_1_code 0 = .ok (.aload_n 0, 1) := by decide +kernel
theorem own_d12_1 : decode jdk_2729_method_1_code 1 = .ok (.invokespecial 1, 3) := by decide +kernel
theorem own_pd_1 : parseMethodDescriptor "()V" = some ⟨[], none⟩ := by decide +kernel
theorem own_d12_4 : decode jdk_2729_method_1_code 4 = .ok (.aload_n 0, 1) := by decide +kernel
theorem own_d12_5 : decode jdk_2729_method_1_code 5 = .ok (.iconst 0, 1) := by decide +kernel
theorem own_d12_6 : decode jdk_2729_method_1_code 6 = .ok (.putfield 7, 3) := by decide +kernel
theorem own_d12_9 : decode jdk_2729_method_1_code 9 = .ok (.aload_n 0, 1) := by decide +kernel
theorem own_d12_10 : decode jdk_2729_method_1_code 10 = .ok (.iconst 0, 1) := by decide +kernel
theorem own_d12_11 : decode jdk_2729_method_1_code 11 = .ok (.putfield 13, 3) := by decide +kernel
theorem own_d12_14 : decode jdk_2729_method_1_code 14 = .ok (.aload_n 0, 1) := by decide +kernel
theorem own_d12_15 : decode jdk_2729_method_1_code 15 = .ok (.aconst_null, 1) := by decide +kernel
theorem own_d12_16 : decode jdk_2729_method_1_code 16 = .ok (.putfield 16, 3) := by decide +kernel
theorem own_d12_19 : decode jdk_2729_method_1_code 19 = .ok (.return_, 1) := by decide +kernel
theorem own_pl_12 : plainFor (⟨"java/util/TreeMap", "<init>", "()V"⟩ : MethodName) = true := plainFor_of_name (by first | (simp [plainName, overriddenIn]; done) | decide +kernel)
theorem own_ef_11_4 (p1 : Addr)  (m : MethodId) : entryFrame m #[(.ref p1), (.int (4 : Int32))] 3 = mkF m 0 #[.val (.ref p1), .val (.int (4 : Int32)), .unset] [] := by first | (simp [entryFrame, mkF, argsToLocals, Value.category]; done) | rfl
theorem own_d11_0 : decode prog_47_method_1_code 0 = .ok (.aload_n 0, 1) := by decide +kernel
theorem own_d11_1 : decode prog_47_method_1_code 1 = .ok (.invokespecial 1, 3) := by decide +kernel
theorem own_d11_4 : decode prog_47_method_1_code 4 = .ok (.aload_n 0, 1) := by decide +kernel
theorem own_d11_5 : decode prog_47_method_1_code 5 = .ok (.new 7, 3) := by decide +kernel
theorem own_d11_8 : decode prog_47_method_1_code 8 = .ok (.dup, 1) := by decide +kernel
theorem own_d11_9 : decode prog_47_method_1_code 9 = .ok (.invokespecial 9, 3) := by decide +kernel
theorem own_d11_12 : decode prog_47_method_1_code 12 = .ok (.putfield 10, 3) := by decide +kernel
theorem own_d11_15 : decode prog_47_method_1_code 15 = .ok (.aload_n 0, 1) := by decide +kernel
theorem own_d11_16 : decode prog_47_method_1_code 16 = .ok (.iload_n 1, 1) := by decide +kernel
theorem own_d11_17 : decode prog_47_method_1_code 17 = .ok (.anewarray 16, 3) := by decide +kernel
theorem own_d11_20 : decode prog_47_method_1_code 20 = .ok (.putfield 18, 3) := by decide +kernel
theorem own_d11_23 : decode prog_47_method_1_code 23 = .ok (.aload_n 0, 1) := by decide +kernel
theorem own_d11_24 : decode prog_47_method_1_code 24 = .ok (.iload_n 1, 1) := by decide +kernel
theorem own_d11_25 : decode prog_47_method_1_code 25 = .ok (.anewarray 16, 3) := by decide +kernel
theorem own_d11_28 : decode prog_47_method_1_code 28 = .ok (.putfield 22, 3) := by decide +kernel
theorem own_d11_31 : decode prog_47_method_1_code 31 = .ok (.iconst 2, 1) := by decide +kernel
theorem own_d11_32 : decode prog_47_method_1_code 32 = .ok (.istore_n 2, 1) := by decide +kernel
theorem own_d11_33 : decode prog_47_method_1_code 33 = .ok (.iload_n 2, 1) := by decide +kernel
theorem own_d11_34 : decode prog_47_method_1_code 34 = .ok (.iconst 2, 1) := by decide +kernel
theorem own_d11_35 : decode prog_47_method_1_code 35 = .ok (.iload_n 1, 1) := by decide +kernel
theorem own_d11_36 : decode prog_47_method_1_code 36 = .ok (.imul, 1) := by decide +kernel
theorem own_d11_37 : decode prog_47_method_1_code 37 = .ok (.if_icmp .ge 10, 3) := by decide +kernel
theorem own_d11_40 : decode prog_47_method_1_code 40 = .ok (.iload_n 2, 1) := by decide +kernel
theorem own_d11_41 : decode prog_47_method_1_code 41 = .ok (.iconst 2, 1) := by decide +kernel
theorem own_d11_42 : decode prog_47_method_1_code 42 = .ok (.imul, 1) := by decide +kernel
theorem own_d11_43 : decode prog_47_method_1_code 43 = .ok (.istore_n 2, 1) := by decide +kernel
theorem own_d11_44 : decode prog_47_method_1_code 44 = .ok (.goto (-11), 3) := by decide +kernel
theorem own_d11_47 : decode prog_47_method_1_code 47 = .ok (.aload_n 0, 1) := by decide +kernel
theorem own_d11_48 : decode prog_47_method_1_code 48 = .ok (.iload_n 2, 1) := by decide +kernel
theorem own_d11_49 : decode prog_47_method_1_code 49 = .ok (.newarray .int, 2) := by decide +kernel
theorem own_d11_51 : decode prog_47_method_1_code 51 = .ok (.putfield 25, 3) := by decide +kernel
theorem own_d11_54 : decode prog_47_method_1_code 54 = .ok (.aload_n 0, 1) := by decide +kernel
theorem own_d11_55 : decode prog_47_method_1_code 55 = .ok (.iload_n 2, 1) := by decide +kernel
theorem own_d11_56 : decode prog_47_method_1_code 56 = .ok (.iconst 1, 1) := by decide +kernel
theorem own_d11_57 : decode prog_47_method_1_code 57 = .ok (.isub, 1) := by decide +kernel
theorem own_d11_58 : decode prog_47_method_1_code 58 = .ok (.putfield 29, 3) := by decide +kernel
theorem own_d11_61 : decode prog_47_method_1_code 61 = .ok (.return_, 1) := by decide +kernel
theorem own_pl_11 : plainFor (⟨"com/example/entryway/entryway/KeyIndex", "<init>", "(I)V"⟩ : MethodName) = true := plainFor_of_name (by first | (simp [plainName, overriddenIn]; done) | decide +kernel)
theorem own_ef_15 (p1 : Addr) (p2 : Addr) (p3 : Addr)  (m : MethodId) : entryFrame m #[(.ref p1), (.ref p2), (.ref p3)] 7 = mkF m 0 #[.val (.ref p1), .val (.ref p2), .val (.ref p3), .unset, .unset, .unset, .unset] [] := by first | (simp [entryFrame, mkF, argsToLocals, Value.category]; done) | rfl
theorem own_d15_0 : decode prog_47_method_10_code 0 = .ok (.bipush 31, 2) := by decide +kernel
theorem own_d15_2 : decode prog_47_method_10_code 2 = .ok (.aload_n 1, 1) := by decide +kernel
theorem own_d15_3 : decode prog_47_method_10_code 3 = .ok (.invokevirtual 77, 3) := by decide +kernel
theorem own_pd_0 : parseMethodDescriptor "()I" = some ⟨[], some .int⟩ := by decide +kernel
theorem own_d15_6 : decode prog_47_method_10_code 6 = .ok (.imul, 1) := by decide +kernel
theorem own_d15_7 : decode prog_47_method_10_code 7 = .ok (.aload_n 2, 1) := by decide +kernel
theorem own_d15_8 : decode prog_47_method_10_code 8 = .ok (.invokevirtual 77, 3) := by decide +kernel
theorem own_d15_11 : decode prog_47_method_10_code 11 = .ok (.iadd, 1) := by decide +kernel
theorem own_d15_12 : decode prog_47_method_10_code 12 = .ok (.istore_n 3, 1) := by decide +kernel
theorem own_d15_13 : decode prog_47_method_10_code 13 = .ok (.iload_n 3, 1) := by decide +kernel
theorem own_d15_14 : decode prog_47_method_10_code 14 = .ok (.iload_n 3, 1) := by decide +kernel
theorem own_d15_15 : decode prog_47_method_10_code 15 = .ok (.bipush 16, 2) := by decide +kernel
theorem own_d15_17 : decode prog_47_method_10_code 17 = .ok (.iushr, 1) := by decide +kernel
theorem own_d15_18 : decode prog_47_method_10_code 18 = .ok (.ixor, 1) := by decide +kernel
theorem own_d15_19 : decode prog_47_method_10_code 19 = .ok (.aload_n 0, 1) := by decide +kernel
theorem own_d15_20 : decode prog_47_method_10_code 20 = .ok (.getfield 29, 3) := by decide +kernel
theorem own_d15_23 : decode prog_47_method_10_code 23 = .ok (.iand, 1) := by decide +kernel
theorem own_d15_24 : decode prog_47_method_10_code 24 = .ok (.istore 4, 2) := by decide +kernel
theorem own_d15_26 : decode prog_47_method_10_code 26 = .ok (.iconst 0, 1) := by decide +kernel
theorem own_d15_27 : decode prog_47_method_10_code 27 = .ok (.istore 5, 2) := by decide +kernel
theorem own_d15_29 : decode prog_47_method_10_code 29 = .ok (.iload 5, 2) := by decide +kernel
theorem own_d15_31 : decode prog_47_method_10_code 31 = .ok (.bipush 16, 2) := by decide +kernel
theorem own_d15_33 : decode prog_47_method_10_code 33 = .ok (.if_icmp .ge 67, 3) := by decide +kernel
theorem own_d15_36 : decode prog_47_method_10_code 36 = .ok (.aload_n 0, 1) := by decide +kernel
theorem own_d15_37 : decode prog_47_method_10_code 37 = .ok (.getfield 25, 3) := by decide +kernel
theorem own_d15_40 : decode prog_47_method_10_code 40 = .ok (.iload 4, 2) := by decide +kernel
theorem own_d15_42 : decode prog_47_method_10_code 42 = .ok (.iaload, 1) := by decide +kernel
theorem own_d15_43 : decode prog_47_method_10_code 43 = .ok (.iconst 1, 1) := by decide +kernel
theorem own_d15_44 : decode prog_47_method_10_code 44 = .ok (.isub, 1) := by decide +kernel
theorem own_d15_45 : decode prog_47_method_10_code 45 = .ok (.istore 6, 2) := by decide +kernel
theorem own_d15_47 : decode prog_47_method_10_code 47 = .ok (.iload 6, 2) := by decide +kernel
theorem own_d15_49 : decode prog_47_method_10_code 49 = .ok (.ifCond .lt 31, 3) := by decide +kernel
theorem own_d15_80 : decode prog_47_method_10_code 80 = .ok (.iload 4, 2) := by decide +kernel
theorem own_d15_82 : decode prog_47_method_10_code 82 = .ok (.ireturn, 1) := by decide +kernel
theorem own_d15_52 : decode prog_47_method_10_code 52 = .ok (.aload_n 0, 1) := by decide +kernel
theorem own_d15_53 : decode prog_47_method_10_code 53 = .ok (.getfield 22, 3) := by decide +kernel
theorem own_d15_56 : decode prog_47_method_10_code 56 = .ok (.iload 6, 2) := by decide +kernel
theorem own_d15_58 : decode prog_47_method_10_code 58 = .ok (.aaload, 1) := by decide +kernel
theorem own_d15_59 : decode prog_47_method_10_code 59 = .ok (.aload_n 2, 1) := by decide +kernel
theorem own_d15_60 : decode prog_47_method_10_code 60 = .ok (.invokevirtual 80, 3) := by decide +kernel
theorem own_pd_10 : parseMethodDescriptor "(Ljava/lang/Object;)Z" = some ⟨[(.object "java/lang/Object")], some .boolean⟩ := by decide +kernel
theorem own_d15_63 : decode prog_47_method_10_code 63 = .ok (.ifCond .eq 20, 3) := by decide +kernel
theorem own_d15_83 : decode prog_47_method_10_code 83 = .ok (.iload 4, 2) := by decide +kernel
theorem own_d15_85 : decode prog_47_method_10_code 85 = .ok (.iconst 1, 1) := by decide +kernel
theorem own_d15_86 : decode prog_47_method_10_code 86 = .ok (.iadd, 1) := by decide +kernel
theorem own_d15_87 : decode prog_47_method_10_code 87 = .ok (.aload_n 0, 1) := by decide +kernel
theorem own_d15_88 : decode prog_47_method_10_code 88 = .ok (.getfield 29, 3) := by decide +kernel
theorem own_d15_91 : decode prog_47_method_10_code 91 = .ok (.iand, 1) := by decide +kernel
theorem own_d15_92 : decode prog_47_method_10_code 92 = .ok (.istore 4, 2) := by decide +kernel
theorem own_d15_94 : decode prog_47_method_10_code 94 = .ok (.iinc 5 1, 3) := by decide +kernel
theorem own_d15_97 : decode prog_47_method_10_code 97 = .ok (.goto (-68), 3) := by decide +kernel
theorem own_d15_66 : decode prog_47_method_10_code 66 = .ok (.aload_n 0, 1) := by decide +kernel
theorem own_d15_67 : decode prog_47_method_10_code 67 = .ok (.getfield 18, 3) := by decide +kernel
theorem own_d15_70 : decode prog_47_method_10_code 70 = .ok (.iload 6, 2) := by decide +kernel
theorem own_d15_72 : decode prog_47_method_10_code 72 = .ok (.aaload, 1) := by decide +kernel
theorem own_d15_73 : decode prog_47_method_10_code 73 = .ok (.aload_n 1, 1) := by decide +kernel
theorem own_d15_74 : decode prog_47_method_10_code 74 = .ok (.invokevirtual 80, 3) := by decide +kernel
theorem own_d15_77 : decode prog_47_method_10_code 77 = .ok (.ifCond .eq 6, 3) := by decide +kernel
theorem own_pl_15 : plainFor (⟨"com/example/entryway/entryway/KeyIndex", "slotOf", "(Ljava/lang/String;Ljava/lang/String;)I"⟩ : MethodName) = true := plainFor_of_name (by first | (simp [plainName, overriddenIn]; done) | decide +kernel)
theorem own_ef_22 (p1 : Addr) (p2 : Int32) (p3 : Int32)  (m : MethodId) : entryFrame m #[(.ref p1), (.int p2), (.int p3)] 3 = mkF m 0 #[.val (.ref p1), .val (.int p2), .val (.int p3)] [] := by first | (simp [entryFrame, mkF, argsToLocals, Value.category]; done) | rfl
theorem own_d22_0 : decode prog_47_method_7_code 0 = .ok (.aload_n 0, 1) := by decide +kernel
theorem own_d22_1 : decode prog_47_method_7_code 1 = .ok (.getfield 22, 3) := by decide +kernel
theorem own_d22_4 : decode prog_47_method_7_code 4 = .ok (.iload_n 1, 1) := by decide +kernel
theorem own_d22_5 : decode prog_47_method_7_code 5 = .ok (.aload_n 0, 1) := by decide +kernel
theorem own_d22_6 : decode prog_47_method_7_code 6 = .ok (.getfield 22, 3) := by decide +kernel
theorem own_d22_9 : decode prog_47_method_7_code 9 = .ok (.iload_n 2, 1) := by decide +kernel
theorem own_d22_10 : decode prog_47_method_7_code 10 = .ok (.aaload, 1) := by decide +kernel
theorem own_d22_11 : decode prog_47_method_7_code 11 = .ok (.aastore, 1) := by decide +kernel
theorem own_d22_12 : decode prog_47_method_7_code 12 = .ok (.aload_n 0, 1) := by decide +kernel
theorem own_d22_13 : decode prog_47_method_7_code 13 = .ok (.getfield 51, 3) := by decide +kernel
theorem own_d22_16 : decode prog_47_method_7_code 16 = .ok (.ifnonnull 14, 3) := by decide +kernel
theorem own_d22_19 : decode prog_47_method_7_code 19 = .ok (.aload_n 0, 1) := by decide +kernel
theorem own_d22_20 : decode prog_47_method_7_code 20 = .ok (.aload_n 0, 1) := by decide +kernel
theorem own_d22_21 : decode prog_47_method_7_code 21 = .ok (.getfield 22, 3) := by decide +kernel
theorem own_d22_24 : decode prog_47_method_7_code 24 = .ok (.arraylength, 1) := by decide +kernel
theorem own_d22_25 : decode prog_47_method_7_code 25 = .ok (.newarray .int, 2) := by decide +kernel
theorem own_d22_27 : decode prog_47_method_7_code 27 = .ok (.putfield 51, 3) := by decide +kernel
theorem own_d22_30 : decode prog_47_method_7_code 30 = .ok (.aload_n 0, 1) := by decide +kernel
theorem own_d22_31 : decode prog_47_method_7_code 31 = .ok (.getfield 51, 3) := by decide +kernel
theorem own_d22_34 : decode prog_47_method_7_code 34 = .ok (.iload_n 1, 1) := by decide +kernel
theorem own_d22_35 : decode prog_47_method_7_code 35 = .ok (.iload_n 2, 1) := by decide +kernel
theorem own_d22_36 : decode prog_47_method_7_code 36 = .ok (.iconst 1, 1) := by decide +kernel
theorem own_d22_37 : decode prog_47_method_7_code 37 = .ok (.iadd, 1) := by decide +kernel
theorem own_d22_38 : decode prog_47_method_7_code 38 = .ok (.iastore, 1) := by decide +kernel
theorem own_d22_39 : decode prog_47_method_7_code 39 = .ok (.iload_n 2, 1) := by decide +kernel
theorem own_d22_40 : decode prog_47_method_7_code 40 = .ok (.ireturn, 1) := by decide +kernel
theorem own_pl_22 : plainFor (⟨"com/example/entryway/entryway/KeyIndex", "addRepeat", "(II)I"⟩ : MethodName) = true := plainFor_of_name (by first | (simp [plainName, overriddenIn]; done) | decide +kernel)
theorem own_ef_14 (p1 : Addr) (p2 : Addr) (p3 : Addr)  (m : MethodId) : entryFrame m #[(.ref p1), (.ref p2), (.ref p3)] 5 = mkF m 0 #[.val (.ref p1), .val (.ref p2), .val (.ref p3), .unset, .unset] [] := by first | (simp [entryFrame, mkF, argsToLocals, Value.category]; done) | rfl
theorem own_d14_0 : decode prog_47_method_2_code 0 = .ok (.aload_n 0, 1) := by decide +kernel
theorem own_d14_1 : decode prog_47_method_2_code 1 = .ok (.dup, 1) := by decide +kernel
theorem own_d14_2 : decode prog_47_method_2_code 2 = .ok (.getfield 33, 3) := by decide +kernel
theorem own_d14_5 : decode prog_47_method_2_code 5 = .ok (.dup_x1, 1) := by decide +kernel
theorem own_d14_6 : decode prog_47_method_2_code 6 = .ok (.iconst 1, 1) := by decide +kernel
theorem own_d14_7 : decode prog_47_method_2_code 7 = .ok (.iadd, 1) := by decide +kernel
theorem own_d14_8 : decode prog_47_method_2_code 8 = .ok (.putfield 33, 3) := by decide +kernel
theorem own_d14_11 : decode prog_47_method_2_code 11 = .ok (.istore_n 3, 1) := by decide +kernel
theorem own_d14_12 : decode prog_47_method_2_code 12 = .ok (.aload_n 0, 1) := by decide +kernel
theorem own_d14_13 : decode prog_47_method_2_code 13 = .ok (.aload_n 1, 1) := by decide +kernel
theorem own_d14_14 : decode prog_47_method_2_code 14 = .ok (.aload_n 2, 1) := by decide +kernel
theorem own_d14_15 : decode prog_47_method_2_code 15 = .ok (.invokevirtual 36, 3) := by decide +kernel
theorem own_pd_12 : parseMethodDescriptor "(Ljava/lang/String;Ljava/lang/String;)I" = some ⟨[(.object "java/lang/String"), (.object "java/lang/String")], some .int⟩ := by decide +kernel
theorem own_d14_18 : decode prog_47_method_2_code 18 = .ok (.istore 4, 2) := by decide +kernel
theorem own_d14_20 : decode prog_47_method_2_code 20 = .ok (.aload_n 0, 1) := by decide +kernel
theorem own_d14_21 : decode prog_47_method_2_code 21 = .ok (.getfield 18, 3) := by decide +kernel
theorem own_d14_24 : decode prog_47_method_2_code 24 = .ok (.iload_n 3, 1) := by decide +kernel
theorem own_d14_25 : decode prog_47_method_2_code 25 = .ok (.aload_n 1, 1) := by decide +kernel
theorem own_d14_26 : decode prog_47_method_2_code 26 = .ok (.aastore, 1) := by decide +kernel
theorem own_d14_27 : decode prog_47_method_2_code 27 = .ok (.iload 4, 2) := by decide +kernel
theorem own_d14_29 : decode prog_47_method_2_code 29 = .ok (.ifCond .ge 11, 3) := by decide +kernel
theorem own_d14_40 : decode prog_47_method_2_code 40 = .ok (.aload_n 0, 1) := by decide +kernel
theorem own_d14_41 : decode prog_47_method_2_code 41 = .ok (.getfield 25, 3) := by decide +kernel
theorem own_d14_44 : decode prog_47_method_2_code 44 = .ok (.iload 4, 2) := by decide +kernel
theorem own_d14_46 : decode prog_47_method_2_code 46 = .ok (.iaload, 1) := by decide +kernel
theorem own_d14_47 : decode prog_47_method_2_code 47 = .ok (.ifCond .eq 18, 3) := by decide +kernel
theorem own_d14_65 : decode prog_47_method_2_code 65 = .ok (.aload_n 0, 1) := by decide +kernel
theorem own_d14_66 : decode prog_47_method_2_code 66 = .ok (.getfield 22, 3) := by decide +kernel
theorem own_d14_69 : decode prog_47_method_2_code 69 = .ok (.iload_n 3, 1) := by decide +kernel
theorem own_d14_70 : decode prog_47_method_2_code 70 = .ok (.aload_n 2, 1) := by decide +kernel
theorem own_d14_71 : decode prog_47_method_2_code 71 = .ok (.aastore, 1) := by decide +kernel
theorem own_d14_72 : decode prog_47_method_2_code 72 = .ok (.aload_n 0, 1) := by decide +kernel
theorem own_d14_73 : decode prog_47_method_2_code 73 = .ok (.getfield 25, 3) := by decide +kernel
theorem own_d14_76 : decode prog_47_method_2_code 76 = .ok (.iload 4, 2) := by decide +kernel
theorem own_d14_78 : decode prog_47_method_2_code 78 = .ok (.iload_n 3, 1) := by decide +kernel
theorem own_d14_79 : decode prog_47_method_2_code 79 = .ok (.iconst 1, 1) := by decide +kernel
theorem own_d14_80 : decode prog_47_method_2_code 80 = .ok (.iadd, 1) := by decide +kernel
theorem own_d14_81 : decode prog_47_method_2_code 81 = .ok (.iastore, 1) := by decide +kernel
theorem own_d14_82 : decode prog_47_method_2_code 82 = .ok (.iload_n 3, 1) := by decide +kernel
theorem own_d14_83 : decode prog_47_method_2_code 83 = .ok (.ireturn, 1) := by decide +kernel
theorem own_d14_50 : decode prog_47_method_2_code 50 = .ok (.aload_n 0, 1) := by decide +kernel
theorem own_d14_51 : decode prog_47_method_2_code 51 = .ok (.iload_n 3, 1) := by decide +kernel
theorem own_d14_52 : decode prog_47_method_2_code 52 = .ok (.aload_n 0, 1) := by decide +kernel
theorem own_d14_53 : decode prog_47_method_2_code 53 = .ok (.getfield 25, 3) := by decide +kernel
theorem own_d14_56 : decode prog_47_method_2_code 56 = .ok (.iload 4, 2) := by decide +kernel
theorem own_d14_58 : decode prog_47_method_2_code 58 = .ok (.iaload, 1) := by decide +kernel
theorem own_d14_59 : decode prog_47_method_2_code 59 = .ok (.iconst 1, 1) := by decide +kernel
theorem own_d14_60 : decode prog_47_method_2_code 60 = .ok (.isub, 1) := by decide +kernel
theorem own_d14_61 : decode prog_47_method_2_code 61 = .ok (.invokevirtual 44, 3) := by decide +kernel
theorem own_pd_8 : parseMethodDescriptor "(II)I" = some ⟨[.int, .int], some .int⟩ := by decide +kernel
theorem own_d14_64 : decode prog_47_method_2_code 64 = .ok (.ireturn, 1) := by decide +kernel
theorem own_pl_14 : plainFor (⟨"com/example/entryway/entryway/KeyIndex", "add", "(Ljava/lang/String;Ljava/lang/String;)I"⟩ : MethodName) = true := plainFor_of_name (by first | (simp [plainName, overriddenIn]; done) | decide +kernel)
theorem own_ef_23 (p1 : Addr) (p2 : Int32)  (m : MethodId) : entryFrame m #[(.ref p1), (.int p2)] 2 = mkF m 0 #[.val (.ref p1), .val (.int p2)] [] := by first | (simp [entryFrame, mkF, argsToLocals, Value.category]; done) | rfl
theorem own_d23_0 : decode prog_47_method_6_code 0 = .ok (.aload_n 0, 1) := by decide +kernel
theorem own_d23_1 : decode prog_47_method_6_code 1 = .ok (.getfield 51, 3) := by decide +kernel
theorem own_d23_4 : decode prog_47_method_6_code 4 = .ok (.ifnull 12, 3) := by decide +kernel
theorem own_d23_16 : decode prog_47_method_6_code 16 = .ok (.iload_n 1, 1) := by decide +kernel
theorem own_d23_17 : decode prog_47_method_6_code 17 = .ok (.ireturn, 1) := by decide +kernel
theorem own_d23_7 : decode prog_47_method_6_code 7 = .ok (.aload_n 0, 1) := by decide +kernel
theorem own_d23_8 : decode prog_47_method_6_code 8 = .ok (.getfield 51, 3) := by decide +kernel
theorem own_d23_11 : decode prog_47_method_6_code 11 = .ok (.iload_n 1, 1) := by decide +kernel
theorem own_d23_12 : decode prog_47_method_6_code 12 = .ok (.iaload, 1) := by decide +kernel
theorem own_d23_13 : decode prog_47_method_6_code 13 = .ok (.ifCond .ne 5, 3) := by decide +kernel
theorem own_d23_18 : decode prog_47_method_6_code 18 = .ok (.aload_n 0, 1) := by decide +kernel
theorem own_d23_19 : decode prog_47_method_6_code 19 = .ok (.getfield 51, 3) := by decide +kernel
theorem own_d23_22 : decode prog_47_method_6_code 22 = .ok (.iload_n 1, 1) := by decide +kernel
theorem own_d23_23 : decode prog_47_method_6_code 23 = .ok (.iaload, 1) := by decide +kernel
theorem own_d23_24 : decode prog_47_method_6_code 24 = .ok (.iconst 1, 1) := by decide +kernel
theorem own_d23_25 : decode prog_47_method_6_code 25 = .ok (.isub, 1) := by decide +kernel
theorem own_d23_26 : decode prog_47_method_6_code 26 = .ok (.ireturn, 1) := by decide +kernel
theorem own_pl_23 : plainFor (⟨"com/example/entryway/entryway/KeyIndex", "firstOf", "(I)I"⟩ : MethodName) = true := plainFor_of_name (by first | (simp [plainName, overriddenIn]; done) | decide +kernel)
theorem own_ef_25 (p1 : Addr) (p2 : Addr) (p3 : Int32) (p4 : Int32)  (m : MethodId) : entryFrame m #[(.ref p1), (.ref p2), (.int p3), (.int p4)] 4 = mkF m 0 #[.val (.ref p1), .val (.ref p2), .val (.int p3), .val (.int p4)] [] := by first | (simp [entryFrame, mkF, argsToLocals, Value.category]; done) | rfl
theorem own_d25_0 : decode method_3_code 0 = .ok (.aload_n 0, 1) := by decide +kernel
theorem own_d25_1 : decode method_3_code 1 = .ok (.iload_n 2, 1) := by decide +kernel
theorem own_d25_2 : decode method_3_code 2 = .ok (.aaload, 1) := by decide +kernel
theorem own_d25_3 : decode method_3_code 3 = .ok (.aload_n 0, 1) := by decide +kernel
theorem own_d25_4 : decode method_3_code 4 = .ok (.iload_n 3, 1) := by decide +kernel
theorem own_d25_5 : decode method_3_code 5 = .ok (.aaload, 1) := by decide +kernel
theorem own_d25_6 : decode method_3_code 6 = .ok (.invokevirtual 35, 3) := by decide +kernel
theorem own_d25_9 : decode method_3_code 9 = .ok (.ifCond .eq 19, 3) := by decide +kernel
theorem own_d25_28 : decode method_3_code 28 = .ok (.iconst 0, 1) := by decide +kernel
theorem own_d25_29 : decode method_3_code 29 = .ok (.ireturn, 1) := by decide +kernel
theorem own_d25_12 : decode method_3_code 12 = .ok (.aload_n 1, 1) := by decide +kernel
theorem own_d25_13 : decode method_3_code 13 = .ok (.iload_n 2, 1) := by decide +kernel
theorem own_d25_14 : decode method_3_code 14 = .ok (.aaload, 1) := by decide +kernel
theorem own_d25_15 : decode method_3_code 15 = .ok (.aload_n 1, 1) := by decide +kernel
theorem own_d25_16 : decode method_3_code 16 = .ok (.iload_n 3, 1) := by decide +kernel
theorem own_d25_17 : decode method_3_code 17 = .ok (.aaload, 1) := by decide +kernel
theorem own_d25_18 : decode method_3_code 18 = .ok (.invokevirtual 35, 3) := by decide +kernel
theorem own_d25_21 : decode method_3_code 21 = .ok (.ifCond .eq 7, 3) := by decide +kernel
theorem own_d25_24 : decode method_3_code 24 = .ok (.iconst 1, 1) := by decide +kernel
theorem own_d25_25 : decode method_3_code 25 = .ok (.goto 4, 3) := by decide +kernel
theorem own_pl_25 : plainFor (⟨"com/example/entryway/entryway/KeyIndexFirstOfPinLaw", "same", "([Ljava/lang/String;[Ljava/lang/String;II)Z"⟩ : MethodName) = true := plainFor_of_name (by first | (simp [plainName, overriddenIn]; done) | decide +kernel)
theorem own_ef_24_0 (p1 : Addr) (p2 : Addr)  (m : MethodId) : entryFrame m #[(.ref p1), (.ref p2), (.int (0 : Int32))] 3 = mkF m 0 #[.val (.ref p1), .val (.ref p2), .val (.int (0 : Int32))] [] := by first | (simp [entryFrame, mkF, argsToLocals, Value.category]; done) | rfl
theorem own_d24_0 : decode method_4_code 0 = .ok (.aload_n 0, 1) := by decide +kernel
theorem own_d24_1 : decode method_4_code 1 = .ok (.aload_n 1, 1) := by decide +kernel
theorem own_d24_2 : decode method_4_code 2 = .ok (.iconst 0, 1) := by decide +kernel
theorem own_d24_3 : decode method_4_code 3 = .ok (.iload_n 2, 1) := by decide +kernel
theorem own_d24_4 : decode method_4_code 4 = .ok (.invokestatic 39, 3) := by decide +kernel
theorem own_pd_22 : parseMethodDescriptor "([Ljava/lang/String;[Ljava/lang/String;II)Z" = some ⟨[(.array (.object "java/lang/String")), (.array (.object "java/lang/String")), .int, .int], some .boolean⟩ := by decide +kernel
theorem own_d24_7 : decode method_4_code 7 = .ok (.ifCond .eq 5, 3) := by decide +kernel
theorem own_d24_12 : decode method_4_code 12 = .ok (.iload_n 2, 1) := by decide +kernel
theorem own_d24_13 : decode method_4_code 13 = .ok (.iconst 1, 1) := by decide +kernel
theorem own_d24_14 : decode method_4_code 14 = .ok (.if_icmp .lt 15, 3) := by decide +kernel
theorem own_d24_29 : decode method_4_code 29 = .ok (.iload_n 2, 1) := by decide +kernel
theorem own_d24_30 : decode method_4_code 30 = .ok (.iconst 2, 1) := by decide +kernel
theorem own_d24_31 : decode method_4_code 31 = .ok (.if_icmp .lt 15, 3) := by decide +kernel
theorem own_d24_46 : decode method_4_code 46 = .ok (.iconst 3, 1) := by decide +kernel
theorem own_d24_47 : decode method_4_code 47 = .ok (.ireturn, 1) := by decide +kernel
theorem own_d24_10 : decode method_4_code 10 = .ok (.iconst 0, 1) := by decide +kernel
theorem own_d24_11 : decode method_4_code 11 = .ok (.ireturn, 1) := by decide +kernel
theorem own_pl_24 : plainFor (⟨"com/example/entryway/entryway/KeyIndexFirstOfPinLaw", "ref", "([Ljava/lang/String;[Ljava/lang/String;I)I"⟩ : MethodName) = true := plainFor_of_name (by first | (simp [plainName, overriddenIn]; done) | decide +kernel)
theorem own_ef_24_1 (p1 : Addr) (p2 : Addr)  (m : MethodId) : entryFrame m #[(.ref p1), (.ref p2), (.int (1 : Int32))] 3 = mkF m 0 #[.val (.ref p1), .val (.ref p2), .val (.int (1 : Int32))] [] := by first | (simp [entryFrame, mkF, argsToLocals, Value.category]; done) | rfl
theorem own_d24_17 : decode method_4_code 17 = .ok (.aload_n 0, 1) := by decide +kernel
theorem own_d24_18 : decode method_4_code 18 = .ok (.aload_n 1, 1) := by decide +kernel
theorem own_d24_19 : decode method_4_code 19 = .ok (.iconst 1, 1) := by decide +kernel
theorem own_d24_20 : decode method_4_code 20 = .ok (.iload_n 2, 1) := by decide +kernel
theorem own_d24_21 : decode method_4_code 21 = .ok (.invokestatic 39, 3) := by decide +kernel
theorem own_d24_24 : decode method_4_code 24 = .ok (.ifCond .eq 5, 3) := by decide +kernel
theorem own_d24_27 : decode method_4_code 27 = .ok (.iconst 1, 1) := by decide +kernel
theorem own_d24_28 : decode method_4_code 28 = .ok (.ireturn, 1) := by decide +kernel
theorem own_ef_24_2 (p1 : Addr) (p2 : Addr)  (m : MethodId) : entryFrame m #[(.ref p1), (.ref p2), (.int (2 : Int32))] 3 = mkF m 0 #[.val (.ref p1), .val (.ref p2), .val (.int (2 : Int32))] [] := by first | (simp [entryFrame, mkF, argsToLocals, Value.category]; done) | rfl
theorem own_d24_34 : decode method_4_code 34 = .ok (.aload_n 0, 1) := by decide +kernel
theorem own_d24_35 : decode method_4_code 35 = .ok (.aload_n 1, 1) := by decide +kernel
theorem own_d24_36 : decode method_4_code 36 = .ok (.iconst 2, 1) := by decide +kernel
theorem own_d24_37 : decode method_4_code 37 = .ok (.iload_n 2, 1) := by decide +kernel
theorem own_d24_38 : decode method_4_code 38 = .ok (.invokestatic 39, 3) := by decide +kernel
theorem own_d24_41 : decode method_4_code 41 = .ok (.ifCond .eq 5, 3) := by decide +kernel
theorem own_d24_44 : decode method_4_code 44 = .ok (.iconst 2, 1) := by decide +kernel
theorem own_d24_45 : decode method_4_code 45 = .ok (.ireturn, 1) := by decide +kernel
theorem own_ef_24_3 (p1 : Addr) (p2 : Addr)  (m : MethodId) : entryFrame m #[(.ref p1), (.ref p2), (.int (3 : Int32))] 3 = mkF m 0 #[.val (.ref p1), .val (.ref p2), .val (.int (3 : Int32))] [] := by first | (simp [entryFrame, mkF, argsToLocals, Value.category]; done) | rfl
theorem own_ef_0 (q0 : Int32) (q1 : Int32) (q2 : Int32) (q3 : Int32)  (m : MethodId) : entryFrame m #[(.int q0), (.int q1), (.int q2), (.int q3)] maxLocals = mkF m 0 #[.val (.int q0), .val (.int q1), .val (.int q2), .val (.int q3), .unset, .unset, .unset, .unset, .unset, .unset, .unset, .unset, .unset] [] := by first | (simp [entryFrame, mkF, argsToLocals, Value.category, maxLocals]; done) | rfl
theorem own_pd_17 : parseMethodDescriptor "([C)V" = some ⟨[(.array .char)], none⟩ := by decide +kernel
theorem own_pd_3 : parseMethodDescriptor "(C)Ljava/lang/String;" = some ⟨[.char], some (.object "java/lang/String")⟩ := by decide +kernel
theorem own_pd_7 : parseMethodDescriptor "(I)V" = some ⟨[.int], none⟩ := by decide +kernel
theorem own_pd_6 : parseMethodDescriptor "(I)I" = some ⟨[.int], some .int⟩ := by decide +kernel
theorem own_pd_21 : parseMethodDescriptor "([Ljava/lang/String;[Ljava/lang/String;I)I" = some ⟨[(.array (.object "java/lang/String")), (.array (.object "java/lang/String")), .int], some .int⟩ := by decide +kernel
theorem own_pl_0 : plainFor x = true := plainFor_of_name (by first | (simp [plainName, overriddenIn]; done) | decide +kernel)
def own_Sg (Z : State) (h : Heap) (a t : Addr) (k : ClassId) (z : Int32) (vs : List Value) : Prop := Exa Z h a "java/lang/String" ∧ Fld Z h a "java/lang/String" "coder" "B" (.int (0 : Int32)) ∧ Fld Z h a "java/lang/String" "value" "[B" (.ref t) ∧ Arv Z h t k .byte z vs (.int (0 : Int32))
def own_eqI (z1 x0 x1 z2 y0 y1 : Int) : Int32 := if z1 = z2 ∧ (0 < z1 → x0 = y0) ∧ (1 < z1 → x1 = y1) then 1 else 0
theorem own_eq1 {z1 x0 x1 z2 y0 y1 : Int} (h : z1 = z2 ∧ (0 < z1 → x0 = y0) ∧ (1 < z1 → x1 = y1)) : own_eqI z1 x0 x1 z2 y0 y1 = 1 := if_pos h
theorem own_eq0 {z1 x0 x1 z2 y0 y1 : Int} (h : ¬ (z1 = z2 ∧ (0 < z1 → x0 = y0) ∧ (1 < z1 → x1 = y1))) : own_eqI z1 x0 x1 z2 y0 y1 = 0 := if_neg h
theorem own_eqc (z1 x0 x1 z2 y0 y1 : Int) : (own_eqI z1 x0 x1 z2 y0 y1 = 1 ∧ (z1 = z2 ∧ (0 < z1 → x0 = y0) ∧ (1 < z1 → x1 = y1))) ∨ (own_eqI z1 x0 x1 z2 y0 y1 = 0 ∧ ¬ (z1 = z2 ∧ (0 < z1 → x0 = y0) ∧ (1 < z1 → x1 = y1))) := by
  by_cases h : z1 = z2 ∧ (0 < z1 → x0 = y0) ∧ (1 < z1 → x1 = y1)
  · exact Or.inl ⟨own_eq1 h, h⟩
  · exact Or.inr ⟨own_eq0 h, h⟩
theorem own_nar1 : nar .boolean (1 : Int32) = 1 := by decide
theorem own_nar0 : nar .boolean (0 : Int32) = 0 := by decide
theorem own_eqn {z1 x0 x1 z2 y0 y1 : Int} (h : ¬ (own_eqI z1 x0 x1 z2 y0 y1).toInt = 0) : some (Value.int (nar .boolean (1 : Int32))) = some (.int (own_eqI z1 x0 x1 z2 y0 y1)) := by
  rcases own_eqc z1 x0 x1 z2 y0 y1 with ⟨q, _⟩ | ⟨q, _⟩
  · rw [q, own_nar1]
  · rw [q] at h; exact absurd (by decide) h
theorem own_eqz {z1 x0 x1 z2 y0 y1 : Int} (h : (own_eqI z1 x0 x1 z2 y0 y1).toInt = 0) : some (Value.int (nar .boolean (0 : Int32))) = some (.int (own_eqI z1 x0 x1 z2 y0 y1)) := by
  rcases own_eqc z1 x0 x1 z2 y0 y1 with ⟨q, _⟩ | ⟨q, _⟩
  · rw [q] at h; exact absurd h (by decide)
  · rw [q, own_nar0]
theorem own_narb (x : Int32) : nar .byte x.toInt8.toInt32 = x.toInt8.toInt32 := by
  show (x.toInt8.toInt32).toInt8.toInt32 = _
  simp
theorem own_fldEq {Z : State} {h : Heap} {a : Addr} {C n d : String} {v w : Value} (F : Fld Z h a C n d v) (G : Fld Z h a C n d w) : v = w := by
  obtain ⟨c1, cf1, k1, i1, f1, a1, b1, -, -, -, -, e1⟩ := F
  obtain ⟨c2, cf2, k2, i2, f2, a2, b2, -, -, -, -, e2⟩ := G
  cases a1.symm.trans a2
  cases b1.symm.trans b2
  exact Option.some.inj (e1.symm.trans e2)
theorem own_arvEq {Z : State} {h : Heap} {a : Addr} {k1 k2 : ClassId} {t1 t2 : FieldType} {z1 z2 : Int32} {v1 v2 : List Value} {d1 d2 : Value} (F : Arv Z h a k1 t1 z1 v1 d1) (G : Arv Z h a k2 t2 z2 v2 d2) : z1.toInt = z2.toInt ∧ ∀ i : Nat, (i : Int) < z1.toInt → v1.getD i d1 = v2.getD i d2 := by
  obtain ⟨c1, a1, -, s1, n1, h1, -⟩ := F
  obtain ⟨c2, a2, -, s2, n2, h2, -⟩ := G
  cases a1.1.symm.trans a2.1
  have q1 := nat_of n1
  have q2 := nat_of n2
  refine ⟨by omega, fun i hi => ?_⟩
  exact Option.some.inj ((h1 i (by omega)).symm.trans (h2 i (by omega)))
/-- one String, said twice -/
theorem own_same {Z : State} {h : Heap} {a b t u : Addr} {k1 k2 : ClassId} {z1 z2 x0 x1 y0 y1 : Int32} (e : (Value.ref a) = .ref b) (F : own_Sg Z h a t k1 z1 [.int x0, .int x1]) (G : own_Sg Z h b u k2 z2 [.int y0, .int y1]) : z1.toInt = z2.toInt ∧ (0 < z1.toInt → x0.toInt = y0.toInt) ∧ (1 < z1.toInt → x1.toInt = y1.toInt) := by
  cases e
  have e1 := own_fldEq F.2.2.1 G.2.2.1
  cases e1
  obtain ⟨q, r⟩ := own_arvEq F.2.2.2 G.2.2.2
  refine ⟨q, fun h0 => ?_, fun h0 => ?_⟩
  · have := r 0 (by omega); simp at this; rw [this]
  · have := r 1 (by omega); simp at this; rw [this]
/-- an object of an ordinary class is no array -/
theorem own_nek {Z : State} {a0 : Array Value} {h : Heap} {x t : Addr} {C : String} {n : Nat} {k : ClassId} {ty : FieldType} {z : Int32} {vs : List Value} {d : Value} (w : (Cond.instantiable C n).before a0 Z = true) (E : Exa Z h x C) (A : Arv Z h t k ty z vs d) : x ≠ t := fun e => by
  subst e
  obtain ⟨cell, kk, e1, e2, e3, -, -⟩ := E
  obtain ⟨c, ⟨a1, ⟨-, kA, hkA, comp, hk⟩, -⟩, -⟩ := A
  cases e1.symm.trans a1
  obtain ⟨c', k', q0, q1, q2, -⟩ := Cond.instantiable_spec (show (Cond.instantiable C n).holds a0 Z none Z [] = true from w)
  cases e3.symm.trans hkA
  cases q0.symm.trans e2
  cases q1.symm.trans e3
  rw [hk] at q2
  cases q2
theorem own_no {Z : State} {a0 : Array Value} {C S K : String} {n : Nat} (w1 : (Cond.superclass C S).before a0 Z = true) (w2 : (Cond.noSuperclass S).before a0 Z = true) (wk : (Cond.instantiable K n).before a0 Z = true) (h1 : C ≠ K) (h2 : S ≠ K) : ∃ c t, Z.vm.findClass C = some c ∧ Z.vm.findClass K = some t ∧ Z.vm.assignable c t = false := by
  obtain ⟨c, h0⟩ := found_sup w1
  obtain ⟨p, k, kp, g1, g2, g3, g4, g5, -, g7⟩ := Cond.superclass_spec h0 w1
  obtain ⟨c', k', r1, r2, r3, -, -⟩ := Cond.noSuperclass_spec w2
  cases g1.symm.trans r1
  obtain ⟨t, kt, ht, q1, q2, q3, -⟩ := Cond.instantiable_spec (show (Cond.instantiable K n).holds a0 Z none Z [] = true from wk)
  have q4 : kt.isInterface = false := by simp at q3; exact q3.1
  have ne1 := ids_ne h0 ht h1
  have ne2 := ids_ne r1 ht h2
  refine ⟨c, t, h0, ht, ?_⟩
  have n3 : ∀ fuel, Z.vm.isSubclassAux fuel c t = false := fun fuel => by
    cases fuel with
    | zero => rfl
    | succ f =>
      cases f with
      | zero => simp [Vm.isSubclassAux, ne1, g2, g4]
      | succ f => simp [Vm.isSubclassAux, ne1, ne2, g2, g4, r2, r3]
  show Z.vm.assignableAux (255 + 1) c t = false
  simp [Vm.assignableAux, ne1, g2, q1, g5, q2, q4, Vm.isSubclass, n3]
theorem own_safeS {Z : State} {EL : List (String × Nat)} {vm : Vm} {h : Heap} {x : Addr} (hZ : Z.Warmed39 vm) (E : Exa Z h x "java/lang/String") (F : Fld Z h x "java/lang/String" "value" "[B" .null) : Safe Z EL vm h x := fun B => by
  have hal := hZ.alike
  obtain ⟨cell, k, e1, e2, e3, -, -⟩ := E
  obtain ⟨p, -, u, a, -, q, -, G, rfl | rfl⟩ := B
  · cases (show h[q.sa]? = some q.sC from G.ha).symm.trans e1
    obtain ⟨c1, cf1, k1, i1, f1, a1, b1, -, -, -, -, d1⟩ := F
    cases a1.symm.trans e1
    obtain ⟨cS, ⟨⟨s1, s2, s3, ⟨cv, kv, iv, s4, s4'⟩, -, s6, s7, s8, -⟩, -⟩, -⟩ := G
    obtain ⟨kv', z4⟩ := ff_back (U := Wst Z vm h) hal s4
    cases b1.symm.trans z4
    cases s8.symm.trans d1
  · cases (show h[q.sd]? = some q.SA from G.hd).symm.trans e1
    obtain ⟨cS, -, -, f, -⟩ := G
    rw [show (Wst Z vm h).vm = vm from rfl, hal.findClass] at f
    obtain ⟨k1, q1, q2⟩ := Vm.findClass_spec f
    obtain ⟨k2, q3, q4⟩ := Vm.findClass_spec e2
    cases q1.symm.trans q3
    exact absurd (q2.symm.trans q4) (by decide)
def own_H1 (x0 : Int32) : Int32 := x0 &&& (255 : Int32)
def own_H2 (x0 x1 : Int32) : Int32 := ((31 : Int32) * ((0 : Int32) + (x0 &&& (255 : Int32)))) + (x1 &&& (255 : Int32))
/-- a String with its two hash fields: what is cached is H -/
def own_St (Z : State) (h : Heap) (a t : Addr) (k : ClassId) (z : Int32) (vs : List Value) (H : Int32) : Prop := own_Sg Z h a t k z vs ∧ Exa Z h t "[B" ∧ ∃ hv hz : Int32, Fld Z h a "java/lang/String" "hash" "I" (.int hv) ∧ Fld Z h a "java/lang/String" "hashIsZero" "Z" (.int hz) ∧ (¬ hv.toInt = 0 → hv = H) ∧ (hv.toInt = 0 → ¬ hz.toInt = 0 → H.toInt = 0)
/-- what hashCode leaves -/
def own_HW (Z : State) (h0 h : Heap) (p : Addr) (H : Int32) : Prop := h = h0 ∨ Wr h0 h p (Jvm.RoadKit.slotOf Z "java/lang/String" "hash" "I") (.int H) ∨ (Wr h0 h p (Jvm.RoadKit.slotOf Z "java/lang/String" "hashIsZero" "Z") (.int (1 : Int32)) ∧ H.toInt = 0)
theorem own_hz {hv hz H : Int32} (i2 : hv.toInt = 0 → ¬ hz.toInt = 0 → H.toInt = 0) (h1 : hv.toInt = 0) (h2 : ¬ hz.toInt = 0) : some (Value.int hv) = some (.int H) := by
  have := i2 h1 h2
  rw [show hv = H from Int32.toInt_inj.mp (by omega)]
theorem own_exne {Z : State} {h : Heap} {a b : Addr} {C D : String} (E : Exa Z h a C) (F : Exa Z h b D) (hn : C ≠ D) : a ≠ b := fun e => by
  subst e
  obtain ⟨c1, k1, e1, f1, -⟩ := E
  obtain ⟨c2, k2, e2, f2, -⟩ := F
  cases e1.symm.trans e2
  exact absurd rfl (ids_ne f1 f2 hn)
def own_S4 (Z : State) (nS : Nat) (h : Heap) (a : Addr) (z x0 x1 H : Int32) : Prop := a < nS ∧ ∃ (t : Addr) (k : ClassId), t < nS ∧ own_St Z h a t k z [.int x0, .int x1] H
theorem own_S4k {Z : State} {nS : Nat} {h h' : Heap} {a : Addr} {z x0 x1 H : Int32} {ws : List Addr} (S : own_S4 Z nS h a z x0 x1 H) (K : Keep h h' ws) (q : ∀ x ∈ ws, nS ≤ x) : own_S4 Z nS h' a z x0 x1 H := by
  obtain ⟨la, t, k, lt, ⟨E, C, V, B⟩, X, hv, hz, Fh, Fz, i1, i2⟩ := S
  have na : a ∉ ws := fun m => absurd (q _ m) (Nat.not_le.mpr la)
  have nt : t ∉ ws := fun m => absurd (q _ m) (Nat.not_le.mpr lt)
  exact ⟨la, t, k, lt, ⟨E.keep K, C.keep K na, V.keep K na, B.keep K nt⟩, X.keep K, hv, hz, Fh.keep K na, Fz.keep K na, i1, i2⟩
theorem own_S4h {Z : State} {a0 : Array Value} (hw : ∀ d ∈ tables_1, d.before a0 Z = true) {nS : Nat} {h h' : Heap} {a p : Addr} {z x0 x1 H Hp : Int32} (S : own_S4 Z nS h a z x0 x1 H) (Ep : Exa Z h p "java/lang/String") (W : own_HW Z h h' p Hp) (e : p = a → Hp = H) : own_S4 Z nS h' a z x0 x1 H := by
  obtain ⟨la, t, k, lt, ⟨E, C, V, B⟩, X, hv, hz, Fh, Fz, i1, i2⟩ := S
  have nt : t ≠ p := own_exne X Ep (by decide)
  rcases W with rfl | W | ⟨W, h0⟩
  · exact ⟨la, t, k, lt, ⟨E, C, V, B⟩, X, hv, hz, Fh, Fz, i1, i2⟩
  · by_cases q : p = a
    · have eH := e q
      subst q; subst eH
      exact ⟨la, t, k, lt, ⟨E.wr W, C.other W (Or.inr (slot_ne (Or.inr (hw _ (List.mem_of_getElem? (i := 27) rfl))) (Or.inl (hw _ (List.mem_of_getElem? (i := 100) rfl))) (by decide) (t := .byte) (t' := .int) (by decide) (by decide))), V.other W (Or.inr (slot_ne (Or.inr (hw _ (List.mem_of_getElem? (i := 29) rfl))) (Or.inl (hw _ (List.mem_of_getElem? (i := 100) rfl))) (by decide) (t := (.array .byte)) (t' := .int) (by decide) (by decide))), B.other W nt⟩, X.wr W, _, hz, Fh.same W, Fz.other W (Or.inr (slot_ne (Or.inl (hw _ (List.mem_of_getElem? (i := 102) rfl))) (Or.inl (hw _ (List.mem_of_getElem? (i := 100) rfl))) (by decide) (t := .boolean) (t' := .int) (by decide) (by decide))), fun _ => rfl, fun q _ => q⟩
    · have na : a ≠ p := fun z => q z.symm
      exact ⟨la, t, k, lt, ⟨E.wr W, C.other W (Or.inl na), V.other W (Or.inl na), B.other W nt⟩, X.wr W, hv, hz, Fh.other W (Or.inl na), Fz.other W (Or.inl na), i1, i2⟩
  · by_cases q : p = a
    · have eH := e q
      subst q; subst eH
      exact ⟨la, t, k, lt, ⟨E.wr W, C.other W (Or.inr (slot_ne (Or.inr (hw _ (List.mem_of_getElem? (i := 27) rfl))) (Or.inl (hw _ (List.mem_of_getElem? (i := 102) rfl))) (by decide) (t := .byte) (t' := .boolean) (by decide) (by decide))), V.other W (Or.inr (slot_ne (Or.inr (hw _ (List.mem_of_getElem? (i := 29) rfl))) (Or.inl (hw _ (List.mem_of_getElem? (i := 102) rfl))) (by decide) (t := (.array .byte)) (t' := .boolean) (by decide) (by decide))), B.other W nt⟩, X.wr W, hv, _, Fh.other W (Or.inr (slot_ne (Or.inl (hw _ (List.mem_of_getElem? (i := 100) rfl))) (Or.inl (hw _ (List.mem_of_getElem? (i := 102) rfl))) (by decide) (t := .int) (t' := .boolean) (by decide) (by decide))), Fz.same W, i1, fun _ _ => h0⟩
    · have na : a ≠ p := fun z => q z.symm
      exact ⟨la, t, k, lt, ⟨E.wr W, C.other W (Or.inl na), V.other W (Or.inl na), B.other W nt⟩, X.wr W, hv, hz, Fh.other W (Or.inl na), Fz.other W (Or.inl na), i1, i2⟩
theorem own_S4e {Z : State} {nS : Nat} {h : Heap} {a : Addr} {z x0 x1 H : Int32} (S : own_S4 Z nS h a z x0 x1 H) : Exa Z h a "java/lang/String" := by
  obtain ⟨la, t, k, lt, ⟨E, -⟩, -⟩ := S; exact E
/-- the four Strings: two of one sign, two of two -/
def own_U (Z : State) (nS : Nat) (h : Heap) (gA gB kA kB : Addr) (xA xB ya0 ya1 yb0 yb1 : Int32) : Prop := own_S4 Z nS h gA 1 xA 0 (own_H1 xA) ∧ own_S4 Z nS h gB 1 xB 0 (own_H1 xB) ∧ own_S4 Z nS h kA 2 ya0 ya1 (own_H2 ya0 ya1) ∧ own_S4 Z nS h kB 2 yb0 yb1 (own_H2 yb0 yb1) ∧ gA ≠ gB ∧ gA ≠ kA ∧ gA ≠ kB ∧ gB ≠ kA ∧ gB ≠ kB ∧ kA ≠ kB
def own_x (A : Addr) (x y : Int32) (g : Addr) : Int32 := if g = A then x else y
section
variable {Z : State} {nS : Nat} {h h' : Heap} {gA gB kA kB g : Addr} {xA xB ya0 ya1 yb0 yb1 : Int32}
theorem own_Uk {ws : List Addr} (U : own_U Z nS h gA gB kA kB xA xB ya0 ya1 yb0 yb1) (K : Keep h h' ws) (q : ∀ x ∈ ws, nS ≤ x) : own_U Z nS h' gA gB kA kB xA xB ya0 ya1 yb0 yb1 := by
  obtain ⟨a, b, c, d, r⟩ := U; exact ⟨own_S4k a K q, own_S4k b K q, own_S4k c K q, own_S4k d K q, r⟩
theorem own_Ug (U : own_U Z nS h gA gB kA kB xA xB ya0 ya1 yb0 yb1) (hg : g = gA ∨ g = gB) : own_S4 Z nS h g 1 (own_x gA xA xB g) 0 (own_H1 (own_x gA xA xB g)) := by
  obtain ⟨a, b, c, d, n1, -⟩ := U
  rcases hg with rfl | rfl
  · rw [show own_x g xA xB g = xA from if_pos rfl]; exact a
  · rw [show own_x gA xA xB g = xB from if_neg fun e => n1 e.symm]; exact b
theorem own_Uy (U : own_U Z nS h gA gB kA kB xA xB ya0 ya1 yb0 yb1) (hg : g = kA ∨ g = kB) : own_S4 Z nS h g 2 (own_x kA ya0 yb0 g) (own_x kA ya1 yb1 g) (own_H2 (own_x kA ya0 yb0 g) (own_x kA ya1 yb1 g)) := by
  obtain ⟨a, b, c, d, -, -, -, -, -, n1⟩ := U
  rcases hg with rfl | rfl
  · rw [show own_x g ya0 yb0 g = ya0 from if_pos rfl, show own_x g ya1 yb1 g = ya1 from if_pos rfl]; exact c
  · rw [show own_x kA ya0 yb0 g = yb0 from if_neg fun e => n1 e.symm, show own_x kA ya1 yb1 g = yb1 from if_neg fun e => n1 e.symm]; exact d
theorem own_Uhg {a0 : Array Value} (hw : ∀ d ∈ tables_1, d.before a0 Z = true) (U : own_U Z nS h gA gB kA kB xA xB ya0 ya1 yb0 yb1) (hg : g = gA ∨ g = gB) (W : own_HW Z h h' g (own_H1 (own_x gA xA xB g))) : own_U Z nS h' gA gB kA kB xA xB ya0 ya1 yb0 yb1 := by
  have E := own_S4e (own_Ug U hg)
  obtain ⟨a, b, c, d, n1, n2, n3, n4, n5, n6⟩ := U
  refine ⟨own_S4h hw a E W (fun e => ?_), own_S4h hw b E W (fun e => ?_), own_S4h hw c E W (fun e => ?_), own_S4h hw d E W (fun e => ?_), n1, n2, n3, n4, n5, n6⟩
  · subst e; rw [show own_x g xA xB g = xA from if_pos rfl]
  · subst e; rw [show own_x gA xA xB g = xB from if_neg fun e => n1 e.symm]
  · exact hg.elim (fun q => absurd (q.symm.trans e) n2) (fun q => absurd (q.symm.trans e) n4)
  · exact hg.elim (fun q => absurd (q.symm.trans e) n3) (fun q => absurd (q.symm.trans e) n5)
theorem own_Uhy {a0 : Array Value} (hw : ∀ d ∈ tables_1, d.before a0 Z = true) (U : own_U Z nS h gA gB kA kB xA xB ya0 ya1 yb0 yb1) (hg : g = kA ∨ g = kB) (W : own_HW Z h h' g (own_H2 (own_x kA ya0 yb0 g) (own_x kA ya1 yb1 g))) : own_U Z nS h' gA gB kA kB xA xB ya0 ya1 yb0 yb1 := by
  have E := own_S4e (own_Uy U hg)
  obtain ⟨a, b, c, d, n1, n2, n3, n4, n5, n6⟩ := U
  refine ⟨own_S4h hw a E W (fun e => ?_), own_S4h hw b E W (fun e => ?_), own_S4h hw c E W (fun e => ?_), own_S4h hw d E W (fun e => ?_), n1, n2, n3, n4, n5, n6⟩
  · exact hg.elim (fun q => absurd (e.symm.trans q) n2) (fun q => absurd (e.symm.trans q) n3)
  · exact hg.elim (fun q => absurd (e.symm.trans q) n4) (fun q => absurd (e.symm.trans q) n5)
  · subst e; rw [show own_x g ya0 yb0 g = ya0 from if_pos rfl, show own_x g ya1 yb1 g = ya1 from if_pos rfl]
  · subst e; rw [show own_x kA ya0 yb0 g = yb0 from if_neg fun e => n6 e.symm, show own_x kA ya1 yb1 g = yb1 from if_neg fun e => n6 e.symm]
end
/-- the table as plain lists: sl the slots, rl the repeats; q says which first entry is the one sought -/
def own_find (sl : List Nat) (q : Nat → Bool) : Nat → Nat → Nat
  | 0, _ => 99
  | f + 1, n => if sl.getD n 0 = 0 then n else if q (sl.getD n 0 - 1) then n else own_find sl q f ((n + 1) % 8)
def own_add (sl rl : List Nat) (q : Nat → Bool) (hm N : Nat) : List Nat × List Nat := if sl.getD (own_find sl q 16 hm) 0 = 0 then (sl.set (own_find sl q 16 hm) (N + 1), rl) else (sl, rl.set N (sl.getD (own_find sl q 16 hm) 0))
def own_vs (sl : List Nat) : List Value := sl.map fun n => Value.int (Int32.ofNat n)
def own_hash (Hg Hk : Int32) : Int32 := ((((31 : Int32) * Hg) + Hk) ^^^ (XT.ushr (((31 : Int32) * Hg) + Hk) (16 : Int32))) &&& (7 : Int32)
def own_home (Hg Hk : Int32) : Nat := (own_hash Hg Hk).toInt.toNat
theorem own_homeb (Hg Hk : Int32) : (own_hash Hg Hk).toInt = own_home Hg Hk ∧ own_home Hg Hk < 8 := by
  have := c_and ((((31 : Int32) * Hg) + Hk) ^^^ (XT.ushr (((31 : Int32) * Hg) + Hk) (16 : Int32))) (7 : Int32) (by decide)
  have l7 : (7 : Int32).toInt = 7 := by decide
  unfold own_home own_hash
  omega
def own_same1 (x y : Int32) (a b c d : Int32) : Bool := decide (x.toInt = y.toInt ∧ a.toInt = b.toInt ∧ c.toInt = d.toInt)
/-- the entries below N stand in the arrays -/
def own_Inv (N : Nat) (sl : List Nat) (gl kl : List Value) (G K : Nat → Addr) : Prop := sl.length = 8 ∧ gl.length = 4 ∧ kl.length = 4 ∧ ∀ n, n < 8 → ¬ sl.getD n 0 = 0 → ∃ j, j < N ∧ sl.getD n 0 = j + 1 ∧ gl.getD j .null = .ref (G j) ∧ kl.getD j .null = .ref (K j)
theorem own_i32 {n : Nat} (h : n < 2147483648) : (Int32.ofNat n).toInt = n := Int32.toInt_ofNat_of_lt h
theorem own_vsget {sl : List Nat} {pos : Int32} {n m : Nat} (hl : sl.length = m) (hp : pos.toInt = n) (hn : n < m) : (own_vs sl).getD pos.toNatClampNeg (.int (0 : Int32)) = .int (Int32.ofNat (sl.getD n 0)) := by
  rw [OwnK.jnat hp]
  unfold own_vs
  simp [List.getD_eq_getElem?_getD, hl ▸ hn]
theorem own_vsset (sl : List Nat) (n v : Nat) : (own_vs sl).set n (.int (Int32.ofNat v)) = own_vs (sl.set n v) := by unfold own_vs; rw [List.map_set]

/-- what KeyIndex's fields say; index objects lie at or above nX -/
def own_Rp (Z : State) (nX : Nat) (h : Heap) (ix as ag ak ra : Addr) (rv : Value) (rl : List Nat) : Prop := rl.length = 4 ∧ (∀ i, rl.getD i 0 ≤ 4) ∧ ((rv = .null ∧ ra = ix ∧ rl = [0, 0, 0, 0]) ∨ (rv = .ref ra ∧ nX ≤ ra ∧ ra ≠ ix ∧ ra ≠ as ∧ ra ≠ ag ∧ ra ≠ ak ∧ ∃ k, Arv Z h ra k .int (4 : Int32) (own_vs rl) (.int (0 : Int32))))
def own_X (Z : State) (nX : Nat) (h : Heap) (ix as ag ak ra : Addr) (kS kG kK : ClassId) (rv : Value) (cn : Int32) (N : Nat) (sl rl : List Nat) (gl kl : List Value) (G K : Nat → Addr) : Prop :=
  (nX ≤ ix ∧ nX ≤ as ∧ nX ≤ ag ∧ nX ≤ ak) ∧ (ix ≠ as ∧ ix ≠ ag ∧ ix ≠ ak ∧ as ≠ ag ∧ as ≠ ak ∧ ag ≠ ak) ∧ Exa Z h ix "com/example/entryway/entryway/KeyIndex" ∧ Fld Z h ix "com/example/entryway/entryway/KeyIndex" "count" "I" (.int cn) ∧ Fld Z h ix "com/example/entryway/entryway/KeyIndex" "slots" "[I" (.ref as) ∧ Fld Z h ix "com/example/entryway/entryway/KeyIndex" "mask" "I" (.int (7 : Int32)) ∧ Fld Z h ix "com/example/entryway/entryway/KeyIndex" "groups" "[Ljava/lang/String;" (.ref ag) ∧ Fld Z h ix "com/example/entryway/entryway/KeyIndex" "keys" "[Ljava/lang/String;" (.ref ak) ∧ Fld Z h ix "com/example/entryway/entryway/KeyIndex" "repeats" "[I" rv ∧
  Arv Z h as kS .int (8 : Int32) (own_vs sl) (.int (0 : Int32)) ∧ Arv Z h ag kG (.object "java/lang/String") (4 : Int32) gl .null ∧ Ovr Z kG "java/lang/String" ∧ Arv Z h ak kK (.object "java/lang/String") (4 : Int32) kl .null ∧ Ovr Z kK "java/lang/String" ∧ own_Rp Z nX h ix as ag ak ra rv rl ∧ own_Inv N sl gl kl G K
def own_fst (rl : List Nat) (i : Nat) : Int32 := if rl.getD i 0 = 0 then Int32.ofNat i else Int32.ofNat (rl.getD i 0) - (1 : Int32)
theorem own_ofN {v : Int32} {n : Nat} (h : v.toInt = n) (hn : n < 2147483648) : v = Int32.ofNat n := Int32.toInt_inj.mp (by rw [h, own_i32 hn])
def own_z8 : List Nat := [0, 0, 0, 0, 0, 0, 0, 0]
def own_z4 : List Nat := [0, 0, 0, 0]
def own_q1 (e01 : Bool) (_ : Nat) : Bool := e01
def own_q2 (e02 e12 : Bool) (j : Nat) : Bool := if j = 0 then e02 else e12
def own_q3 (e03 e13 e23 : Bool) (j : Nat) : Bool := if j = 0 then e03 else if j = 1 then e13 else e23
def own_rl (e01 e02 e03 e12 e13 e23 : Bool) : List Nat := [0, if e01 then 1 else 0, if e02 then 1 else if e12 then 2 else 0, if e03 then 1 else if e13 then 2 else if e23 then 3 else 0]
def own_s1 (h0 : Nat) : List Nat × List Nat := own_add own_z8 own_z4 (own_q1 false) h0 0
def own_s2 (h0 h1 : Nat) (e01 : Bool) : List Nat × List Nat := own_add (own_s1 h0).1 (own_s1 h0).2 (own_q1 e01) h1 1
def own_s3 (h0 h1 h2 : Nat) (e01 e02 e12 : Bool) : List Nat × List Nat := own_add (own_s2 h0 h1 e01).1 (own_s2 h0 h1 e01).2 (own_q2 e02 e12) h2 2
def own_s4 (h0 h1 h2 h3 : Nat) (e01 e02 e03 e12 e13 e23 : Bool) : List Nat × List Nat := own_add (own_s3 h0 h1 h2 e01 e02 e12).1 (own_s3 h0 h1 h2 e01 e02 e12).2 (own_q3 e03 e13 e23) h3 3
def own_chk (h0 h1 h2 h3 : Nat) (e01 e02 e03 e12 e13 e23 : Bool) : Bool :=
  decide (own_find own_z8 (own_q1 false) 16 h0 < 8) && decide (own_find (own_s1 h0).1 (own_q1 e01) 16 h1 < 8) && decide (own_find (own_s2 h0 h1 e01).1 (own_q2 e02 e12) 16 h2 < 8) && decide (own_find (own_s3 h0 h1 h2 e01 e02 e12).1 (own_q3 e03 e13 e23) 16 h3 < 8) && decide ((own_s4 h0 h1 h2 h3 e01 e02 e03 e12 e13 e23).2 = own_rl e01 e02 e03 e12 e13 e23)
/-- the six answers come from an equivalence -/
def own_eqv (e01 e02 e03 e12 e13 e23 : Bool) : Bool :=
  (!(e01 && e02) || e12) && (!(e01 && e12) || e02) && (!(e02 && e12) || e01) && (!(e01 && e03) || e13) && (!(e01 && e13) || e03) && (!(e03 && e13) || e01) && (!(e02 && e03) || e23) && (!(e02 && e23) || e03) && (!(e03 && e23) || e02) && (!(e12 && e13) || e23) && (!(e12 && e23) || e13) && (!(e13 && e23) || e12)
def own_one (e01 e02 e03 e12 e13 e23 : Bool) : Bool := !(own_eqv e01 e02 e03 e12 e13 e23) || (List.range 8).all fun h0 => (List.range 8).all fun h1 => (e01 && !(h1 == h0)) || (List.range 8).all fun h2 => (e02 && !(h2 == h0)) || (e12 && !(h2 == h1)) || (List.range 8).all fun h3 => (e03 && !(h3 == h0)) || (e13 && !(h3 == h1)) || (e23 && !(h3 == h2)) || own_chk h0 h1 h2 h3 e01 e02 e03 e12 e13 e23
set_option maxRecDepth 65536 in
theorem own_ones : ∀ e01 e02 e03 e12 e13 e23 : Bool, own_one e01 e02 e03 e12 e13 e23 = true := by decide +kernel
theorem own_all {h0 h1 h2 h3 : Nat} {e01 e02 e03 e12 e13 e23 : Bool} (b0 : h0 < 8) (b1 : h1 < 8) (b2 : h2 < 8) (b3 : h3 < 8) (q : own_eqv e01 e02 e03 e12 e13 e23 = true) (g01 : e01 = true → h1 = h0) (g02 : e02 = true → h2 = h0) (g03 : e03 = true → h3 = h0) (g12 : e12 = true → h2 = h1) (g13 : e13 = true → h3 = h1) (g23 : e23 = true → h3 = h2) : own_chk h0 h1 h2 h3 e01 e02 e03 e12 e13 e23 = true := by
  have h := own_ones e01 e02 e03 e12 e13 e23
  unfold own_one at h
  rw [q] at h
  simp only [Bool.not_true, Bool.false_or, List.all_eq_true, List.mem_range, Bool.or_eq_true, Bool.and_eq_true, Bool.not_eq_true', beq_eq_false_iff_ne] at h
  rcases h h0 b0 h1 b1 with ⟨z, y⟩ | h
  · exact absurd (g01 z) y
  rcases h h2 b2 with (⟨z, y⟩ | ⟨z, y⟩) | h
  · exact absurd (g02 z) y
  · exact absurd (g12 z) y
  rcases h h3 b3 with ((⟨z, y⟩ | ⟨z, y⟩) | ⟨z, y⟩) | h
  · exact absurd (g03 z) y
  · exact absurd (g13 z) y
  · exact absurd (g23 z) y
  exact h
theorem own_inv0 (G K : Nat → Addr) : own_Inv 0 own_z8 [.null, .null, .null, .null] [.null, .null, .null, .null] G K := ⟨rfl, rfl, rfl, fun n hn q => absurd ((by decide : ∀ n, n < 8 → own_z8.getD n 0 = 0) n hn) q⟩
theorem own_invle {N : Nat} {sl : List Nat} {gl kl : List Value} {G K : Nat → Addr} (iv : own_Inv N sl gl kl G K) (hN : N ≤ 4) {n : Nat} (hn : n < 8) : sl.getD n 0 ≤ 4 := by
  by_cases q : sl.getD n 0 = 0
  · omega
  · obtain ⟨j, h1, h2, -⟩ := iv.2.2.2 n hn q; omega
theorem own_sub1 {n : Nat} (h : n ≤ 4) : (Int32.ofNat n - (1 : Int32)).toInt = (n : Int) - 1 := by
  rcases (show n = 0 ∨ n = 1 ∨ n = 2 ∨ n = 3 ∨ n = 4 by omega) with rfl | rfl | rfl | rfl | rfl <;> decide
theorem own_fe {sl : List Nat} {q : Nat → Bool} {f n : Nat} (h : sl.getD n 0 = 0) : own_find sl q (f + 1) n = n := by unfold own_find; rw [if_pos h]
theorem own_fq {sl : List Nat} {q : Nat → Bool} {f n j : Nat} (h : sl.getD n 0 = j + 1) (hq : q j = true) : own_find sl q (f + 1) n = n := by unfold own_find; rw [h, if_neg (by omega), Nat.add_sub_cancel, if_pos hq]
theorem own_fn {sl : List Nat} {q : Nat → Bool} {f n j : Nat} (h : sl.getD n 0 = j + 1) (hq : q j = false) : own_find sl q (f + 1) n = own_find sl q f ((n + 1) % 8) := by rw [own_find, h, if_neg (by omega), Nat.add_sub_cancel, if_neg (by rw [hq]; decide)]
theorem own_ret {sl : List Nat} {q : Nat → Bool} {F n R : Nat} {pos : Int32} (hf : own_find sl q F n = R) (hp : pos.toInt = n) (hn : n < 8) (e : own_find sl q F n = n) : some (Value.int pos) = some (.int (Int32.ofNat R)) := by rw [← hf, e, own_ofN hp (by omega)]
theorem own_nx {pos : Int32} {n : Nat} (hp : pos.toInt = n) (hn : n < 8) : ((pos + (1 : Int32)) &&& (7 : Int32)).toInt = ((n + 1) % 8 : Nat) := by
  have e := own_ofN hp (by omega)
  subst e
  rcases (show n = 0 ∨ n = 1 ∨ n = 2 ∨ n = 3 ∨ n = 4 ∨ n = 5 ∨ n = 6 ∨ n = 7 by omega) with rfl | rfl | rfl | rfl | rfl | rfl | rfl | rfl <;> decide
theorem own_inc {i : Int32} {f : Nat} (h0 : 0 ≤ i.toInt) (h : i.toInt + ((f + 1 : Nat) : Int) = 16) : 0 ≤ (i + (1 : Int32)).toInt ∧ (i + (1 : Int32)).toInt + (f : Int) = 16 := by
  have l1 : (1 : Int32).toInt = 1 := by decide
  have := c_iadd i 1
  have := (i + (1 : Int32)).toInt_lt
  have := (i + (1 : Int32)).le_toInt
  omega
theorem own_qT {x y a b c d : Int32} (h1 : ¬ (own_eqI (2 : Int32).toInt a.toInt c.toInt (2 : Int32).toInt b.toInt d.toInt).toInt = 0) (h2 : ¬ (own_eqI (1 : Int32).toInt x.toInt (0 : Int32).toInt (1 : Int32).toInt y.toInt (0 : Int32).toInt).toInt = 0) : own_same1 x y a b c d = true := by
  have l1 : (1 : Int32).toInt = 1 := by decide
  have l2 : (2 : Int32).toInt = 2 := by decide
  have l0 : (0 : Int32).toInt = 0 := by decide
  rcases own_eqc (2 : Int32).toInt a.toInt c.toInt (2 : Int32).toInt b.toInt d.toInt with ⟨q, r⟩ | ⟨q, r⟩
  · rcases own_eqc (1 : Int32).toInt x.toInt (0 : Int32).toInt (1 : Int32).toInt y.toInt (0 : Int32).toInt with ⟨q', r'⟩ | ⟨q', r'⟩
    · exact decide_eq_true (by omega)
    · rw [q'] at h2; exact absurd l0 h2
  · rw [q] at h1; exact absurd l0 h1
theorem own_qF1 {x y a b c d : Int32} (h1 : (own_eqI (2 : Int32).toInt a.toInt c.toInt (2 : Int32).toInt b.toInt d.toInt).toInt = 0) : own_same1 x y a b c d = false := by
  have l2 : (2 : Int32).toInt = 2 := by decide
  rcases own_eqc (2 : Int32).toInt a.toInt c.toInt (2 : Int32).toInt b.toInt d.toInt with ⟨q, r⟩ | ⟨q, r⟩
  · rw [q] at h1; exact absurd h1 (by decide)
  · exact decide_eq_false (by omega)
theorem own_qF2 {x y a b c d : Int32} (h1 : (own_eqI (1 : Int32).toInt x.toInt (0 : Int32).toInt (1 : Int32).toInt y.toInt (0 : Int32).toInt).toInt = 0) : own_same1 x y a b c d = false := by
  have l1 : (1 : Int32).toInt = 1 := by decide
  rcases own_eqc (1 : Int32).toInt x.toInt (0 : Int32).toInt (1 : Int32).toInt y.toInt (0 : Int32).toInt with ⟨q, r⟩ | ⟨q, r⟩
  · rw [q] at h1; exact absurd h1 (by decide)
  · exact decide_eq_false (by omega)
theorem own_z4le : ∀ i, own_z4.getD i 0 ≤ 4 := fun i => by
  by_cases h : i < 4
  · exact (by decide : ∀ i, i < 4 → own_z4.getD i 0 ≤ 4) i h
  · simp [own_z4, List.getD_eq_getElem?_getD, List.getElem?_eq_none (show [0, 0, 0, 0].length ≤ i by simp; omega)]

theorem own_Rpw {Z : State} {nX : Nat} {h h' : Heap} {ix as ag ak ra : Addr} {rv : Value} {rl : List Nat} {ws : List Addr} (P : own_Rp Z nX h ix as ag ak ra rv rl) (K : Keep h h' ws) (q : ∀ x ∈ ws, x = ix ∨ x = as ∨ x = ag ∨ x = ak ∨ x < nX) : own_Rp Z nX h' ix as ag ak ra rv rl := by
  obtain ⟨l1, l2, P | ⟨e1, b1, n1, n2, n3, n4, k, A⟩⟩ := P
  · exact ⟨l1, l2, Or.inl P⟩
  · refine ⟨l1, l2, Or.inr ⟨e1, b1, n1, n2, n3, n4, k, A.keep K fun m => ?_⟩⟩
    rcases q _ m with e | e | e | e | e
    · exact n1 e
    · exact n2 e
    · exact n3 e
    · exact n4 e
    · exact absurd b1 (Nat.not_le.mpr e)
theorem own_setle {rl : List Nat} {N v : Nat} (h : ∀ i, rl.getD i 0 ≤ 4) (hv : v ≤ 4) : ∀ i, (rl.set N v).getD i 0 ≤ 4 := fun i => by
  have := h i
  simp only [List.getD_eq_getElem?_getD, List.getElem?_set] at *
  split
  · split
    · simpa using hv
    · simp
  · exact this
theorem own_p1 {v : Int32} {j : Nat} (h : v.toInt = j) (hj : j < 4) : v + (1 : Int32) = Int32.ofNat (j + 1) := by
  have e := own_ofN h (by omega)
  subst e
  rcases (show j = 0 ∨ j = 1 ∨ j = 2 ∨ j = 3 by omega) with rfl | rfl | rfl | rfl <;> decide
theorem own_succ {N : Nat} (h : N < 4) : Int32.ofNat N + (1 : Int32) = Int32.ofNat (N + 1) := own_p1 (own_i32 (by omega)) h
theorem own_gd {vs : List Value} {N j : Nat} {v d : Value} (h : j < N) : (vs.set N v).getD j d = vs.getD j d := by
  simp only [List.getD_eq_getElem?_getD, List.getElem?_set_ne (show N ≠ j by omega)]
theorem own_gs {vs : List Value} {N : Nat} {v d : Value} (h : N < vs.length) : (vs.set N v).getD N d = v := by
  simp [List.getD_eq_getElem?_getD, List.getElem?_set_self h]
theorem own_gdn {vs : List Nat} {N j v : Nat} (h : ¬ j = N) : (vs.set N v).getD j 0 = vs.getD j 0 := by
  simp only [List.getD_eq_getElem?_getD, List.getElem?_set_ne (show N ≠ j by omega)]
theorem own_gsn {vs : List Nat} {N v : Nat} (h : N < vs.length) : (vs.set N v).getD N 0 = v := by
  simp [List.getD_eq_getElem?_getD, List.getElem?_set_self h]
theorem own_invnew {N F : Nat} {sl : List Nat} {gl kl : List Value} {G K : Nat → Addr} {g k : Addr} (iv : own_Inv N sl gl kl G K) (hN : N < 4) (hF : F < 8) (hg : G N = g) (hk : K N = k) : own_Inv (N + 1) (sl.set F (N + 1)) (gl.set N (.ref g)) (kl.set N (.ref k)) G K := by
  obtain ⟨l1, l2, l3, iv⟩ := iv
  refine ⟨by rw [List.length_set]; exact l1, by rw [List.length_set]; exact l2, by rw [List.length_set]; exact l3, fun n hn q => ?_⟩
  by_cases e : n = F
  · subst e
    exact ⟨N, by omega, own_gsn (by omega), by rw [own_gs (by omega), hg], by rw [own_gs (by omega), hk]⟩
  · rw [own_gdn e] at q ⊢
    obtain ⟨j, h1, h2, h3, h4⟩ := iv n hn q
    exact ⟨j, by omega, h2, by rw [own_gd h1]; exact h3, by rw [own_gd h1]; exact h4⟩
theorem own_invrep {N : Nat} {sl : List Nat} {gl kl : List Value} {G K : Nat → Addr} {g k : Value} (iv : own_Inv N sl gl kl G K) : own_Inv (N + 1) sl (gl.set N g) (kl.set N k) G K := by
  obtain ⟨l1, l2, l3, iv⟩ := iv
  refine ⟨l1, by rw [List.length_set]; exact l2, by rw [List.length_set]; exact l3, fun n hn q => ?_⟩
  obtain ⟨j, h1, h2, h3, h4⟩ := iv n hn q
  exact ⟨j, by omega, h2, by rw [own_gd h1]; exact h3, by rw [own_gd h1]; exact h4⟩
theorem own_ad1 {sl rl : List Nat} {q : Nat → Bool} {hm N : Nat} (h : sl.getD (own_find sl q 16 hm) 0 = 0) : own_add sl rl q hm N = (sl.set (own_find sl q 16 hm) (N + 1), rl) := if_pos h
theorem own_ad2 {sl rl : List Nat} {q : Nat → Bool} {hm N : Nat} (h : ¬ sl.getD (own_find sl q 16 hm) 0 = 0) : own_add sl rl q hm N = (sl, rl.set N (sl.getD (own_find sl q 16 hm) 0)) := if_neg h
theorem own_z0 {n : Nat} (h : n ≤ 4) : (Int32.ofNat n).toInt = 0 ↔ n = 0 := by rw [own_i32 (by omega)]; omega
theorem own_fz {rl : List Nat} {i : Nat} (h : rl.getD i 0 = 0) : own_fst rl i = Int32.ofNat i := if_pos h
theorem own_fnz {rl : List Nat} {i : Nat} (h : ¬ rl.getD i 0 = 0) : own_fst rl i = Int32.ofNat (rl.getD i 0) - (1 : Int32) := if_neg h
theorem own_rage {Z : State} {nS nX : Nat} {h : Heap} {ix as ag ak ra : Addr} {rv : Value} {rl : List Nat} (P : own_Rp Z nX h ix as ag ak ra rv rl) (h1 : nS ≤ nX) (h2 : nX ≤ ix) : nS ≤ ra := by
  obtain ⟨-, -, ⟨-, e, -⟩ | ⟨-, b, -⟩⟩ := P
  · rw [e]; exact Nat.le_trans h1 h2
  · exact Nat.le_trans h1 b
theorem own_rane {Z : State} {nX : Nat} {h : Heap} {ix as ag ak ra : Addr} {rv : Value} {rl : List Nat} (P : own_Rp Z nX h ix as ag ak ra rv rl) (m1 : ix ≠ as) (m2 : ix ≠ ag) : as ≠ ra ∧ ag ≠ ra := by
  obtain ⟨-, -, ⟨-, e, -⟩ | ⟨-, -, -, n2, n3, -⟩⟩ := P
  · rw [e]; exact ⟨fun z => m1 z.symm, fun z => m2 z.symm⟩
  · exact ⟨fun z => n2 z.symm, fun z => n3 z.symm⟩
theorem own_z4z (i : Nat) : [0, 0, 0, 0].getD i 0 = 0 := by
  have := own_z4le
  by_cases h : i < 4
  · exact (by decide : ∀ i, i < 4 → [0, 0, 0, 0].getD i 0 = 0) i h
  · simp [List.getD_eq_getElem?_getD, List.getElem?_eq_none (show [0, 0, 0, 0].length ≤ i by simp; omega)]
def own_bi (b : Bool) : Int32 := if b then 1 else 0
theorem own_bf {b : Bool} (h : (own_bi b).toInt = 0) : b = false := by cases b; rfl; exact absurd h (by decide)
theorem own_bt {b : Bool} (h : ¬ (own_bi b).toInt = 0) : b = true := by cases b; exact absurd (by decide) h; rfl
theorem own_bi1 {b : Bool} (h : b = true) : some (Value.int (nar .boolean (1 : Int32))) = some (.int (own_bi b)) := by rw [h]; decide
theorem own_bi0 {b : Bool} (h : b = false) : some (Value.int (nar .boolean (0 : Int32))) = some (.int (own_bi b)) := by rw [h]; decide
def own_rf (b0 b1 b2 : Bool) : Int32 := if b0 then 0 else if b1 then 1 else if b2 then 2 else 3
theorem own_selfs (x a c : Int32) : own_same1 x x a a c c = true := decide_eq_true ⟨rfl, rfl, rfl⟩
theorem own_fin {rl : List Nat} {e01 e02 e03 e12 e13 e23 : Bool} (h : rl = own_rl e01 e02 e03 e12 e13 e23) : own_fst rl 0 = own_rf true false false ∧ own_fst rl 1 = own_rf e01 true false ∧ own_fst rl 2 = own_rf e02 e12 true ∧ own_fst rl 3 = own_rf e03 e13 e23 := by
  subst h
  revert e01 e02 e03 e12 e13 e23
  decide +kernel
theorem own_pk {P : Addr → Prop} {v A B : Addr} (h : v = A ∨ v = B) (a : P A) (b : P B) : P v := by
  rcases h with rfl | rfl
  · exact a
  · exact b
def own_G (a b c d : Addr) (j : Nat) : Addr := if j = 0 then a else if j = 1 then b else if j = 2 then c else d
theorem own_Gm {a b c d A B : Addr} (h0 : a = A ∨ a = B) (h1 : b = A ∨ b = B) (h2 : c = A ∨ c = B) (h3 : d = A ∨ d = B) (j : Nat) : own_G a b c d j = A ∨ own_G a b c d j = B := by
  unfold own_G
  split
  · exact h0
  · split
    · exact h1
    · split
      · exact h2
      · exact h3
theorem own_Xra {Z : State} {nX : Nat} {h : Heap} {ix as ag ak ra : Addr} {kS kG kK : ClassId} {rv : Value} {cn : Int32} {N : Nat} {sl rl : List Nat} {gl kl : List Value} {G K : Nat → Addr} (X : own_X Z nX h ix as ag ak ra kS kG kK rv cn N sl rl gl kl G K) : nX ≤ ra := by
  obtain ⟨⟨b, -⟩, -, -, -, -, -, -, -, -, -, -, -, -, -, Rp, -⟩ := X
  exact own_rage Rp (Nat.le_refl _) b
theorem own_tr {p q r : Bool} (h : p = true → q = true → r = true) : (!(p && q) || r) = true := by
  cases p <;> cases q <;> cases r <;> simp_all
theorem own_eqvT (x0 x1 x2 x3 a0 a1 a2 a3 c0 c1 c2 c3 : Int32) : own_eqv (own_same1 x0 x1 a0 a1 c0 c1) (own_same1 x0 x2 a0 a2 c0 c2) (own_same1 x0 x3 a0 a3 c0 c3) (own_same1 x1 x2 a1 a2 c1 c2) (own_same1 x1 x3 a1 a3 c1 c3) (own_same1 x2 x3 a2 a3 c2 c3) = true := by
  simp only [own_eqv, Bool.and_eq_true]
  refine ⟨⟨⟨⟨⟨⟨⟨⟨⟨⟨⟨?_, ?_⟩, ?_⟩, ?_⟩, ?_⟩, ?_⟩, ?_⟩, ?_⟩, ?_⟩, ?_⟩, ?_⟩, ?_⟩
  all_goals exact own_tr (fun h1 h2 => decide_eq_true (by have q1 := of_decide_eq_true h1; have q2 := of_decide_eq_true h2; omega))
theorem own_hmE {x y a b c d : Int32} (h : own_same1 x y a b c d = true) : own_home (own_H1 y) (own_H2 b d) = own_home (own_H1 x) (own_H2 a c) := by
  obtain ⟨h1, h2, h3⟩ := of_decide_eq_true h
  rw [Int32.toInt_inj.mp h1, Int32.toInt_inj.mp h2, Int32.toInt_inj.mp h3]
theorem own_narc {x : Int32} (h : 0 ≤ x.toInt ∧ x.toInt ≤ 255) : nar .char x = x := by
  have := c_i2c x
  refine Int32.toInt_inj.mp ?_
  show (x.toUInt32.toUInt16.toUInt32.toInt32).toInt = _
  omega
theorem own_m255 (x : Int32) : 0 ≤ (x &&& (255 : Int32)).toInt ∧ (x &&& (255 : Int32)).toInt ≤ 255 := c_and x 255 (by decide)
theorem own_ch (x : Int32) : nar .char ((x &&& (255 : Int32)).toUInt32.toUInt16.toUInt32.toInt32) = x &&& (255 : Int32) := by rw [i2c_mask, own_narc (own_m255 _)]
theorem own_m255c (x : Int32) : 0 ≤ ((x &&& (255 : Int32)).toUInt32.toUInt16.toUInt32.toInt32).toInt ∧ ((x &&& (255 : Int32)).toUInt32.toUInt16.toUInt32.toInt32).toInt ≤ 255 := by rw [i2c_mask]; exact own_m255 _
theorem own_pad1 {Z : State} {h : Heap} {a : Addr} {k : ClassId} {x y : Int32} (F : Arv Z h a k .byte (1 : Int32) [.int x] (.int (0 : Int32))) (hy : y = 0) : Arv Z h a k .byte (1 : Int32) [.int x, .int y] (.int (0 : Int32)) := by
  subst hy
  exact F.pad (fun j => by rcases j with _ | _ | j <;> rfl)
theorem own_cs {s : State} {args : Array Value} {t : Term} {n : Int32} (ex : t.eval args s none [] s = some (.int n)) (h : (Jvm.Cond.not (Jvm.Cond.eq t (Jvm.Term.int (0 : Int32)))).before args s = true) : ¬ n.toInt = 0 := fun q => by
  have e : n = 0 := Int32.toInt_inj.mp (by rw [q]; decide)
  subst e
  simp [Cond.before, Cond.holds, Cond.value, ex, Term.int_eval] at h

def own_Qmet5_2 (Z : State) (h0 : Heap) (n0 : Nat) (p1 : Addr) (p3 : Addr) (kA kB : ClassId) (c0 c1 : Int32) (v : Option Value) (h : Heap) (L : List Loc) : Prop := v = some (.int (2 : Int32)) ∧ Fr n0 L ∧ Keep h0 h [p3] ∧ Arv Z h p3 kB .byte (2 : Int32) [.int c0.toInt8.toInt32, .int c1.toInt8.toInt32] (.int (0 : Int32))
set_option maxRecDepth 65536 in
set_option maxHeartbeats 40000000 in
theorem own_met5_2 (l : Launch) (Z : State) (a0 : Array Value) (hw : ∀ d ∈ tables_1, d.before a0 Z = true) (h0 : Heap) (n0 : Nat) (Z0 : n0 ≤ h0.size) (p1 : Addr) (p3 : Addr) (kA kB : ClassId) (c0 c1 : Int32) (ge_p3 : n0 ≤ p3) (Va : Arv Z h0 p1 kA .char (2 : Int32) [.int c0, .int c1] (.int (0 : Int32))) (Vc : Arv Z h0 p3 kB .byte (2 : Int32) [.int (0 : Int32), .int (0 : Int32)] (.int (0 : Int32))) (ne0 : p1 ≠ p3) (r_c0 : 0 ≤ c0.toInt ∧ c0.toInt ≤ 255) (r_c1 : 0 ≤ c1.toInt ∧ c1.toInt ≤ 255) :
    MetFree l (⟨"java/lang/StringUTF16", "compress", "([CI[BII)I"⟩ : MethodName) (head1 [Jvm.Cond.code (⟨"java/lang/StringUTF16", "compress", "([CI[BII)I"⟩ : MethodName) jdk_52_method_21_code 7 (some .int)] ({ frames := 0, cells := 0, slots := 0, locals := 0 } : Room)) (fun a U => a = #[(.ref p1), (.int (0 : Int32)), (.ref p3), (.int (0 : Int32)), (.int (2 : Int32))] ∧ Z.Warmed39 U.vm ∧ U.heap = h0) (fun _ _ _ _ _ => True) (fun _ U o U' => ∃ v L, o = .returned v ∧ (own_Qmet5_2 Z h0 n0 p1 p3 kA kB c0 c1) v U'.heap L ∧ FrameEnd U o U' L ({ frames := 0, cells := 0, slots := 0, locals := 0 } : Room).cells ({ frames := 0, cells := 0, slots := 0, locals := 0 } : Room).slots) := by
  refine OwnK.met (Q := (own_Qmet5_2 Z h0 n0 p1 p3 kA kB c0 c1)) (C := ({ frames := 0, cells := 0, slots := 0, locals := 0 } : Room).cells) (N := ({ frames := 0, cells := 0, slots := 0, locals := 0 } : Room).slots) own_pl_5 (own_ef_5_0_0_2 p1 p3) ?_
  intro p e s m below meth c T0 X0 hx hZ hby hml hown hnm hret hlk e0
  have N0 := Fr.nil n0
  have K0 := Keep.refl h0 [p3]
  refine OwnK.iconst X0 hx (hb hby own_d5_0) (pc' := 1) rfl (v := (0 : Int32)) (by decide) ?_
  refine OwnK.istore X0 hx (hb hby own_d5_1) (pc' := 3) rfl (Ls' := #[.val (.ref p1), .val (.int (0 : Int32)), .val (.ref p3), .val (.int (0 : Int32)), .val (.int (2 : Int32)), .val (.int (0 : Int32)), .unset]) rfl ?_
  refine OwnK.iload X0 hx (hb hby own_d5_3) (pc' := 5) rfl (v := (0 : Int32)) rfl ?_
  refine OwnK.iload X0 hx (hb hby own_d5_5) (pc' := 7) rfl (v := (2 : Int32)) rfl ?_
  refine OwnK.icmp_ge X0 hx (hb hby own_d5_7) (by decide) (pcT := 44) (by decide) (pc' := 10) rfl (fun (hc7 : 2 ≤ 0) => absurd hc7 (by decide)) (fun hc7 => ?_)
  refine OwnK.aloadN X0 hx (hb hby own_d5_10) (pc' := 11) rfl (v := (.ref p1)) rfl rfl ?_
  refine OwnK.iloadN X0 hx (hb hby own_d5_11) (pc' := 12) rfl (v := (0 : Int32)) rfl ?_
  refine OwnK.caload X0 hx hZ e0 Va (by decide) (by first | decide | omega) (v := (.int c0)) rfl (hb hby own_d5_12) (pc' := 13) rfl ?_
  refine OwnK.istore X0 hx (hb hby own_d5_13) (pc' := 15) rfl (Ls' := #[.val (.ref p1), .val (.int (0 : Int32)), .val (.ref p3), .val (.int (0 : Int32)), .val (.int (2 : Int32)), .val (.int (0 : Int32)), .val (.int c0)]) rfl ?_
  refine OwnK.iload X0 hx (hb hby own_d5_15) (pc' := 17) rfl (v := c0) rfl ?_
  refine OwnK.sipush X0 hx (hb hby own_d5_17) (pc' := 20) rfl (v := (255 : Int32)) (by decide) ?_
  refine OwnK.icmp_le X0 hx (hb hby own_d5_20) (by decide) (pcT := 26) (by decide) (pc' := 23) rfl (fun hc20 => ?_) (fun (hc20 : 255 < c0.toInt) => by omega)
  refine OwnK.aloadN X0 hx (hb hby own_d5_26) (pc' := 27) rfl (v := (.ref p3)) rfl rfl ?_
  refine OwnK.iloadN X0 hx (hb hby own_d5_27) (pc' := 28) rfl (v := (0 : Int32)) rfl ?_
  refine OwnK.iload X0 hx (hb hby own_d5_28) (pc' := 30) rfl (v := c0) rfl ?_
  refine OwnK.i2b X0 hx (hb hby own_d5_30) (pc' := 31) rfl ?_
  refine OwnK.bastore X0 hx hZ e0 Vc (i := 0) (by decide) (by first | decide | omega) (Nat.le_of_ble_eq_true rfl) (hb hby own_d5_31) (pc' := 32) rfl (fun T1 h1 X1 e1 W1 V1 => ?_)
  have f2 := Va.other W1 ne0
  have f3 : Arv Z h1 p3 _ .byte (2 : Int32) [(.int (c0.toInt8.toInt32)), (.int (0 : Int32))] (.int (0 : Int32)) := (by have q := V1; rw [own_narb] at q; exact q)
  have N4 := Fr.snoc X1 N0 ge_p3
  have K5 := K0.wr W1 (Or.inl (List.mem_of_getElem? (i := 0) rfl))
  have z6 : n0 ≤ h1.size := Nat.le_trans Z0 (Keep.of_wr W1).1
  refine OwnK.iincL X1 hx (hb hby own_d5_32) (pc' := 35) rfl (x := (0 : Int32)) rfl (v := (1 : Int32)) (by decide) (Ls' := #[.val (.ref p1), .val (.int (1 : Int32)), .val (.ref p3), .val (.int (0 : Int32)), .val (.int (2 : Int32)), .val (.int (0 : Int32)), .val (.int c0)]) rfl ?_
  refine OwnK.iincL X1 hx (hb hby own_d5_35) (pc' := 38) rfl (x := (0 : Int32)) rfl (v := (1 : Int32)) (by decide) (Ls' := #[.val (.ref p1), .val (.int (1 : Int32)), .val (.ref p3), .val (.int (1 : Int32)), .val (.int (2 : Int32)), .val (.int (0 : Int32)), .val (.int c0)]) rfl ?_
  refine OwnK.iincL X1 hx (hb hby own_d5_38) (pc' := 41) rfl (x := (0 : Int32)) rfl (v := (1 : Int32)) (by decide) (Ls' := #[.val (.ref p1), .val (.int (1 : Int32)), .val (.ref p3), .val (.int (1 : Int32)), .val (.int (2 : Int32)), .val (.int (1 : Int32)), .val (.int c0)]) rfl ?_
  refine OwnK.goto_ X1 hx (hb hby own_d5_41) (by decide) (pc' := 3) (by decide) ?_
  refine OwnK.iload X1 hx (hb hby own_d5_3) (pc' := 5) rfl (v := (1 : Int32)) rfl ?_
  refine OwnK.iload X1 hx (hb hby own_d5_5) (pc' := 7) rfl (v := (2 : Int32)) rfl ?_
  refine OwnK.icmp_ge X1 hx (hb hby own_d5_7) (by decide) (pcT := 44) (by decide) (pc' := 10) rfl (fun (hc7 : 2 ≤ 1) => absurd hc7 (by decide)) (fun hc7 => ?_)
  refine OwnK.aloadN X1 hx (hb hby own_d5_10) (pc' := 11) rfl (v := (.ref p1)) rfl rfl ?_
  refine OwnK.iloadN X1 hx (hb hby own_d5_11) (pc' := 12) rfl (v := (1 : Int32)) rfl ?_
  refine OwnK.caload X1 hx hZ e1 f2 (by decide) (by first | decide | omega) (v := (.int c1)) rfl (hb hby own_d5_12) (pc' := 13) rfl ?_
  refine OwnK.istore X1 hx (hb hby own_d5_13) (pc' := 15) rfl (Ls' := #[.val (.ref p1), .val (.int (1 : Int32)), .val (.ref p3), .val (.int (1 : Int32)), .val (.int (2 : Int32)), .val (.int (1 : Int32)), .val (.int c1)]) rfl ?_
  refine OwnK.iload X1 hx (hb hby own_d5_15) (pc' := 17) rfl (v := c1) rfl ?_
  refine OwnK.sipush X1 hx (hb hby own_d5_17) (pc' := 20) rfl (v := (255 : Int32)) (by decide) ?_
  refine OwnK.icmp_le X1 hx (hb hby own_d5_20) (by decide) (pcT := 26) (by decide) (pc' := 23) rfl (fun hc20 => ?_) (fun (hc20 : 255 < c1.toInt) => by omega)
  refine OwnK.aloadN X1 hx (hb hby own_d5_26) (pc' := 27) rfl (v := (.ref p3)) rfl rfl ?_
  refine OwnK.iloadN X1 hx (hb hby own_d5_27) (pc' := 28) rfl (v := (1 : Int32)) rfl ?_
  refine OwnK.iload X1 hx (hb hby own_d5_28) (pc' := 30) rfl (v := c1) rfl ?_
  refine OwnK.i2b X1 hx (hb hby own_d5_30) (pc' := 31) rfl ?_
  refine OwnK.bastore X1 hx hZ e1 f3 (i := 1) (by decide) (by first | decide | omega) (Nat.le_of_ble_eq_true rfl) (hb hby own_d5_31) (pc' := 32) rfl (fun T7 h7 X7 e7 W7 V7 => ?_)
  have f8 := f2.other W7 ne0
  have f9 : Arv Z h7 p3 _ .byte (2 : Int32) [(.int (c0.toInt8.toInt32)), (.int (c1.toInt8.toInt32))] (.int (0 : Int32)) := (by have q := V7; rw [own_narb] at q; exact q)
  have N10 := Fr.snoc X7 N4 ge_p3
  have K11 := K5.wr W7 (Or.inl (List.mem_of_getElem? (i := 0) rfl))
  have z12 : n0 ≤ h7.size := Nat.le_trans z6 (Keep.of_wr W7).1
  refine OwnK.iincL X7 hx (hb hby own_d5_32) (pc' := 35) rfl (x := (1 : Int32)) rfl (v := (2 : Int32)) (by decide) (Ls' := #[.val (.ref p1), .val (.int (2 : Int32)), .val (.ref p3), .val (.int (1 : Int32)), .val (.int (2 : Int32)), .val (.int (1 : Int32)), .val (.int c1)]) rfl ?_
  refine OwnK.iincL X7 hx (hb hby own_d5_35) (pc' := 38) rfl (x := (1 : Int32)) rfl (v := (2 : Int32)) (by decide) (Ls' := #[.val (.ref p1), .val (.int (2 : Int32)), .val (.ref p3), .val (.int (2 : Int32)), .val (.int (2 : Int32)), .val (.int (1 : Int32)), .val (.int c1)]) rfl ?_
  refine OwnK.iincL X7 hx (hb hby own_d5_38) (pc' := 41) rfl (x := (1 : Int32)) rfl (v := (2 : Int32)) (by decide) (Ls' := #[.val (.ref p1), .val (.int (2 : Int32)), .val (.ref p3), .val (.int (2 : Int32)), .val (.int (2 : Int32)), .val (.int (2 : Int32)), .val (.int c1)]) rfl ?_
  refine OwnK.goto_ X7 hx (hb hby own_d5_41) (by decide) (pc' := 3) (by decide) ?_
  refine OwnK.iload X7 hx (hb hby own_d5_3) (pc' := 5) rfl (v := (2 : Int32)) rfl ?_
  refine OwnK.iload X7 hx (hb hby own_d5_5) (pc' := 7) rfl (v := (2 : Int32)) rfl ?_
  refine OwnK.icmp_ge X7 hx (hb hby own_d5_7) (by decide) (pcT := 44) (by decide) (pc' := 10) rfl (fun hc7 => ?_) (fun (hc7 : 2 < 2) => absurd hc7 (by decide))
  refine OwnK.iload X7 hx (hb hby own_d5_44) (pc' := 46) rfl (v := (2 : Int32)) rfl ?_
  refine OwnK.retI_ X7 hx hret hlk (hb hby own_d5_46) (by decide) (by decide) ?_
  rw [show T7.heap = h7 from e7]
  exact ⟨rfl, N10, K11, f9⟩
def own_Qmet4_2 (Z : State) (h0 : Heap) (n0 : Nat) (p1 : Addr) (kA : ClassId) (c0 c1 : Int32) (v : Option Value) (h : Heap) (L : List Loc) : Prop := ∃ r kR, v = some (.ref r) ∧ Fr n0 L ∧ Keep h0 h [] ∧ h0.size ≤ r ∧ Arv Z h r kR .byte (2 : Int32) [.int c0.toInt8.toInt32, .int c1.toInt8.toInt32] (.int (0 : Int32)) ∧ Exa Z h r "[B"
set_option maxRecDepth 65536 in
set_option maxHeartbeats 40000000 in
theorem own_met4_2 (l : Launch) (Z : State) (a0 : Array Value) (hw : ∀ d ∈ tables_1, d.before a0 Z = true) (h0 : Heap) (n0 : Nat) (Z0 : n0 ≤ h0.size) (p1 : Addr) (kA : ClassId) (c0 c1 : Int32) (Va : Arv Z h0 p1 kA .char (2 : Int32) [.int c0, .int c1] (.int (0 : Int32))) (r_c0 : 0 ≤ c0.toInt ∧ c0.toInt ≤ 255) (r_c1 : 0 ≤ c1.toInt ∧ c1.toInt ≤ 255) :
    MetFree l (⟨"java/lang/StringUTF16", "compress", "([CII)[B"⟩ : MethodName) (head1 [Jvm.Cond.code (⟨"java/lang/StringUTF16", "compress", "([CII)[B"⟩ : MethodName) jdk_52_method_16_code 6 (some (.array .byte))] ({ frames := 1, cells := 1, slots := 2, locals := 18 } : Room)) (fun a U => a = #[(.ref p1), (.int (0 : Int32)), (.int (2 : Int32))] ∧ Z.Warmed39 U.vm ∧ U.heap = h0) (fun _ _ _ _ _ => True) (fun _ U o U' => ∃ v L, o = .returned v ∧ (own_Qmet4_2 Z h0 n0 p1 kA c0 c1) v U'.heap L ∧ FrameEnd U o U' L ({ frames := 1, cells := 1, slots := 2, locals := 18 } : Room).cells ({ frames := 1, cells := 1, slots := 2, locals := 18 } : Room).slots) := by
  refine OwnK.met (Q := (own_Qmet4_2 Z h0 n0 p1 kA c0 c1)) (C := ({ frames := 1, cells := 1, slots := 2, locals := 18 } : Room).cells) (N := ({ frames := 1, cells := 1, slots := 2, locals := 18 } : Room).slots) own_pl_4 (own_ef_4_0_2 p1) ?_
  intro p e s m below meth c T0 X0 hx hZ hby hml hown hnm hret hlk e0
  have N0 := Fr.nil n0
  have K0 := Keep.refl h0 []
  refine OwnK.iloadN X0 hx (hb hby own_d4_0) (pc' := 1) rfl (v := (2 : Int32)) rfl ?_
  refine OwnK.newP_ X0 hx hZ (hw _ (List.mem_of_getElem? (i := 19) rfl)) e0 (hb hby own_d4_1) (pc' := 3) rfl (n := (2 : Int32)) (by decide) (cap := 2) (by decide) (by decide) (by decide) (by decide) (ad := "[B") (by decide) (fun T1 h1 a1 k1 X1 e1 g1 E1 V1 Q1 => ?_)
  have q2 : p1 ≠ a1 := Nat.ne_of_lt (Nat.lt_of_lt_of_le Va.lt (Nat.le_of_eq g1.symm))
  have ge_a1 : n0 ≤ a1 := Nat.le_trans Z0 (Nat.le_of_eq g1.symm)
  have sz_a1 : h0.size ≤ a1 := Nat.le_trans K0.1 (Nat.le_of_eq g1.symm)
  have z3 : n0 ≤ h1.size := Nat.le_trans Z0 E1.1
  have K4 := K0.ext E1
  have f5 := Va.ext E1
  have f6 : Arv Z h1 a1 k1 .byte (2 : Int32) [(.int (0 : Int32)), (.int (0 : Int32))] (.int (0 : Int32)) := V1.pad (pad_rep [] (.int (0 : Int32)) 2)
  refine OwnK.astoreN X1 hx (hb hby own_d4_3) (pc' := 4) rfl rfl (Ls' := #[.val (.ref p1), .val (.int (0 : Int32)), .val (.int (2 : Int32)), .val (.ref a1), .unset, .unset]) rfl ?_
  refine OwnK.aloadN X1 hx (hb hby own_d4_4) (pc' := 5) rfl (v := (.ref p1)) rfl rfl ?_
  refine OwnK.iloadN X1 hx (hb hby own_d4_5) (pc' := 6) rfl (v := (0 : Int32)) rfl ?_
  refine OwnK.aloadN X1 hx (hb hby own_d4_6) (pc' := 7) rfl (v := (.ref a1)) rfl rfl ?_
  refine OwnK.iconst X1 hx (hb hby own_d4_7) (pc' := 8) rfl (v := (0 : Int32)) (by decide) ?_
  refine OwnK.iloadN X1 hx (hb hby own_d4_8) (pc' := 9) rfl (v := (2 : Int32)) rfl ?_
  refine OwnK.callS_ X1 hx hZ hown (y := (⟨"java/lang/StringUTF16", "compress", "([CI[BII)I"⟩ : MethodName)) (hw _ (List.mem_of_getElem? (i := 20) rfl)) (hw _ (List.mem_of_getElem? (i := 21) rfl)) (hw _ (List.mem_of_getElem? (i := 17) rfl)) (hw _ (List.mem_of_getElem? (i := 22) rfl)) (by decide) (own_met5_2 l Z a0 hw h1 n0 z3 p1 a1 _ _ c0 c1  ge_a1 f5 f6 q2 r_c0 r_c1 ) (by decide) (W := 0) (by decide) e1 (by rw [hml]; rfl) own_pd_20 (argsL := [(.ref p1), (.int (0 : Int32)), (.ref a1), (.int (0 : Int32)), (.int (2 : Int32))]) rfl (S := []) rfl (Nat.le_of_eq rfl) (hb hby own_d4_9) (pc' := 12) rfl (by decide) (by decide) (fun T7 v7 L7 X7 hQ7 => ?_)
  obtain ⟨rfl, N7q, K7, V7⟩ := hQ7
  have N8 := Fr.app N0 N7q
  have f9 := f5.keep K7 (ninS q2 nin0)
  have f10 := Q1.keep K7
  have z11 : n0 ≤ T7.heap.size := Nat.le_trans z3 K7.1
  have K12 := K4.trans K7 (allS (Or.inr sz_a1) all0)
  refine OwnK.istore X7 hx (hb hby own_d4_12) (pc' := 14) rfl (Ls' := #[.val (.ref p1), .val (.int (0 : Int32)), .val (.int (2 : Int32)), .val (.ref a1), .val (.int (2 : Int32)), .unset]) rfl ?_
  refine OwnK.iload X7 hx (hb hby own_d4_14) (pc' := 16) rfl (v := (2 : Int32)) rfl ?_
  refine OwnK.iloadN X7 hx (hb hby own_d4_16) (pc' := 17) rfl (v := (2 : Int32)) rfl ?_
  refine OwnK.icmp_eq X7 hx (hb hby own_d4_17) (by decide) (pcT := 57) (by decide) (pc' := 20) rfl (fun hc17 => ?_) (fun (hc17 : ¬ 2 = 2) => absurd hc17 (by decide))
  refine OwnK.aloadN X7 hx (hb hby own_d4_57) (pc' := 58) rfl (v := (.ref a1)) rfl rfl ?_
  refine OwnK.retA_ X7 hx hret rfl rfl hlk (hb hby own_d4_58) (by decide) (by decide) ?_
  exact ⟨a1, _, rfl, N8, K12, sz_a1, V7, f10⟩
def own_Qmet6_2 (h0 : Heap) (p1 : Addr) (kA : ClassId) (vs : List Value) (v : Option Value) (h : Heap) (L : List Loc) : Prop := v = some (.int (0 : Int32)) ∧ h = h0 ∧ L = []
set_option maxRecDepth 65536 in
set_option maxHeartbeats 40000000 in
theorem own_met6_2 (l : Launch) (Z : State) (a0 : Array Value) (hw : ∀ d ∈ tables_1, d.before a0 Z = true) (h0 : Heap) (p1 : Addr) (kA : ClassId) (vs : List Value) (Va : Arv Z h0 p1 kA .byte (2 : Int32) vs (.int (0 : Int32))) :
    MetFree l (⟨"java/lang/StringUTF16", "coderFromArrayLen", "([BI)B"⟩ : MethodName) (head1 [Jvm.Cond.code (⟨"java/lang/StringUTF16", "coderFromArrayLen", "([BI)B"⟩ : MethodName) jdk_52_method_15_code 2 (some .byte)] ({ frames := 0, cells := 0, slots := 0, locals := 0 } : Room)) (fun a U => a = #[(.ref p1), (.int (2 : Int32))] ∧ Z.Warmed39 U.vm ∧ U.heap = h0) (fun _ _ _ _ _ => True) (fun _ U o U' => ∃ v L, o = .returned v ∧ (own_Qmet6_2 h0 p1 kA vs) v U'.heap L ∧ FrameEnd U o U' L ({ frames := 0, cells := 0, slots := 0, locals := 0 } : Room).cells ({ frames := 0, cells := 0, slots := 0, locals := 0 } : Room).slots) := by
  refine OwnK.met (Q := (own_Qmet6_2 h0 p1 kA vs)) (C := ({ frames := 0, cells := 0, slots := 0, locals := 0 } : Room).cells) (N := ({ frames := 0, cells := 0, slots := 0, locals := 0 } : Room).slots) own_pl_6 (own_ef_6_2 p1) ?_
  intro p e s m below meth c T0 X0 hx hZ hby hml hown hnm hret hlk e0
  refine OwnK.iloadN X0 hx (hb hby own_d6_0) (pc' := 1) rfl (v := (2 : Int32)) rfl ?_
  refine OwnK.aloadN X0 hx (hb hby own_d6_1) (pc' := 2) rfl (v := (.ref p1)) rfl rfl ?_
  refine OwnK.arrlen X0 hx hZ e0 Va (hb hby own_d6_2) (pc' := 3) rfl ?_
  refine OwnK.isubL X0 hx (hb hby own_d6_3) (pc' := 4) rfl (z := (0 : Int32)) (by decide) ?_
  refine OwnK.bipush X0 hx (hb hby own_d6_4) (pc' := 6) rfl (v := (31 : Int32)) (by decide) ?_
  refine OwnK.iushrL X0 hx (hb hby own_d6_6) (pc' := 7) rfl (z := (0 : Int32)) (by decide) ?_
  refine OwnK.i2b X0 hx (hb hby own_d6_7) (pc' := 8) rfl ?_
  refine OwnK.retN_ X0 hx hret (by simp) hlk (hb hby own_d6_8) (by decide) (by decide) ?_
  exact ⟨congrArg (fun z => some (Value.int z)) (show nar .byte _ = _ by decide), e0, rfl⟩
def own_Qmet2_2 (Z : State) (h0 : Heap) (n0 : Nat) (p1 : Addr) (p2 : Addr) (kA : ClassId) (c0 c1 cs : Int32) (v : Option Value) (h : Heap) (L : List Loc) : Prop := ∃ t kt, v = none ∧ Fr n0 L ∧ Keep h0 h [p1] ∧ own_Sg Z h p1 t kt (2 : Int32) [.int c0.toInt8.toInt32, .int c1.toInt8.toInt32] ∧ h0.size ≤ t ∧ Exa Z h t "[B" ∧ Fld Z h p1 "java/lang/String" "hash" "I" (.int (0 : Int32)) ∧ Fld Z h p1 "java/lang/String" "hashIsZero" "Z" (.int (0 : Int32))
set_option maxRecDepth 65536 in
set_option maxHeartbeats 40000000 in
theorem own_met2_2 (l : Launch) (Z : State) (a0 : Array Value) (hw : ∀ d ∈ tables_1, d.before a0 Z = true) (h0 : Heap) (n0 : Nat) (Z0 : n0 ≤ h0.size) (p1 : Addr) (p2 : Addr) (kA : ClassId) (c0 c1 cs : Int32) (O0 : Old Z n0 h0) (ge_p1 : n0 ≤ p1) (F2 : Fld Z h0 p1 "java/lang/String" "hash" "I" (.int (0 : Int32))) (F3 : Fld Z h0 p1 "java/lang/String" "hashIsZero" "Z" (.int (0 : Int32))) (E0 : Exa Z h0 p1 "java/lang/String") (F0 : Fld Z h0 p1 "java/lang/String" "value" "[B" .null) (F1 : Fld Z h0 p1 "java/lang/String" "coder" "B" (.int (0 : Int32))) (Vb : Arv Z h0 p2 kA .char (2 : Int32) [.int c0, .int c1] (.int (0 : Int32))) (ne0 : p1 ≠ p2) (r_c0 : 0 ≤ c0.toInt ∧ c0.toInt ≤ 255) (r_c1 : 0 ≤ c1.toInt ∧ c1.toInt ≤ 255) (hcs : ¬ cs.toInt = 0) (SS : Sta Z Z.heap "java/lang/String" "COMPACT_STRINGS" "Z" (.int cs)) :
    MetFree l (⟨"java/lang/String", "<init>", "([CIILjava/lang/Void;)V"⟩ : MethodName) (head1 [Jvm.Cond.code (⟨"java/lang/String", "<init>", "([CIILjava/lang/Void;)V"⟩ : MethodName) jdk_42_method_149_code 6 none] ({ frames := 2, cells := 1, slots := 2, locals := 35 } : Room)) (fun a U => a = #[(.ref p1), (.ref p2), (.int (0 : Int32)), (.int (2 : Int32)), .null] ∧ Z.Warmed39 U.vm ∧ U.heap = h0) (fun _ _ _ _ _ => True) (fun _ U o U' => ∃ v L, o = .returned v ∧ (own_Qmet2_2 Z h0 n0 p1 p2 kA c0 c1 cs) v U'.heap L ∧ FrameEnd U o U' L ({ frames := 2, cells := 1, slots := 2, locals := 35 } : Room).cells ({ frames := 2, cells := 1, slots := 2, locals := 35 } : Room).slots) := by
  refine OwnK.met (Q := (own_Qmet2_2 Z h0 n0 p1 p2 kA c0 c1 cs)) (C := ({ frames := 2, cells := 1, slots := 2, locals := 35 } : Room).cells) (N := ({ frames := 2, cells := 1, slots := 2, locals := 35 } : Room).slots) own_pl_2 (own_ef_2n_0_2 p1 p2) ?_
  intro p e s m below meth c T0 X0 hx hZ hby hml hown hnm hret hlk e0
  have N0 := Fr.nil n0
  have K0 := Keep.refl h0 [p1]
  refine OwnK.aloadN X0 hx (hb hby own_d2_0) (pc' := 1) rfl (v := (.ref p1)) rfl rfl ?_
  refine OwnK.initO_ X0 hx hZ hown (hw _ (List.mem_of_getElem? (i := 11) rfl)) (hw _ (List.mem_of_getElem? (i := 12) rfl)) (hw _ (List.mem_of_getElem? (i := 13) rfl)) e0 (by rw [hml]; rfl) (hb hby own_d2_1) (pc' := 4) rfl (by decide) (W := 0) (Nat.le_of_eq rfl) (by decide) (fun T1 X1 e1 => ?_)
  refine OwnK.iloadN X1 hx (hb hby own_d2_4) (pc' := 5) rfl (v := (2 : Int32)) rfl ?_
  refine OwnK.if_ne X1 hx (hb hby own_d2_5) (by decide) (pcT := 27) (by decide) (pc' := 8) rfl (fun hc5 => ?_) (fun (hc5 : 2 = 0) => absurd hc5 (by decide))
  refine OwnK.getS_ X1 hx hZ hown (host := "") (Or.inl (hw _ (List.mem_of_getElem? (i := 14) rfl))) Via.refl e1 (SS.ext O0.2) (hb hby own_d2_27) (pc' := 30) rfl (fun T2 X2 e2 => ?_)
  refine OwnK.if_eq X2 hx (hb hby own_d2_30) (by decide) (pcT := 58) (by decide) (pc' := 33) rfl (fun (hc30 : cs.toInt = 0) => absurd hc30 hcs) (fun hc30 => ?_)
  refine OwnK.aloadN X2 hx (hb hby own_d2_33) (pc' := 34) rfl (v := (.ref p2)) rfl rfl ?_
  refine OwnK.iloadN X2 hx (hb hby own_d2_34) (pc' := 35) rfl (v := (0 : Int32)) rfl ?_
  refine OwnK.iloadN X2 hx (hb hby own_d2_35) (pc' := 36) rfl (v := (2 : Int32)) rfl ?_
  refine OwnK.callS_ X2 hx hZ hown (y := (⟨"java/lang/StringUTF16", "compress", "([CII)[B"⟩ : MethodName)) (hw _ (List.mem_of_getElem? (i := 15) rfl)) (hw _ (List.mem_of_getElem? (i := 16) rfl)) (hw _ (List.mem_of_getElem? (i := 17) rfl)) (hw _ (List.mem_of_getElem? (i := 18) rfl)) (by decide) (own_met4_2 l Z a0 hw h0 n0 Z0 p2 _ c0 c1   Vb r_c0 r_c1 ) (by decide) (W := 0) (by decide) e2 (by rw [hml]; rfl) own_pd_18 (argsL := [(.ref p2), (.int (0 : Int32)), (.int (2 : Int32))]) rfl (S := []) rfl (Nat.le_of_eq rfl) (hb hby own_d2_36) (pc' := 39) rfl (by decide) (by decide) (fun T3 v3 L3 X3 hQ3 => ?_)
  obtain ⟨r3, kr3, rfl, N3q, K3, hr3, V3, Xb3⟩ := hQ3
  have N4 := Fr.app N0 N3q
  have q5 : p1 ≠ r3 := Nat.ne_of_lt (Nat.lt_of_lt_of_le E0.lt hr3)
  have q6 : p2 ≠ r3 := Nat.ne_of_lt (Nat.lt_of_lt_of_le Vb.lt hr3)
  have ge_r3 : n0 ≤ r3 := Nat.le_trans Z0 hr3
  have sz_r3 : h0.size ≤ r3 := Nat.le_trans K0.1 hr3
  have f7 := E0.keep K3
  have f8 := F0.keep K3 nin0
  have f9 := F1.keep K3 nin0
  have f10 := Vb.keep K3 nin0
  have f11 := F2.keep K3 nin0
  have f12 := F3.keep K3 nin0
  have z13 : n0 ≤ T3.heap.size := Nat.le_trans Z0 K3.1
  have O14 := O0.keep K3 all0
  have K15 := K0.trans K3 all0
  refine OwnK.astore X3 hx (hb hby own_d2_39) (pc' := 41) rfl rfl (Ls' := #[.val (.ref p1), .val (.ref p2), .val (.int (0 : Int32)), .val (.int (2 : Int32)), .val .null, .val (.ref r3)]) rfl ?_
  refine OwnK.aloadN X3 hx (hb hby own_d2_41) (pc' := 42) rfl (v := (.ref p1)) rfl rfl ?_
  refine OwnK.aload X3 hx (hb hby own_d2_42) (pc' := 44) rfl (v := (.ref r3)) rfl rfl ?_
  refine OwnK.iloadN X3 hx (hb hby own_d2_44) (pc' := 45) rfl (v := (2 : Int32)) rfl ?_
  refine OwnK.callS_ X3 hx hZ hown (y := (⟨"java/lang/StringUTF16", "coderFromArrayLen", "([BI)B"⟩ : MethodName)) (hw _ (List.mem_of_getElem? (i := 23) rfl)) (hw _ (List.mem_of_getElem? (i := 24) rfl)) (hw _ (List.mem_of_getElem? (i := 17) rfl)) (hw _ (List.mem_of_getElem? (i := 25) rfl)) (by decide) (own_met6_2 l Z a0 hw T3.heap r3 _ _ V3 ) (by decide) (W := 1) (by decide) rfl (by rw [hml]; rfl) own_pd_15 (argsL := [(.ref r3), (.int (2 : Int32))]) rfl (S := [(.ref p1)]) rfl (Nat.le_of_eq rfl) (hb hby own_d2_45) (pc' := 48) rfl (by decide) (by decide) (fun T16 v16 L16 X16 hQ16 => ?_)
  obtain ⟨rfl, e16, rfl⟩ := hQ16
  have N17 := Fr.app N4 (Fr.nil n0)
  refine OwnK.putF_ X16 hx hZ hown (hw _ (List.mem_of_getElem? (i := 26) rfl)) Via.refl e16 f9 f7 (Or.inr ⟨(hw _ (List.mem_of_getElem? (i := 27) rfl)), rfl, hnm⟩) (hw _ (List.mem_of_getElem? (i := 2) rfl)) (ty := .byte) (by decide) (v' := (.int (0 : Int32))) (by first | rfl | decide) (by first | rfl | decide) (hb hby own_d2_48) (pc' := 51) rfl (fun T18 h18 X18 e18 W18 => ?_)
  have f19 := f9.same W18
  have f20 := f7.wr W18
  have f21 := f8.other W18 (Or.inr (slot_ne (Or.inr (hw _ (List.mem_of_getElem? (i := 29) rfl))) (Or.inr (hw _ (List.mem_of_getElem? (i := 27) rfl))) (by decide) (t := (.array .byte)) (t' := .byte) (by decide) (by decide)))
  have f22 := f10.other W18 (Ne.symm ne0)
  have f23 := f11.other W18 (Or.inr (slot_ne (Or.inl (hw _ (List.mem_of_getElem? (i := 100) rfl))) (Or.inr (hw _ (List.mem_of_getElem? (i := 27) rfl))) (by decide) (t := .int) (t' := .byte) (by decide) (by decide)))
  have f24 := f12.other W18 (Or.inr (slot_ne (Or.inl (hw _ (List.mem_of_getElem? (i := 102) rfl))) (Or.inr (hw _ (List.mem_of_getElem? (i := 27) rfl))) (by decide) (t := .boolean) (t' := .byte) (by decide) (by decide)))
  have f25 := V3.other W18 (Ne.symm q5)
  have f26 := Xb3.wr W18
  have N27 := Fr.snoc X18 N17 ge_p1
  have K28 := K15.wr W18 (Or.inl (List.mem_of_getElem? (i := 0) rfl))
  have O29 := O14.wr W18 ge_p1
  have z30 : n0 ≤ h18.size := Nat.le_trans z13 (Keep.of_wr W18).1
  refine OwnK.aloadN X18 hx (hb hby own_d2_51) (pc' := 52) rfl (v := (.ref p1)) rfl rfl ?_
  refine OwnK.aload X18 hx (hb hby own_d2_52) (pc' := 54) rfl (v := (.ref r3)) rfl rfl ?_
  refine OwnK.putF_ X18 hx hZ hown (hw _ (List.mem_of_getElem? (i := 28) rfl)) Via.refl e18 f21 f20 (Or.inr ⟨(hw _ (List.mem_of_getElem? (i := 29) rfl)), rfl, hnm⟩) (hw _ (List.mem_of_getElem? (i := 2) rfl)) (ty := (.array .byte)) (by decide) (v' := (.ref r3)) rfl rfl (hb hby own_d2_54) (pc' := 57) rfl (fun T31 h31 X31 e31 W31 => ?_)
  have f32 := f21.same W31
  have f33 := f20.wr W31
  have f34 := f19.other W31 (Or.inr (slot_ne (Or.inr (hw _ (List.mem_of_getElem? (i := 27) rfl))) (Or.inr (hw _ (List.mem_of_getElem? (i := 29) rfl))) (by decide) (t := .byte) (t' := (.array .byte)) (by decide) (by decide)))
  have f35 := f22.other W31 (Ne.symm ne0)
  have f36 := f23.other W31 (Or.inr (slot_ne (Or.inl (hw _ (List.mem_of_getElem? (i := 100) rfl))) (Or.inr (hw _ (List.mem_of_getElem? (i := 29) rfl))) (by decide) (t := .int) (t' := (.array .byte)) (by decide) (by decide)))
  have f37 := f24.other W31 (Or.inr (slot_ne (Or.inl (hw _ (List.mem_of_getElem? (i := 102) rfl))) (Or.inr (hw _ (List.mem_of_getElem? (i := 29) rfl))) (by decide) (t := .boolean) (t' := (.array .byte)) (by decide) (by decide)))
  have f38 := f25.other W31 (Ne.symm q5)
  have f39 := f26.wr W31
  have N40 := Fr.snoc X31 N27 ge_p1
  have K41 := K28.wr W31 (Or.inl (List.mem_of_getElem? (i := 0) rfl))
  have O42 := O29.wr W31 ge_p1
  have z43 : n0 ≤ h31.size := Nat.le_trans z30 (Keep.of_wr W31).1
  refine OwnK.retV_ X31 hx hret hlk (hb hby own_d2_57) (by decide) (by decide) ?_
  rw [show T31.heap = h31 from e31]
  exact ⟨r3, _, rfl, N40, K41, ⟨f33, f34, f32, f38⟩, sz_r3, f39, f36, f37⟩
def own_Qmet1_2 (Z : State) (h0 : Heap) (n0 : Nat) (p1 : Addr) (p2 : Addr) (kA : ClassId) (c0 c1 cs : Int32) (v : Option Value) (h : Heap) (L : List Loc) : Prop := ∃ t kt, v = none ∧ Fr n0 L ∧ Keep h0 h [p1] ∧ own_Sg Z h p1 t kt (2 : Int32) [.int c0.toInt8.toInt32, .int c1.toInt8.toInt32] ∧ h0.size ≤ t ∧ Exa Z h t "[B" ∧ Fld Z h p1 "java/lang/String" "hash" "I" (.int (0 : Int32)) ∧ Fld Z h p1 "java/lang/String" "hashIsZero" "Z" (.int (0 : Int32))
set_option maxRecDepth 65536 in
set_option maxHeartbeats 40000000 in
theorem own_met1_2 (l : Launch) (Z : State) (a0 : Array Value) (hw : ∀ d ∈ tables_1, d.before a0 Z = true) (h0 : Heap) (n0 : Nat) (Z0 : n0 ≤ h0.size) (p1 : Addr) (p2 : Addr) (kA : ClassId) (c0 c1 cs : Int32) (O0 : Old Z n0 h0) (ge_p1 : n0 ≤ p1) (F2 : Fld Z h0 p1 "java/lang/String" "hash" "I" (.int (0 : Int32))) (F3 : Fld Z h0 p1 "java/lang/String" "hashIsZero" "Z" (.int (0 : Int32))) (E0 : Exa Z h0 p1 "java/lang/String") (F0 : Fld Z h0 p1 "java/lang/String" "value" "[B" .null) (F1 : Fld Z h0 p1 "java/lang/String" "coder" "B" (.int (0 : Int32))) (Vb : Arv Z h0 p2 kA .char (2 : Int32) [.int c0, .int c1] (.int (0 : Int32))) (ne0 : p1 ≠ p2) (r_c0 : 0 ≤ c0.toInt ∧ c0.toInt ≤ 255) (r_c1 : 0 ≤ c1.toInt ∧ c1.toInt ≤ 255) (hcs : ¬ cs.toInt = 0) (SS : Sta Z Z.heap "java/lang/String" "COMPACT_STRINGS" "Z" (.int cs)) :
    MetFree l (⟨"java/lang/String", "<init>", "([C)V"⟩ : MethodName) (head1 [Jvm.Cond.code (⟨"java/lang/String", "<init>", "([C)V"⟩ : MethodName) jdk_42_method_3_code 2 none] ({ frames := 3, cells := 1, slots := 2, locals := 52 } : Room)) (fun a U => a = #[(.ref p1), (.ref p2)] ∧ Z.Warmed39 U.vm ∧ U.heap = h0) (fun _ _ _ _ _ => True) (fun _ U o U' => ∃ v L, o = .returned v ∧ (own_Qmet1_2 Z h0 n0 p1 p2 kA c0 c1 cs) v U'.heap L ∧ FrameEnd U o U' L ({ frames := 3, cells := 1, slots := 2, locals := 52 } : Room).cells ({ frames := 3, cells := 1, slots := 2, locals := 52 } : Room).slots) := by
  refine OwnK.met (Q := (own_Qmet1_2 Z h0 n0 p1 p2 kA c0 c1 cs)) (C := ({ frames := 3, cells := 1, slots := 2, locals := 52 } : Room).cells) (N := ({ frames := 3, cells := 1, slots := 2, locals := 52 } : Room).slots) own_pl_1 (own_ef_1 p1 p2) ?_
  intro p e s m below meth c T0 X0 hx hZ hby hml hown hnm hret hlk e0
  have N0 := Fr.nil n0
  have K0 := Keep.refl h0 [p1]
  refine OwnK.aloadN X0 hx (hb hby own_d1_0) (pc' := 1) rfl (v := (.ref p1)) rfl rfl ?_
  refine OwnK.aloadN X0 hx (hb hby own_d1_1) (pc' := 2) rfl (v := (.ref p2)) rfl rfl ?_
  refine OwnK.iconst X0 hx (hb hby own_d1_2) (pc' := 3) rfl (v := (0 : Int32)) (by decide) ?_
  refine OwnK.aloadN X0 hx (hb hby own_d1_3) (pc' := 4) rfl (v := (.ref p2)) rfl rfl ?_
  refine OwnK.arrlen X0 hx hZ e0 Vb (hb hby own_d1_4) (pc' := 5) rfl ?_
  refine OwnK.aconstNull X0 hx (hb hby own_d1_5) (pc' := 6) rfl ?_
  refine OwnK.callI_ X0 hx hZ hown (y := (⟨"java/lang/String", "<init>", "([CIILjava/lang/Void;)V"⟩ : MethodName)) (a := p1) rfl (hw _ (List.mem_of_getElem? (i := 7) rfl)) (hw _ (List.mem_of_getElem? (i := 8) rfl)) (hw _ (List.mem_of_getElem? (i := 3) rfl)) (hw _ (List.mem_of_getElem? (i := 10) rfl)) rfl (by decide) (own_met2_2 l Z a0 hw h0 n0 Z0 p1 p2 _ c0 c1 cs O0 ge_p1 F2 F3 E0 F0 F1 Vb ne0 r_c0 r_c1 hcs SS ) (by decide) (W := 0) (by decide) e0 (by rw [hml]; rfl) own_pd_19 (argsL := [(.ref p2), (.int (0 : Int32)), (.int (2 : Int32)), .null]) rfl (S := []) rfl (Nat.le_of_eq rfl) (hb hby own_d1_6) (pc' := 9) rfl (by decide) (by decide) (fun T1 v1 L1 X1 hQ1 => ?_)
  obtain ⟨t1, kt1, rfl, N1q, K1, ⟨Eq1, Cq1, Vq1, Bq1⟩, hr1, Xb1, Hf1, Hz1⟩ := hQ1
  have N2 := Fr.app N0 N1q
  have q3 : p1 ≠ t1 := Nat.ne_of_lt (Nat.lt_of_lt_of_le E0.lt hr1)
  have q4 : p2 ≠ t1 := Nat.ne_of_lt (Nat.lt_of_lt_of_le Vb.lt hr1)
  have ge_t1 : n0 ≤ t1 := Nat.le_trans Z0 hr1
  have sz_t1 : h0.size ≤ t1 := Nat.le_trans K0.1 hr1
  have f5 := E0.keep K1
  have f6 := Vb.keep K1 (ninS (Ne.symm ne0) nin0)
  have z7 : n0 ≤ T1.heap.size := Nat.le_trans Z0 K1.1
  have O8 := O0.keep K1 (allS ge_p1 all0)
  have K9 := K0.trans K1 (allS (Or.inl (List.mem_of_getElem? (i := 0) rfl)) all0)
  refine OwnK.retV_ X1 hx hret hlk (hb hby own_d1_9) (by decide) (by decide) ?_
  exact ⟨t1, _, rfl, N2, K9, ⟨Eq1, Cq1, Vq1, Bq1⟩, sz_t1, Xb1, Hf1, Hz1⟩
def own_Qmet26 (h0 : Heap) (p1 : Addr) (p2 : Addr) (kA kB : ClassId) (za x0 x1 zb y0 y1 : Int32) (v : Option Value) (h : Heap) (L : List Loc) : Prop := v = some (.int (own_eqI za.toInt x0.toInt x1.toInt zb.toInt y0.toInt y1.toInt)) ∧ h = h0 ∧ L = []
set_option maxRecDepth 65536 in
set_option maxHeartbeats 40000000 in
theorem own_met26 (l : Launch) (Z : State) (a0 : Array Value) (hw : ∀ d ∈ tables_1, d.before a0 Z = true) (h0 : Heap) (p1 : Addr) (p2 : Addr) (kA kB : ClassId) (za x0 x1 zb y0 y1 : Int32) (Va : Arv Z h0 p1 kA .byte za [.int x0, .int x1] (.int (0 : Int32))) (Vb : Arv Z h0 p2 kB .byte zb [.int y0, .int y1] (.int (0 : Int32))) (hz : za.toInt ≤ 2) :
    MetFree l (⟨"java/lang/StringLatin1", "equals", "([B[B)Z"⟩ : MethodName) (head1 [Jvm.Cond.code (⟨"java/lang/StringLatin1", "equals", "([B[B)Z"⟩ : MethodName) jdk_43_method_13_code 3 (some .boolean)] ({ frames := 0, cells := 0, slots := 0, locals := 0 } : Room)) (fun a U => a = #[(.ref p1), (.ref p2)] ∧ Z.Warmed39 U.vm ∧ U.heap = h0) (fun _ _ _ _ _ => True) (fun _ U o U' => ∃ v L, o = .returned v ∧ (own_Qmet26 h0 p1 p2 kA kB za x0 x1 zb y0 y1) v U'.heap L ∧ FrameEnd U o U' L ({ frames := 0, cells := 0, slots := 0, locals := 0 } : Room).cells ({ frames := 0, cells := 0, slots := 0, locals := 0 } : Room).slots) := by
  refine OwnK.met (Q := (own_Qmet26 h0 p1 p2 kA kB za x0 x1 zb y0 y1)) (C := ({ frames := 0, cells := 0, slots := 0, locals := 0 } : Room).cells) (N := ({ frames := 0, cells := 0, slots := 0, locals := 0 } : Room).slots) own_pl_26 (own_ef_26 p1 p2) ?_
  intro p e s m below meth c T0 X0 hx hZ hby hml hown hnm hret hlk e0
  have lit0 : (0 : Int32).toInt = 0 := by decide
  have lit1 : (1 : Int32).toInt = 1 := by decide
  have lit2 : (2 : Int32).toInt = 2 := by decide
  refine OwnK.aloadN X0 hx (hb hby own_d26_0) (pc' := 1) rfl (v := (.ref p1)) rfl rfl ?_
  refine OwnK.arrlen X0 hx hZ e0 Va (hb hby own_d26_1) (pc' := 2) rfl ?_
  refine OwnK.aloadN X0 hx (hb hby own_d26_2) (pc' := 3) rfl (v := (.ref p2)) rfl rfl ?_
  refine OwnK.arrlen X0 hx hZ e0 Vb (hb hby own_d26_3) (pc' := 4) rfl ?_
  refine OwnK.icmp_ne X0 hx (hb hby own_d26_4) (by decide) (pcT := 34) (by decide) (pc' := 7) rfl (fun (hc1 : ¬ za.toInt = zb.toInt) => ?_) (fun (hc1 : za.toInt = zb.toInt) => ?_)
  · refine OwnK.iconst X0 hx (hb hby own_d26_34) (pc' := 35) rfl (v := (0 : Int32)) (by decide) ?_
    refine OwnK.retN_ X0 hx hret (by simp) hlk (hb hby own_d26_35) (by decide) (by decide) ?_
    exact ⟨by rw [own_nar0, own_eq0 (by omega)], e0, rfl⟩
  · refine OwnK.iconst X0 hx (hb hby own_d26_7) (pc' := 8) rfl (v := (0 : Int32)) (by decide) ?_
    refine OwnK.istoreN X0 hx (hb hby own_d26_8) (pc' := 9) rfl (Ls' := #[.val (.ref p1), .val (.ref p2), .val (.int (0 : Int32))]) rfl ?_
    refine OwnK.iloadN X0 hx (hb hby own_d26_9) (pc' := 10) rfl (v := (0 : Int32)) rfl ?_
    refine OwnK.aloadN X0 hx (hb hby own_d26_10) (pc' := 11) rfl (v := (.ref p1)) rfl rfl ?_
    refine OwnK.arrlen X0 hx hZ e0 Va (hb hby own_d26_11) (pc' := 12) rfl ?_
    refine OwnK.icmp_ge X0 hx (hb hby own_d26_12) (by decide) (pcT := 32) (by decide) (pc' := 15) rfl (fun (hc2 : za.toInt ≤ 0) => ?_) (fun (hc2 : 0 < za.toInt) => ?_)
    · refine OwnK.iconst X0 hx (hb hby own_d26_32) (pc' := 33) rfl (v := (1 : Int32)) (by decide) ?_
      refine OwnK.retN_ X0 hx hret (by simp) hlk (hb hby own_d26_33) (by decide) (by decide) ?_
      exact ⟨by rw [own_nar1, own_eq1 (by omega)], e0, rfl⟩
    · refine OwnK.aloadN X0 hx (hb hby own_d26_15) (pc' := 16) rfl (v := (.ref p1)) rfl rfl ?_
      refine OwnK.iloadN X0 hx (hb hby own_d26_16) (pc' := 17) rfl (v := (0 : Int32)) rfl ?_
      refine OwnK.baload X0 hx hZ e0 Va (by decide) (by first | decide | omega) (v := (.int x0)) rfl (hb hby own_d26_17) (pc' := 18) rfl ?_
      refine OwnK.aloadN X0 hx (hb hby own_d26_18) (pc' := 19) rfl (v := (.ref p2)) rfl rfl ?_
      refine OwnK.iloadN X0 hx (hb hby own_d26_19) (pc' := 20) rfl (v := (0 : Int32)) rfl ?_
      refine OwnK.baload X0 hx hZ e0 Vb (by decide) (by first | decide | omega) (v := (.int y0)) rfl (hb hby own_d26_20) (pc' := 21) rfl ?_
      refine OwnK.icmp_eq X0 hx (hb hby own_d26_21) (by decide) (pcT := 26) (by decide) (pc' := 24) rfl (fun (hc3 : x0.toInt = y0.toInt) => ?_) (fun (hc3 : ¬ x0.toInt = y0.toInt) => ?_)
      · refine OwnK.iincL X0 hx (hb hby own_d26_26) (pc' := 29) rfl (x := (0 : Int32)) rfl (v := (1 : Int32)) (by decide) (Ls' := #[.val (.ref p1), .val (.ref p2), .val (.int (1 : Int32))]) rfl ?_
        refine OwnK.goto_ X0 hx (hb hby own_d26_29) (by decide) (pc' := 9) (by decide) ?_
        refine OwnK.iloadN X0 hx (hb hby own_d26_9) (pc' := 10) rfl (v := (1 : Int32)) rfl ?_
        refine OwnK.aloadN X0 hx (hb hby own_d26_10) (pc' := 11) rfl (v := (.ref p1)) rfl rfl ?_
        refine OwnK.arrlen X0 hx hZ e0 Va (hb hby own_d26_11) (pc' := 12) rfl ?_
        refine OwnK.icmp_ge X0 hx (hb hby own_d26_12) (by decide) (pcT := 32) (by decide) (pc' := 15) rfl (fun (hc4 : za.toInt ≤ 1) => ?_) (fun (hc4 : 1 < za.toInt) => ?_)
        · refine OwnK.iconst X0 hx (hb hby own_d26_32) (pc' := 33) rfl (v := (1 : Int32)) (by decide) ?_
          refine OwnK.retN_ X0 hx hret (by simp) hlk (hb hby own_d26_33) (by decide) (by decide) ?_
          exact ⟨by rw [own_nar1, own_eq1 (by omega)], e0, rfl⟩
        · refine OwnK.aloadN X0 hx (hb hby own_d26_15) (pc' := 16) rfl (v := (.ref p1)) rfl rfl ?_
          refine OwnK.iloadN X0 hx (hb hby own_d26_16) (pc' := 17) rfl (v := (1 : Int32)) rfl ?_
          refine OwnK.baload X0 hx hZ e0 Va (by decide) (by first | decide | omega) (v := (.int x1)) rfl (hb hby own_d26_17) (pc' := 18) rfl ?_
          refine OwnK.aloadN X0 hx (hb hby own_d26_18) (pc' := 19) rfl (v := (.ref p2)) rfl rfl ?_
          refine OwnK.iloadN X0 hx (hb hby own_d26_19) (pc' := 20) rfl (v := (1 : Int32)) rfl ?_
          refine OwnK.baload X0 hx hZ e0 Vb (by decide) (by first | decide | omega) (v := (.int y1)) rfl (hb hby own_d26_20) (pc' := 21) rfl ?_
          refine OwnK.icmp_eq X0 hx (hb hby own_d26_21) (by decide) (pcT := 26) (by decide) (pc' := 24) rfl (fun (hc5 : x1.toInt = y1.toInt) => ?_) (fun (hc5 : ¬ x1.toInt = y1.toInt) => ?_)
          · refine OwnK.iincL X0 hx (hb hby own_d26_26) (pc' := 29) rfl (x := (1 : Int32)) rfl (v := (2 : Int32)) (by decide) (Ls' := #[.val (.ref p1), .val (.ref p2), .val (.int (2 : Int32))]) rfl ?_
            refine OwnK.goto_ X0 hx (hb hby own_d26_29) (by decide) (pc' := 9) (by decide) ?_
            refine OwnK.iloadN X0 hx (hb hby own_d26_9) (pc' := 10) rfl (v := (2 : Int32)) rfl ?_
            refine OwnK.aloadN X0 hx (hb hby own_d26_10) (pc' := 11) rfl (v := (.ref p1)) rfl rfl ?_
            refine OwnK.arrlen X0 hx hZ e0 Va (hb hby own_d26_11) (pc' := 12) rfl ?_
            refine OwnK.icmp_ge X0 hx (hb hby own_d26_12) (by decide) (pcT := 32) (by decide) (pc' := 15) rfl (fun hc12 => ?_) (fun (hc12 : 2 < za.toInt) => by omega)
            refine OwnK.iconst X0 hx (hb hby own_d26_32) (pc' := 33) rfl (v := (1 : Int32)) (by decide) ?_
            refine OwnK.retN_ X0 hx hret (by simp) hlk (hb hby own_d26_33) (by decide) (by decide) ?_
            exact ⟨by rw [own_nar1, own_eq1 (by omega)], e0, rfl⟩
          · refine OwnK.iconst X0 hx (hb hby own_d26_24) (pc' := 25) rfl (v := (0 : Int32)) (by decide) ?_
            refine OwnK.retN_ X0 hx hret (by simp) hlk (hb hby own_d26_25) (by decide) (by decide) ?_
            exact ⟨by rw [own_nar0, own_eq0 (by omega)], e0, rfl⟩
      · refine OwnK.iconst X0 hx (hb hby own_d26_24) (pc' := 25) rfl (v := (0 : Int32)) (by decide) ?_
        refine OwnK.retN_ X0 hx hret (by simp) hlk (hb hby own_d26_25) (by decide) (by decide) ?_
        exact ⟨by rw [own_nar0, own_eq0 (by omega)], e0, rfl⟩
def own_Qmet21 (h0 : Heap) (p1 : Addr) (p2 : Addr) (n0 : Nat) (ta tb : Addr) (kA kB : ClassId) (za x0 x1 zb y0 y1 cs : Int32) (v : Option Value) (h : Heap) (L : List Loc) : Prop := v = some (.int (own_eqI za.toInt x0.toInt x1.toInt zb.toInt y0.toInt y1.toInt)) ∧ h = h0 ∧ L = []
set_option maxRecDepth 65536 in
set_option maxHeartbeats 40000000 in
theorem own_met21 (l : Launch) (Z : State) (a0 : Array Value) (hw : ∀ d ∈ tables_1, d.before a0 Z = true) (h0 : Heap) (p1 : Addr) (p2 : Addr) (n0 : Nat) (ta tb : Addr) (kA kB : ClassId) (za x0 x1 zb y0 y1 cs : Int32) (O0 : Old Z n0 h0) (G1 : own_Sg Z h0 p1 ta kA za [.int x0, .int x1]) (G2 : own_Sg Z h0 p2 tb kB zb [.int y0, .int y1]) (hz : za.toInt ≤ 2) (hcs : ¬ cs.toInt = 0) (SS : Sta Z Z.heap "java/lang/String" "COMPACT_STRINGS" "Z" (.int cs)) :
    MetFree l (⟨"java/lang/String", "equals", "(Ljava/lang/Object;)Z"⟩ : MethodName) (head1 [Jvm.Cond.code (⟨"java/lang/String", "equals", "(Ljava/lang/Object;)Z"⟩ : MethodName) jdk_42_method_66_code 3 (some .boolean)] ({ frames := 1, cells := 0, slots := 0, locals := 14 } : Room)) (fun a U => a = #[(.ref p1), (.ref p2)] ∧ Z.Warmed39 U.vm ∧ U.heap = h0) (fun _ _ _ _ _ => True) (fun _ U o U' => ∃ v L, o = .returned v ∧ (own_Qmet21 h0 p1 p2 n0 ta tb kA kB za x0 x1 zb y0 y1 cs) v U'.heap L ∧ FrameEnd U o U' L ({ frames := 1, cells := 0, slots := 0, locals := 14 } : Room).cells ({ frames := 1, cells := 0, slots := 0, locals := 14 } : Room).slots) := by
  refine OwnK.met (Q := (own_Qmet21 h0 p1 p2 n0 ta tb kA kB za x0 x1 zb y0 y1 cs)) (C := ({ frames := 1, cells := 0, slots := 0, locals := 14 } : Room).cells) (N := ({ frames := 1, cells := 0, slots := 0, locals := 14 } : Room).slots) own_pl_21 (own_ef_21 p1 p2) ?_
  intro p e s m below meth c T0 X0 hx hZ hby hml hown hnm hret hlk e0
  have Sa := G1
  have Sb := G2
  obtain ⟨Es1, Cs1, Vs1, Bs1⟩ := G1
  obtain ⟨Es2, Cs2, Vs2, Bs2⟩ := G2
  refine OwnK.aloadN X0 hx (hb hby own_d21_0) (pc' := 1) rfl (v := (.ref p1)) rfl rfl ?_
  refine OwnK.aloadN X0 hx (hb hby own_d21_1) (pc' := 2) rfl (v := (.ref p2)) rfl rfl ?_
  refine OwnK.acmp_ne X0 hx (hb hby own_d21_2) rfl rfl (by decide) (pcT := 7) (by decide) (pc' := 5) rfl (fun (hc3 : ¬ ((.ref p1) : Value) = (.ref p2)) => ?_) (fun (hc3 : ((.ref p1) : Value) = (.ref p2)) => ?_)
  · refine OwnK.aloadN X0 hx (hb hby own_d21_7) (pc' := 8) rfl (v := (.ref p2)) rfl rfl ?_
    refine OwnK.instYes X0 hx hZ hown (hw _ (List.mem_of_getElem? (i := 37) rfl)) e0 (Ins.self Es2) (hb hby own_d21_8) (pc' := 11) rfl (fun T4 X4 e4 => ?_)
    refine OwnK.if_eq X4 hx (hb hby own_d21_11) (by decide) (pcT := 54) (by decide) (pc' := 14) rfl (fun (hc11 : 1 = 0) => absurd hc11 (by decide)) (fun hc11 => ?_)
    refine OwnK.aloadN X4 hx (hb hby own_d21_14) (pc' := 15) rfl (v := (.ref p2)) rfl rfl ?_
    refine OwnK.cast_ X4 hx hZ hown (hw _ (List.mem_of_getElem? (i := 37) rfl)) e4 (Ins.self Es2) (hb hby own_d21_15) (pc' := 18) rfl (fun T5 X5 e5 => ?_)
    refine OwnK.astoreN X5 hx (hb hby own_d21_18) (pc' := 19) rfl rfl (Ls' := #[.val (.ref p1), .val (.ref p2), .val (.ref p2)]) rfl ?_
    refine OwnK.getS_ X5 hx hZ hown (host := "") (Or.inl (hw _ (List.mem_of_getElem? (i := 14) rfl))) Via.refl e5 (SS.ext O0.2) (hb hby own_d21_19) (pc' := 22) rfl (fun T6 X6 e6 => ?_)
    refine OwnK.if_eq X6 hx (hb hby own_d21_22) (by decide) (pcT := 36) (by decide) (pc' := 25) rfl (fun (hc22 : cs.toInt = 0) => absurd hc22 hcs) (fun hc22 => ?_)
    refine OwnK.aloadN X6 hx (hb hby own_d21_25) (pc' := 26) rfl (v := (.ref p1)) rfl rfl ?_
    refine OwnK.getF_ X6 hx hZ hown (host := "") (Or.inl (hw _ (List.mem_of_getElem? (i := 26) rfl))) Via.refl e6 Cs1 (hb hby own_d21_26) (pc' := 29) rfl (fun T7 X7 e7 => ?_)
    refine OwnK.aloadN X7 hx (hb hby own_d21_29) (pc' := 30) rfl (v := (.ref p2)) rfl rfl ?_
    refine OwnK.getF_ X7 hx hZ hown (host := "") (Or.inl (hw _ (List.mem_of_getElem? (i := 26) rfl))) Via.refl e7 Cs2 (hb hby own_d21_30) (pc' := 33) rfl (fun T8 X8 e8 => ?_)
    refine OwnK.icmp_ne X8 hx (hb hby own_d21_33) (by decide) (pcT := 54) (by decide) (pc' := 36) rfl (fun (hc33 : ¬ 0 = 0) => absurd hc33 (by decide)) (fun hc33 => ?_)
    refine OwnK.aloadN X8 hx (hb hby own_d21_36) (pc' := 37) rfl (v := (.ref p1)) rfl rfl ?_
    refine OwnK.getF_ X8 hx hZ hown (host := "") (Or.inl (hw _ (List.mem_of_getElem? (i := 28) rfl))) Via.refl e8 Vs1 (hb hby own_d21_37) (pc' := 40) rfl (fun T9 X9 e9 => ?_)
    refine OwnK.aloadN X9 hx (hb hby own_d21_40) (pc' := 41) rfl (v := (.ref p2)) rfl rfl ?_
    refine OwnK.getF_ X9 hx hZ hown (host := "") (Or.inl (hw _ (List.mem_of_getElem? (i := 28) rfl))) Via.refl e9 Vs2 (hb hby own_d21_41) (pc' := 44) rfl (fun T10 X10 e10 => ?_)
    refine OwnK.callS_ X10 hx hZ hown (y := (⟨"java/lang/StringLatin1", "equals", "([B[B)Z"⟩ : MethodName)) (hw _ (List.mem_of_getElem? (i := 144) rfl)) (hw _ (List.mem_of_getElem? (i := 145) rfl)) (hw _ (List.mem_of_getElem? (i := 35) rfl)) (hw _ (List.mem_of_getElem? (i := 146) rfl)) (by decide) (own_met26 l Z a0 hw h0 ta tb _ _ za x0 x1 zb y0 y1 Bs1 Bs2 hz ) (by decide) (W := 0) (by decide) e10 (by rw [hml]; rfl) own_pd_16 (argsL := [(.ref ta), (.ref tb)]) rfl (S := []) rfl (Nat.le_of_eq rfl) (hb hby own_d21_44) (pc' := 47) rfl (by decide) (by decide) (fun T11 v11 L11 X11 hQ11 => ?_)
    obtain ⟨rfl, e11, rfl⟩ := hQ11
    refine OwnK.if_eq X11 hx (hb hby own_d21_47) (by decide) (pcT := 54) (by decide) (pc' := 50) rfl (fun (hc13 : (own_eqI za.toInt x0.toInt x1.toInt zb.toInt y0.toInt y1.toInt).toInt = 0) => ?_) (fun (hc13 : ¬ (own_eqI za.toInt x0.toInt x1.toInt zb.toInt y0.toInt y1.toInt).toInt = 0) => ?_)
    · refine OwnK.iconst X11 hx (hb hby own_d21_54) (pc' := 55) rfl (v := (0 : Int32)) (by decide) ?_
      refine OwnK.retN_ X11 hx hret (by simp) hlk (hb hby own_d21_55) (by decide) (by decide) ?_
      exact ⟨own_eqz (by assumption), e11, rfl⟩
    · refine OwnK.iconst X11 hx (hb hby own_d21_50) (pc' := 51) rfl (v := (1 : Int32)) (by decide) ?_
      refine OwnK.goto_ X11 hx (hb hby own_d21_51) (by decide) (pc' := 55) (by decide) ?_
      refine OwnK.retN_ X11 hx hret (by simp) hlk (hb hby own_d21_55) (by decide) (by decide) ?_
      exact ⟨own_eqn (by assumption), e11, rfl⟩
  · refine OwnK.iconst X0 hx (hb hby own_d21_5) (pc' := 6) rfl (v := (1 : Int32)) (by decide) ?_
    refine OwnK.retN_ X0 hx hret (by simp) hlk (hb hby own_d21_6) (by decide) (by decide) ?_
    exact ⟨by rw [own_nar1, own_eq1 (own_same hc3 Sa Sb)], e0, rfl⟩
def own_Qmet8 (h0 : Heap) (p1 : Int32) (v : Option Value) (h : Heap) (L : List Loc) : Prop := v = some (.int (1 : Int32)) ∧ h = h0 ∧ L = []
set_option maxRecDepth 65536 in
set_option maxHeartbeats 40000000 in
theorem own_met8 (l : Launch) (Z : State) (a0 : Array Value) (hw : ∀ d ∈ tables_1, d.before a0 Z = true) (h0 : Heap) (p1 : Int32)  (rg : 0 ≤ p1.toInt ∧ p1.toInt ≤ 255) :
    MetFree l (⟨"java/lang/StringLatin1", "canEncode", "(C)Z"⟩ : MethodName) (head1 [Jvm.Cond.code (⟨"java/lang/StringLatin1", "canEncode", "(C)Z"⟩ : MethodName) jdk_43_method_3_code 1 (some .boolean)] ({ frames := 0, cells := 0, slots := 0, locals := 0 } : Room)) (fun a U => a = #[(.int p1)] ∧ Z.Warmed39 U.vm ∧ U.heap = h0) (fun _ _ _ _ _ => True) (fun _ U o U' => ∃ v L, o = .returned v ∧ (own_Qmet8 h0 p1 ) v U'.heap L ∧ FrameEnd U o U' L ({ frames := 0, cells := 0, slots := 0, locals := 0 } : Room).cells ({ frames := 0, cells := 0, slots := 0, locals := 0 } : Room).slots) := by
  refine OwnK.met (Q := (own_Qmet8 h0 p1 )) (C := ({ frames := 0, cells := 0, slots := 0, locals := 0 } : Room).cells) (N := ({ frames := 0, cells := 0, slots := 0, locals := 0 } : Room).slots) own_pl_8 (own_ef_8 p1) ?_
  intro p e s m below meth c T0 X0 hx hZ hby hml hown hnm hret hlk e0
  have lit255 : (255 : Int32).toInt = 255 := by decide
  refine OwnK.iloadN X0 hx (hb hby own_d8_0) (pc' := 1) rfl (v := p1) rfl ?_
  refine OwnK.sipush X0 hx (hb hby own_d8_1) (pc' := 4) rfl (v := (255 : Int32)) (by decide) ?_
  refine OwnK.icmp_gt X0 hx (hb hby own_d8_4) (by decide) (pcT := 11) (by decide) (pc' := 7) rfl (fun (hc4 : 255 < p1.toInt) => by omega) (fun hc4 => ?_)
  refine OwnK.iconst X0 hx (hb hby own_d8_7) (pc' := 8) rfl (v := (1 : Int32)) (by decide) ?_
  refine OwnK.goto_ X0 hx (hb hby own_d8_8) (by decide) (pc' := 12) (by decide) ?_
  refine OwnK.retN_ X0 hx hret (by simp) hlk (hb hby own_d8_12) (by decide) (by decide) ?_
  exact ⟨by rw [own_nar1], e0, rfl⟩
def own_Qmet9 (Z : State) (h0 : Heap) (n0 : Nat) (p1 : Int32) (v : Option Value) (h : Heap) (L : List Loc) : Prop := ∃ r kR, v = some (.ref r) ∧ Fr n0 L ∧ Keep h0 h [] ∧ h0.size ≤ r ∧ Arv Z h r kR .byte (1 : Int32) [.int p1.toInt8.toInt32] (.int (0 : Int32)) ∧ Exa Z h r "[B"
set_option maxRecDepth 65536 in
set_option maxHeartbeats 40000000 in
theorem own_met9 (l : Launch) (Z : State) (a0 : Array Value) (hw : ∀ d ∈ tables_1, d.before a0 Z = true) (h0 : Heap) (n0 : Nat) (Z0 : n0 ≤ h0.size) (p1 : Int32)  :
    MetFree l (⟨"java/lang/StringLatin1", "toBytes", "(C)[B"⟩ : MethodName) (head1 [Jvm.Cond.code (⟨"java/lang/StringLatin1", "toBytes", "(C)[B"⟩ : MethodName) jdk_43_method_46_code 1 (some (.array .byte))] ({ frames := 0, cells := 1, slots := 1, locals := 0 } : Room)) (fun a U => a = #[(.int p1)] ∧ Z.Warmed39 U.vm ∧ U.heap = h0) (fun _ _ _ _ _ => True) (fun _ U o U' => ∃ v L, o = .returned v ∧ (own_Qmet9 Z h0 n0 p1 ) v U'.heap L ∧ FrameEnd U o U' L ({ frames := 0, cells := 1, slots := 1, locals := 0 } : Room).cells ({ frames := 0, cells := 1, slots := 1, locals := 0 } : Room).slots) := by
  refine OwnK.met (Q := (own_Qmet9 Z h0 n0 p1 )) (C := ({ frames := 0, cells := 1, slots := 1, locals := 0 } : Room).cells) (N := ({ frames := 0, cells := 1, slots := 1, locals := 0 } : Room).slots) own_pl_9 (own_ef_9 p1) ?_
  intro p e s m below meth c T0 X0 hx hZ hby hml hown hnm hret hlk e0
  have N0 := Fr.nil n0
  have K0 := Keep.refl h0 []
  refine OwnK.iconst X0 hx (hb hby own_d9_0) (pc' := 1) rfl (v := (1 : Int32)) (by decide) ?_
  refine OwnK.newP_ X0 hx hZ (hw _ (List.mem_of_getElem? (i := 19) rfl)) e0 (hb hby own_d9_1) (pc' := 3) rfl (n := (1 : Int32)) (by decide) (cap := 1) (by decide) (by decide) (by decide) (by decide) (ad := "[B") (by decide) (fun T1 h1 a1 k1 X1 e1 g1 E1 V1 Q1 => ?_)
  have ge_a1 : n0 ≤ a1 := Nat.le_trans Z0 (Nat.le_of_eq g1.symm)
  have sz_a1 : h0.size ≤ a1 := Nat.le_trans K0.1 (Nat.le_of_eq g1.symm)
  have z2 : n0 ≤ h1.size := Nat.le_trans Z0 E1.1
  have K3 := K0.ext E1
  have f4 : Arv Z h1 a1 k1 .byte (1 : Int32) [(.int (0 : Int32))] (.int (0 : Int32)) := V1.pad (pad_rep [] (.int (0 : Int32)) 1)
  refine OwnK.dup X1 hx (hb hby own_d9_3) (pc' := 4) rfl rfl ?_
  refine OwnK.iconst X1 hx (hb hby own_d9_4) (pc' := 5) rfl (v := (0 : Int32)) (by decide) ?_
  refine OwnK.iloadN X1 hx (hb hby own_d9_5) (pc' := 6) rfl (v := p1) rfl ?_
  refine OwnK.i2b X1 hx (hb hby own_d9_6) (pc' := 7) rfl ?_
  refine OwnK.bastore X1 hx hZ e1 f4 (i := 0) (by decide) (by first | decide | omega) (Nat.le_of_ble_eq_true rfl) (hb hby own_d9_7) (pc' := 8) rfl (fun T5 h5 X5 e5 W5 V5 => ?_)
  have f6 := Q1.wr W5
  have f7 : Arv Z h5 a1 _ .byte (1 : Int32) [(.int (p1.toInt8.toInt32))] (.int (0 : Int32)) := (by have q := V5; rw [own_narb] at q; exact q)
  have N8 := Fr.snoc X5 N0 ge_a1
  have K9 := K3.wr W5 (Or.inr sz_a1)
  have z10 : n0 ≤ h5.size := Nat.le_trans z2 (Keep.of_wr W5).1
  refine OwnK.retA_ X5 hx hret rfl rfl hlk (hb hby own_d9_8) (by decide) (by decide) ?_
  rw [show T5.heap = h5 from e5]
  exact ⟨a1, _, rfl, N8, K9, sz_a1, f7, f6⟩
def own_Qmet10 (Z : State) (h0 : Heap) (n0 : Nat) (p1 : Addr) (p2 : Addr) (v : Option Value) (h : Heap) (L : List Loc) : Prop := v = none ∧ Fr n0 L ∧ Keep h0 h [p1] ∧ Exa Z h p1 "java/lang/String" ∧ Fld Z h p1 "java/lang/String" "value" "[B" (.ref p2) ∧ Fld Z h p1 "java/lang/String" "coder" "B" (.int (0 : Int32)) ∧ Fld Z h p1 "java/lang/String" "hash" "I" (.int (0 : Int32)) ∧ Fld Z h p1 "java/lang/String" "hashIsZero" "Z" (.int (0 : Int32))
set_option maxRecDepth 65536 in
set_option maxHeartbeats 40000000 in
theorem own_met10 (l : Launch) (Z : State) (a0 : Array Value) (hw : ∀ d ∈ tables_1, d.before a0 Z = true) (h0 : Heap) (n0 : Nat) (Z0 : n0 ≤ h0.size) (p1 : Addr) (p2 : Addr)  (ge_p1 : n0 ≤ p1) (E0 : Exa Z h0 p1 "java/lang/String") (F_value : Fld Z h0 p1 "java/lang/String" "value" "[B" .null) (F_coder : Fld Z h0 p1 "java/lang/String" "coder" "B" (.int (0 : Int32))) (F_hash : Fld Z h0 p1 "java/lang/String" "hash" "I" (.int (0 : Int32))) (F_hashIsZero : Fld Z h0 p1 "java/lang/String" "hashIsZero" "Z" (.int (0 : Int32))) :
    MetFree l (⟨"java/lang/String", "<init>", "([BB)V"⟩ : MethodName) (head1 [Jvm.Cond.code (⟨"java/lang/String", "<init>", "([BB)V"⟩ : MethodName) jdk_42_method_151_code 3 none] ({ frames := 1, cells := 0, slots := 0, locals := 12 } : Room)) (fun a U => a = #[(.ref p1), (.ref p2), (.int (0 : Int32))] ∧ Z.Warmed39 U.vm ∧ U.heap = h0) (fun _ _ _ _ _ => True) (fun _ U o U' => ∃ v L, o = .returned v ∧ (own_Qmet10 Z h0 n0 p1 p2 ) v U'.heap L ∧ FrameEnd U o U' L ({ frames := 1, cells := 0, slots := 0, locals := 12 } : Room).cells ({ frames := 1, cells := 0, slots := 0, locals := 12 } : Room).slots) := by
  refine OwnK.met (Q := (own_Qmet10 Z h0 n0 p1 p2 )) (C := ({ frames := 1, cells := 0, slots := 0, locals := 12 } : Room).cells) (N := ({ frames := 1, cells := 0, slots := 0, locals := 12 } : Room).slots) own_pl_10 (own_ef_10_0 p1 p2) ?_
  intro p e s m below meth c T0 X0 hx hZ hby hml hown hnm hret hlk e0
  have N0 := Fr.nil n0
  have K0 := Keep.refl h0 [p1]
  refine OwnK.aloadN X0 hx (hb hby own_d10_0) (pc' := 1) rfl (v := (.ref p1)) rfl rfl ?_
  refine OwnK.initO_ X0 hx hZ hown (hw _ (List.mem_of_getElem? (i := 11) rfl)) (hw _ (List.mem_of_getElem? (i := 12) rfl)) (hw _ (List.mem_of_getElem? (i := 13) rfl)) e0 (by rw [hml]; rfl) (hb hby own_d10_1) (pc' := 4) rfl (by decide) (W := 0) (Nat.le_of_eq rfl) (by decide) (fun T1 X1 e1 => ?_)
  refine OwnK.aloadN X1 hx (hb hby own_d10_4) (pc' := 5) rfl (v := (.ref p1)) rfl rfl ?_
  refine OwnK.aloadN X1 hx (hb hby own_d10_5) (pc' := 6) rfl (v := (.ref p2)) rfl rfl ?_
  refine OwnK.putF_ X1 hx hZ hown (hw _ (List.mem_of_getElem? (i := 28) rfl)) Via.refl e1 F_value E0 (Or.inr ⟨(hw _ (List.mem_of_getElem? (i := 29) rfl)), rfl, hnm⟩) (hw _ (List.mem_of_getElem? (i := 2) rfl)) (ty := (.array .byte)) (by decide) (v' := (.ref p2)) rfl rfl (hb hby own_d10_6) (pc' := 9) rfl (fun T2 h2 X2 e2 W2 => ?_)
  have f3 := F_value.same W2
  have f4 := E0.wr W2
  have f5 := F_coder.other W2 (Or.inr (slot_ne (Or.inr (hw _ (List.mem_of_getElem? (i := 27) rfl))) (Or.inr (hw _ (List.mem_of_getElem? (i := 29) rfl))) (by decide) (t := .byte) (t' := (.array .byte)) (by decide) (by decide)))
  have f6 := F_hash.other W2 (Or.inr (slot_ne (Or.inl (hw _ (List.mem_of_getElem? (i := 100) rfl))) (Or.inr (hw _ (List.mem_of_getElem? (i := 29) rfl))) (by decide) (t := .int) (t' := (.array .byte)) (by decide) (by decide)))
  have f7 := F_hashIsZero.other W2 (Or.inr (slot_ne (Or.inl (hw _ (List.mem_of_getElem? (i := 102) rfl))) (Or.inr (hw _ (List.mem_of_getElem? (i := 29) rfl))) (by decide) (t := .boolean) (t' := (.array .byte)) (by decide) (by decide)))
  have N8 := Fr.snoc X2 N0 ge_p1
  have K9 := K0.wr W2 (Or.inl (List.mem_of_getElem? (i := 0) rfl))
  have z10 : n0 ≤ h2.size := Nat.le_trans Z0 (Keep.of_wr W2).1
  refine OwnK.aloadN X2 hx (hb hby own_d10_9) (pc' := 10) rfl (v := (.ref p1)) rfl rfl ?_
  refine OwnK.iloadN X2 hx (hb hby own_d10_10) (pc' := 11) rfl (v := (0 : Int32)) rfl ?_
  refine OwnK.putF_ X2 hx hZ hown (hw _ (List.mem_of_getElem? (i := 26) rfl)) Via.refl e2 f5 f4 (Or.inr ⟨(hw _ (List.mem_of_getElem? (i := 27) rfl)), rfl, hnm⟩) (hw _ (List.mem_of_getElem? (i := 2) rfl)) (ty := .byte) (by decide) (v' := (.int (0 : Int32))) (by first | rfl | decide) (by first | rfl | decide) (hb hby own_d10_11) (pc' := 14) rfl (fun T11 h11 X11 e11 W11 => ?_)
  have f12 := f5.same W11
  have f13 := f4.wr W11
  have f14 := f3.other W11 (Or.inr (slot_ne (Or.inr (hw _ (List.mem_of_getElem? (i := 29) rfl))) (Or.inr (hw _ (List.mem_of_getElem? (i := 27) rfl))) (by decide) (t := (.array .byte)) (t' := .byte) (by decide) (by decide)))
  have f15 := f6.other W11 (Or.inr (slot_ne (Or.inl (hw _ (List.mem_of_getElem? (i := 100) rfl))) (Or.inr (hw _ (List.mem_of_getElem? (i := 27) rfl))) (by decide) (t := .int) (t' := .byte) (by decide) (by decide)))
  have f16 := f7.other W11 (Or.inr (slot_ne (Or.inl (hw _ (List.mem_of_getElem? (i := 102) rfl))) (Or.inr (hw _ (List.mem_of_getElem? (i := 27) rfl))) (by decide) (t := .boolean) (t' := .byte) (by decide) (by decide)))
  have N17 := Fr.snoc X11 N8 ge_p1
  have K18 := K9.wr W11 (Or.inl (List.mem_of_getElem? (i := 0) rfl))
  have z19 : n0 ≤ h11.size := Nat.le_trans z10 (Keep.of_wr W11).1
  refine OwnK.retV_ X11 hx hret hlk (hb hby own_d10_14) (by decide) (by decide) ?_
  rw [show T11.heap = h11 from e11]
  exact ⟨rfl, N17, K18, f13, f14, f12, f15, f16⟩
def own_Qmet7 (Z : State) (h0 : Heap) (n0 : Nat) (p1 : Int32) (cs : Int32) (v : Option Value) (h : Heap) (L : List Loc) : Prop := ∃ a t kt, v = some (.ref a) ∧ Fr n0 L ∧ Keep h0 h [] ∧ h0.size ≤ a ∧ h0.size ≤ t ∧ own_Sg Z h a t kt (1 : Int32) [.int p1.toInt8.toInt32] ∧ Exa Z h t "[B" ∧ Fld Z h a "java/lang/String" "hash" "I" (.int (0 : Int32)) ∧ Fld Z h a "java/lang/String" "hashIsZero" "Z" (.int (0 : Int32))
set_option maxRecDepth 65536 in
set_option maxHeartbeats 40000000 in
theorem own_met7 (l : Launch) (Z : State) (a0 : Array Value) (hw : ∀ d ∈ tables_1, d.before a0 Z = true) (h0 : Heap) (n0 : Nat) (Z0 : n0 ≤ h0.size) (p1 : Int32) (cs : Int32) (O0 : Old Z n0 h0) (rg : 0 ≤ p1.toInt ∧ p1.toInt ≤ 255) (hcs : ¬ cs.toInt = 0) (SS : Sta Z Z.heap "java/lang/String" "COMPACT_STRINGS" "Z" (.int cs)) :
    MetFree l (⟨"java/lang/String", "valueOf", "(C)Ljava/lang/String;"⟩ : MethodName) (head1 [Jvm.Cond.code (⟨"java/lang/String", "valueOf", "(C)Ljava/lang/String;"⟩ : MethodName) jdk_42_method_139_code 1 (some (.object "java/lang/String"))] ({ frames := 2, cells := 2, slots := 5, locals := 27 } : Room)) (fun a U => a = #[(.int p1)] ∧ Z.Warmed39 U.vm ∧ U.heap = h0) (fun _ _ _ _ _ => True) (fun _ U o U' => ∃ v L, o = .returned v ∧ (own_Qmet7 Z h0 n0 p1 cs) v U'.heap L ∧ FrameEnd U o U' L ({ frames := 2, cells := 2, slots := 5, locals := 27 } : Room).cells ({ frames := 2, cells := 2, slots := 5, locals := 27 } : Room).slots) := by
  refine OwnK.met (Q := (own_Qmet7 Z h0 n0 p1 cs)) (C := ({ frames := 2, cells := 2, slots := 5, locals := 27 } : Room).cells) (N := ({ frames := 2, cells := 2, slots := 5, locals := 27 } : Room).slots) own_pl_7 (own_ef_7 p1) ?_
  intro p e s m below meth c T0 X0 hx hZ hby hml hown hnm hret hlk e0
  have N0 := Fr.nil n0
  have K0 := Keep.refl h0 []
  refine OwnK.getS_ X0 hx hZ hown (host := "") (Or.inl (hw _ (List.mem_of_getElem? (i := 14) rfl))) Via.refl e0 (SS.ext O0.2) (hb hby own_d7_0) (pc' := 3) rfl (fun T1 X1 e1 => ?_)
  refine OwnK.if_eq X1 hx (hb hby own_d7_3) (by decide) (pcT := 26) (by decide) (pc' := 6) rfl (fun (hc3 : cs.toInt = 0) => absurd hc3 hcs) (fun hc3 => ?_)
  refine OwnK.iloadN X1 hx (hb hby own_d7_6) (pc' := 7) rfl (v := p1) rfl ?_
  refine OwnK.callS_ X1 hx hZ hown (y := (⟨"java/lang/StringLatin1", "canEncode", "(C)Z"⟩ : MethodName)) (hw _ (List.mem_of_getElem? (i := 33) rfl)) (hw _ (List.mem_of_getElem? (i := 34) rfl)) (hw _ (List.mem_of_getElem? (i := 35) rfl)) (hw _ (List.mem_of_getElem? (i := 36) rfl)) (by decide) (own_met8 l Z a0 hw h0 p1 rg ) (by decide) (W := 0) (by decide) e1 (by rw [hml]; rfl) own_pd_4 (argsL := [(.int p1)]) rfl (S := []) rfl (Nat.le_of_eq rfl) (hb hby own_d7_7) (pc' := 10) rfl (by decide) (by decide) (fun T2 v2 L2 X2 hQ2 => ?_)
  obtain ⟨rfl, e2, rfl⟩ := hQ2
  have N3 := Fr.app N0 (Fr.nil n0)
  refine OwnK.if_eq X2 hx (hb hby own_d7_10) (by decide) (pcT := 26) (by decide) (pc' := 13) rfl (fun (hc10 : 1 = 0) => absurd hc10 (by decide)) (fun hc10 => ?_)
  refine OwnK.new_ X2 hx hZ hown (hw _ (List.mem_of_getElem? (i := 37) rfl)) (hw _ (List.mem_of_getElem? (i := 2) rfl)) (hw _ (List.mem_of_getElem? (i := 3) rfl)) e2 (hb hby own_d7_13) (pc' := 16) rfl (by decide) (by decide) (fun T4 h4 a4 X4 e4 g4 E4 A4 D4 => ?_)
  have ge_a4 : n0 ≤ a4 := Nat.le_trans Z0 (Nat.le_of_eq g4.symm)
  have sz_a4 : h0.size ≤ a4 := Nat.le_trans K0.1 (Nat.le_of_eq g4.symm)
  have z5 : n0 ≤ h4.size := Nat.le_trans Z0 E4.1
  have K6 := K0.ext E4
  have O7 := O0.ext E4
  have f8 : Fld Z h4 a4 "java/lang/String" "coder" "B" (.int (0 : Int32)) := D4 (Or.inr (hw _ (List.mem_of_getElem? (i := 27) rfl))) (ty := .byte) (by decide)
  have f9 : Fld Z h4 a4 "java/lang/String" "value" "[B" .null := D4 (Or.inr (hw _ (List.mem_of_getElem? (i := 29) rfl))) (ty := (.array .byte)) (by decide)
  have f10 : Fld Z h4 a4 "java/lang/String" "hash" "I" (.int (0 : Int32)) := D4 (Or.inl (hw _ (List.mem_of_getElem? (i := 100) rfl))) (ty := .int) (by decide)
  have f11 : Fld Z h4 a4 "java/lang/String" "hashIsZero" "Z" (.int (0 : Int32)) := D4 (Or.inl (hw _ (List.mem_of_getElem? (i := 102) rfl))) (ty := .boolean) (by decide)
  refine OwnK.dup X4 hx (hb hby own_d7_16) (pc' := 17) rfl rfl ?_
  refine OwnK.iloadN X4 hx (hb hby own_d7_17) (pc' := 18) rfl (v := p1) rfl ?_
  refine OwnK.callS_ X4 hx hZ hown (y := (⟨"java/lang/StringLatin1", "toBytes", "(C)[B"⟩ : MethodName)) (hw _ (List.mem_of_getElem? (i := 38) rfl)) (hw _ (List.mem_of_getElem? (i := 39) rfl)) (hw _ (List.mem_of_getElem? (i := 35) rfl)) (hw _ (List.mem_of_getElem? (i := 40) rfl)) (by decide) (own_met9 l Z a0 hw h4 n0 z5 p1     ) (by decide) (W := 2) (by decide) e4 (by rw [hml]; rfl) own_pd_5 (argsL := [(.int p1)]) rfl (S := [(.ref a4), (.ref a4)]) rfl (Nat.le_of_eq rfl) (hb hby own_d7_18) (pc' := 21) rfl (by decide) (by decide) (fun T12 v12 L12 X12 hQ12 => ?_)
  obtain ⟨r12, kr12, rfl, N12q, K12, hr12, V12, Xb12⟩ := hQ12
  have N13 := Fr.app N3 N12q
  have q14 : a4 ≠ r12 := Nat.ne_of_lt (Nat.lt_of_lt_of_le A4.lt hr12)
  have ge_r12 : n0 ≤ r12 := Nat.le_trans z5 hr12
  have sz_r12 : h0.size ≤ r12 := Nat.le_trans K6.1 hr12
  have f15 := A4.keep K12
  have f16 := f8.keep K12 nin0
  have f17 := f9.keep K12 nin0
  have f18 := f10.keep K12 nin0
  have f19 := f11.keep K12 nin0
  have z20 : n0 ≤ T12.heap.size := Nat.le_trans z5 K12.1
  have O21 := O7.keep K12 all0
  have K22 := K6.trans K12 all0
  refine OwnK.iconst X12 hx (hb hby own_d7_21) (pc' := 22) rfl (v := (0 : Int32)) (by decide) ?_
  refine OwnK.callI_ X12 hx hZ hown (y := (⟨"java/lang/String", "<init>", "([BB)V"⟩ : MethodName)) (a := a4) rfl (hw _ (List.mem_of_getElem? (i := 41) rfl)) (hw _ (List.mem_of_getElem? (i := 42) rfl)) (hw _ (List.mem_of_getElem? (i := 3) rfl)) (hw _ (List.mem_of_getElem? (i := 43) rfl)) rfl (by decide) (own_met10 l Z a0 hw T12.heap n0 z20 a4 r12   ge_a4 f15 f17 f16 f18 f19 ) (by decide) (W := 1) (by decide) rfl (by rw [hml]; rfl) own_pd_14 (argsL := [(.ref r12), (.int (0 : Int32))]) rfl (S := [(.ref a4)]) rfl (Nat.le_of_eq rfl) (hb hby own_d7_22) (pc' := 25) rfl (by decide) (by decide) (fun T23 v23 L23 X23 hQ23 => ?_)
  obtain ⟨rfl, N23q, K23, Eq23, Fa23, Fb23, Fc23, Fd23⟩ := hQ23
  have N24 := Fr.app N13 N23q
  have f25 := f15.keep K23
  have f26 := V12.keep K23 (ninS (Ne.symm q14) nin0)
  have f27 := Xb12.keep K23
  have z28 : n0 ≤ T23.heap.size := Nat.le_trans z20 K23.1
  have O29 := O21.keep K23 (allS ge_a4 all0)
  have K30 := K22.trans K23 (allS (Or.inr sz_a4) all0)
  refine OwnK.retA_ X23 hx hret rfl rfl hlk (hb hby own_d7_25) (by decide) (by decide) ?_
  exact ⟨a4, r12, _, rfl, N24, K30, sz_a4, sz_r12, ⟨Eq23, Fb23, Fa23, f26⟩, f27, Fc23, Fd23⟩
def own_Qmet20 (h0 : Heap) (p2 : Addr) (kA : ClassId) (x0 x1 : Int32) (v : Option Value) (h : Heap) (L : List Loc) : Prop := v = some (.int (own_H2 x0 x1)) ∧ h = h0 ∧ L = []
set_option maxRecDepth 65536 in
set_option maxHeartbeats 40000000 in
theorem own_met20 (l : Launch) (Z : State) (a0 : Array Value) (hw : ∀ d ∈ tables_1, d.before a0 Z = true) (h0 : Heap) (p2 : Addr) (kA : ClassId) (x0 x1 : Int32) (Va : Arv Z h0 p2 kA .byte (2 : Int32) [.int x0, .int x1] (.int (0 : Int32))) (Ea : Exa Z h0 p2 "[B") :
    MetFree l (⟨"jdk/internal/util/ArraysSupport", "signedHashCode", "(I[BII)I"⟩ : MethodName) (head1 [Jvm.Cond.code (⟨"jdk/internal/util/ArraysSupport", "signedHashCode", "(I[BII)I"⟩ : MethodName) jdk_48_method_5_code 6 (some .int)] ({ frames := 0, cells := 0, slots := 0, locals := 0 } : Room)) (fun a U => a = #[(.int (0 : Int32)), (.ref p2), (.int (0 : Int32)), (.int (2 : Int32))] ∧ Z.Warmed39 U.vm ∧ U.heap = h0) (fun _ _ _ _ _ => True) (fun _ U o U' => ∃ v L, o = .returned v ∧ (own_Qmet20 h0 p2 kA x0 x1) v U'.heap L ∧ FrameEnd U o U' L ({ frames := 0, cells := 0, slots := 0, locals := 0 } : Room).cells ({ frames := 0, cells := 0, slots := 0, locals := 0 } : Room).slots) := by
  refine OwnK.met (Q := (own_Qmet20 h0 p2 kA x0 x1)) (C := ({ frames := 0, cells := 0, slots := 0, locals := 0 } : Room).cells) (N := ({ frames := 0, cells := 0, slots := 0, locals := 0 } : Room).slots) own_pl_20 (own_ef_20_0_0_2 p2) ?_
  intro p e s m below meth c T0 X0 hx hZ hby hml hown hnm hret hlk e0
  refine OwnK.iloadN X0 hx (hb hby own_d20_0) (pc' := 1) rfl (v := (0 : Int32)) rfl ?_
  refine OwnK.iloadN X0 hx (hb hby own_d20_1) (pc' := 2) rfl (v := (2 : Int32)) rfl ?_
  refine OwnK.iaddL X0 hx (hb hby own_d20_2) (pc' := 3) rfl (z := (2 : Int32)) (by decide) ?_
  refine OwnK.istore X0 hx (hb hby own_d20_3) (pc' := 5) rfl (Ls' := #[.val (.int (0 : Int32)), .val (.ref p2), .val (.int (0 : Int32)), .val (.int (2 : Int32)), .val (.int (2 : Int32)), .unset]) rfl ?_
  refine OwnK.iloadN X0 hx (hb hby own_d20_5) (pc' := 6) rfl (v := (0 : Int32)) rfl ?_
  refine OwnK.istore X0 hx (hb hby own_d20_6) (pc' := 8) rfl (Ls' := #[.val (.int (0 : Int32)), .val (.ref p2), .val (.int (0 : Int32)), .val (.int (2 : Int32)), .val (.int (2 : Int32)), .val (.int (0 : Int32))]) rfl ?_
  refine OwnK.iload X0 hx (hb hby own_d20_8) (pc' := 10) rfl (v := (0 : Int32)) rfl ?_
  refine OwnK.iload X0 hx (hb hby own_d20_10) (pc' := 12) rfl (v := (2 : Int32)) rfl ?_
  refine OwnK.icmp_ge X0 hx (hb hby own_d20_12) (by decide) (pcT := 35) (by decide) (pc' := 15) rfl (fun (hc12 : 2 ≤ 0) => absurd hc12 (by decide)) (fun hc12 => ?_)
  refine OwnK.bipush X0 hx (hb hby own_d20_15) (pc' := 17) rfl (v := (31 : Int32)) (by decide) ?_
  refine OwnK.iloadN X0 hx (hb hby own_d20_17) (pc' := 18) rfl (v := (0 : Int32)) rfl ?_
  refine OwnK.imulL X0 hx (hb hby own_d20_18) (pc' := 19) rfl (z := (0 : Int32)) (by decide) ?_
  refine OwnK.aloadN X0 hx (hb hby own_d20_19) (pc' := 20) rfl (v := (.ref p2)) rfl rfl ?_
  refine OwnK.iload X0 hx (hb hby own_d20_20) (pc' := 22) rfl (v := (0 : Int32)) rfl ?_
  refine OwnK.baload X0 hx hZ e0 Va (by decide) (by first | decide | omega) (v := (.int x0)) rfl (hb hby own_d20_22) (pc' := 23) rfl ?_
  refine OwnK.sipush X0 hx (hb hby own_d20_23) (pc' := 26) rfl (v := (255 : Int32)) (by decide) ?_
  refine OwnK.iand X0 hx (hb hby own_d20_26) (pc' := 27) rfl ?_
  refine OwnK.iadd X0 hx (hb hby own_d20_27) (pc' := 28) rfl ?_
  refine OwnK.istoreN X0 hx (hb hby own_d20_28) (pc' := 29) rfl (Ls' := #[.val (.int ((0 : Int32) + (x0 &&& (255 : Int32)))), .val (.ref p2), .val (.int (0 : Int32)), .val (.int (2 : Int32)), .val (.int (2 : Int32)), .val (.int (0 : Int32))]) rfl ?_
  refine OwnK.iincL X0 hx (hb hby own_d20_29) (pc' := 32) rfl (x := (0 : Int32)) rfl (v := (1 : Int32)) (by decide) (Ls' := #[.val (.int ((0 : Int32) + (x0 &&& (255 : Int32)))), .val (.ref p2), .val (.int (0 : Int32)), .val (.int (2 : Int32)), .val (.int (2 : Int32)), .val (.int (1 : Int32))]) rfl ?_
  refine OwnK.goto_ X0 hx (hb hby own_d20_32) (by decide) (pc' := 8) (by decide) ?_
  refine OwnK.iload X0 hx (hb hby own_d20_8) (pc' := 10) rfl (v := (1 : Int32)) rfl ?_
  refine OwnK.iload X0 hx (hb hby own_d20_10) (pc' := 12) rfl (v := (2 : Int32)) rfl ?_
  refine OwnK.icmp_ge X0 hx (hb hby own_d20_12) (by decide) (pcT := 35) (by decide) (pc' := 15) rfl (fun (hc12 : 2 ≤ 1) => absurd hc12 (by decide)) (fun hc12 => ?_)
  refine OwnK.bipush X0 hx (hb hby own_d20_15) (pc' := 17) rfl (v := (31 : Int32)) (by decide) ?_
  refine OwnK.iloadN X0 hx (hb hby own_d20_17) (pc' := 18) rfl (v := ((0 : Int32) + (x0 &&& (255 : Int32)))) rfl ?_
  refine OwnK.imul X0 hx (hb hby own_d20_18) (pc' := 19) rfl ?_
  refine OwnK.aloadN X0 hx (hb hby own_d20_19) (pc' := 20) rfl (v := (.ref p2)) rfl rfl ?_
  refine OwnK.iload X0 hx (hb hby own_d20_20) (pc' := 22) rfl (v := (1 : Int32)) rfl ?_
  refine OwnK.baload X0 hx hZ e0 Va (by decide) (by first | decide | omega) (v := (.int x1)) rfl (hb hby own_d20_22) (pc' := 23) rfl ?_
  refine OwnK.sipush X0 hx (hb hby own_d20_23) (pc' := 26) rfl (v := (255 : Int32)) (by decide) ?_
  refine OwnK.iand X0 hx (hb hby own_d20_26) (pc' := 27) rfl ?_
  refine OwnK.iadd X0 hx (hb hby own_d20_27) (pc' := 28) rfl ?_
  refine OwnK.istoreN X0 hx (hb hby own_d20_28) (pc' := 29) rfl (Ls' := #[.val (.int (((31 : Int32) * ((0 : Int32) + (x0 &&& (255 : Int32)))) + (x1 &&& (255 : Int32)))), .val (.ref p2), .val (.int (0 : Int32)), .val (.int (2 : Int32)), .val (.int (2 : Int32)), .val (.int (1 : Int32))]) rfl ?_
  refine OwnK.iincL X0 hx (hb hby own_d20_29) (pc' := 32) rfl (x := (1 : Int32)) rfl (v := (2 : Int32)) (by decide) (Ls' := #[.val (.int (((31 : Int32) * ((0 : Int32) + (x0 &&& (255 : Int32)))) + (x1 &&& (255 : Int32)))), .val (.ref p2), .val (.int (0 : Int32)), .val (.int (2 : Int32)), .val (.int (2 : Int32)), .val (.int (2 : Int32))]) rfl ?_
  refine OwnK.goto_ X0 hx (hb hby own_d20_32) (by decide) (pc' := 8) (by decide) ?_
  refine OwnK.iload X0 hx (hb hby own_d20_8) (pc' := 10) rfl (v := (2 : Int32)) rfl ?_
  refine OwnK.iload X0 hx (hb hby own_d20_10) (pc' := 12) rfl (v := (2 : Int32)) rfl ?_
  refine OwnK.icmp_ge X0 hx (hb hby own_d20_12) (by decide) (pcT := 35) (by decide) (pc' := 15) rfl (fun hc12 => ?_) (fun (hc12 : 2 < 2) => absurd hc12 (by decide))
  refine OwnK.iloadN X0 hx (hb hby own_d20_35) (pc' := 36) rfl (v := (((31 : Int32) * ((0 : Int32) + (x0 &&& (255 : Int32)))) + (x1 &&& (255 : Int32)))) rfl ?_
  refine OwnK.retI_ X0 hx hret hlk (hb hby own_d20_36) (by decide) (by decide) ?_
  exact ⟨by rfl, e0, rfl⟩
def own_Qmet19 (h0 : Heap) (p1 : Addr) (kA : ClassId) (x0 x1 : Int32) (v : Option Value) (h : Heap) (L : List Loc) : Prop := v = some (.int (own_H2 x0 x1)) ∧ h = h0 ∧ L = []
set_option maxRecDepth 65536 in
set_option maxHeartbeats 40000000 in
theorem own_met19 (l : Launch) (Z : State) (a0 : Array Value) (hw : ∀ d ∈ tables_1, d.before a0 Z = true) (h0 : Heap) (p1 : Addr) (kA : ClassId) (x0 x1 : Int32) (Va : Arv Z h0 p1 kA .byte (2 : Int32) [.int x0, .int x1] (.int (0 : Int32))) (Ea : Exa Z h0 p1 "[B") :
    MetFree l (⟨"jdk/internal/util/ArraysSupport", "vectorizedHashCode", "(Ljava/lang/Object;IIII)I"⟩ : MethodName) (head1 [Jvm.Cond.code (⟨"jdk/internal/util/ArraysSupport", "vectorizedHashCode", "(Ljava/lang/Object;IIII)I"⟩ : MethodName) jdk_48_method_4_code 5 (some .int)] ({ frames := 1, cells := 0, slots := 0, locals := 17 } : Room)) (fun a U => a = #[(.ref p1), (.int (0 : Int32)), (.int (2 : Int32)), (.int (0 : Int32)), (.int (4 : Int32))] ∧ Z.Warmed39 U.vm ∧ U.heap = h0) (fun _ _ _ _ _ => True) (fun _ U o U' => ∃ v L, o = .returned v ∧ (own_Qmet19 h0 p1 kA x0 x1) v U'.heap L ∧ FrameEnd U o U' L ({ frames := 1, cells := 0, slots := 0, locals := 17 } : Room).cells ({ frames := 1, cells := 0, slots := 0, locals := 17 } : Room).slots) := by
  refine OwnK.met (Q := (own_Qmet19 h0 p1 kA x0 x1)) (C := ({ frames := 1, cells := 0, slots := 0, locals := 17 } : Room).cells) (N := ({ frames := 1, cells := 0, slots := 0, locals := 17 } : Room).slots) own_pl_19 (own_ef_19_0_2_0_4 p1) ?_
  intro p e s m below meth c T0 X0 hx hZ hby hml hown hnm hret hlk e0
  refine OwnK.iload X0 hx (hb hby own_d19_0) (pc' := 2) rfl (v := (4 : Int32)) rfl ?_
  refine OwnK.tswIn_ X0 hx (off := 42) (hb hby own_d19_2) (by decide) (by decide) (by decide) (pc' := 44) (by decide) ?_
  refine OwnK.iloadN X0 hx (hb hby own_d19_44) (pc' := 45) rfl (v := (0 : Int32)) rfl ?_
  refine OwnK.aloadN X0 hx (hb hby own_d19_45) (pc' := 46) rfl (v := (.ref p1)) rfl rfl ?_
  refine OwnK.cast_ X0 hx hZ hown (hw _ (List.mem_of_getElem? (i := 115) rfl)) e0 (Ins.self Ea) (hb hby own_d19_46) (pc' := 49) rfl (fun T1 X1 e1 => ?_)
  refine OwnK.iloadN X1 hx (hb hby own_d19_49) (pc' := 50) rfl (v := (0 : Int32)) rfl ?_
  refine OwnK.iloadN X1 hx (hb hby own_d19_50) (pc' := 51) rfl (v := (2 : Int32)) rfl ?_
  refine OwnK.callS_ X1 hx hZ hown (y := (⟨"jdk/internal/util/ArraysSupport", "signedHashCode", "(I[BII)I"⟩ : MethodName)) (hw _ (List.mem_of_getElem? (i := 117) rfl)) (hw _ (List.mem_of_getElem? (i := 118) rfl)) (hw _ (List.mem_of_getElem? (i := 113) rfl)) (hw _ (List.mem_of_getElem? (i := 119) rfl)) (by decide) (own_met20 l Z a0 hw h0 p1 _ x0 x1 Va Ea ) (by decide) (W := 0) (by decide) e1 (by rw [hml]; rfl) own_pd_9 (argsL := [(.int (0 : Int32)), (.ref p1), (.int (0 : Int32)), (.int (2 : Int32))]) rfl (S := []) rfl (Nat.le_of_eq rfl) (hb hby own_d19_51) (pc' := 54) rfl (by decide) (by decide) (fun T2 v2 L2 X2 hQ2 => ?_)
  obtain ⟨rfl, e2, rfl⟩ := hQ2
  refine OwnK.goto_ X2 hx (hb hby own_d19_54) (by decide) (pc' := 157) (by decide) ?_
  refine OwnK.retI_ X2 hx hret hlk (hb hby own_d19_157) (by decide) (by decide) ?_
  exact ⟨by rfl, e2, rfl⟩
def own_Qmet18_1 (h0 : Heap) (p1 : Addr) (kA : ClassId) (x0 x1 : Int32) (v : Option Value) (h : Heap) (L : List Loc) : Prop := v = some (.int (own_H1 x0)) ∧ h = h0 ∧ L = []
set_option maxRecDepth 65536 in
set_option maxHeartbeats 40000000 in
theorem own_met18_1 (l : Launch) (Z : State) (a0 : Array Value) (hw : ∀ d ∈ tables_1, d.before a0 Z = true) (h0 : Heap) (p1 : Addr) (kA : ClassId) (x0 x1 : Int32) (Va : Arv Z h0 p1 kA .byte (1 : Int32) [.int x0, .int x1] (.int (0 : Int32))) (Ea : Exa Z h0 p1 "[B") :
    MetFree l (⟨"java/lang/StringLatin1", "hashCode", "([B)I"⟩ : MethodName) (head1 [Jvm.Cond.code (⟨"java/lang/StringLatin1", "hashCode", "([B)I"⟩ : MethodName) jdk_43_method_21_code 1 (some .int)] ({ frames := 0, cells := 0, slots := 0, locals := 0 } : Room)) (fun a U => a = #[(.ref p1)] ∧ Z.Warmed39 U.vm ∧ U.heap = h0) (fun _ _ _ _ _ => True) (fun _ U o U' => ∃ v L, o = .returned v ∧ (own_Qmet18_1 h0 p1 kA x0 x1) v U'.heap L ∧ FrameEnd U o U' L ({ frames := 0, cells := 0, slots := 0, locals := 0 } : Room).cells ({ frames := 0, cells := 0, slots := 0, locals := 0 } : Room).slots) := by
  refine OwnK.met (Q := (own_Qmet18_1 h0 p1 kA x0 x1)) (C := ({ frames := 0, cells := 0, slots := 0, locals := 0 } : Room).cells) (N := ({ frames := 0, cells := 0, slots := 0, locals := 0 } : Room).slots) own_pl_18 (own_ef_18 p1) ?_
  intro p e s m below meth c T0 X0 hx hZ hby hml hown hnm hret hlk e0
  refine OwnK.aloadN X0 hx (hb hby own_d18_0) (pc' := 1) rfl (v := (.ref p1)) rfl rfl ?_
  refine OwnK.arrlen X0 hx hZ e0 Va (hb hby own_d18_1) (pc' := 2) rfl ?_
  refine OwnK.lswHit_ X0 hx (a := 1) (off := 30) (hb hby own_d18_2) (by decide) (by decide) (by decide) (pc' := 32) (by decide) ?_
  refine OwnK.aloadN X0 hx (hb hby own_d18_32) (pc' := 33) rfl (v := (.ref p1)) rfl rfl ?_
  refine OwnK.iconst X0 hx (hb hby own_d18_33) (pc' := 34) rfl (v := (0 : Int32)) (by decide) ?_
  refine OwnK.baload X0 hx hZ e0 Va (by decide) (by first | decide | omega) (v := (.int x0)) rfl (hb hby own_d18_34) (pc' := 35) rfl ?_
  refine OwnK.sipush X0 hx (hb hby own_d18_35) (pc' := 38) rfl (v := (255 : Int32)) (by decide) ?_
  refine OwnK.iand X0 hx (hb hby own_d18_38) (pc' := 39) rfl ?_
  refine OwnK.goto_ X0 hx (hb hby own_d18_39) (by decide) (pc' := 51) (by decide) ?_
  refine OwnK.retI_ X0 hx hret hlk (hb hby own_d18_51) (by decide) (by decide) ?_
  exact ⟨by rfl, e0, rfl⟩
def own_Qmet18_2 (h0 : Heap) (p1 : Addr) (kA : ClassId) (x0 x1 : Int32) (v : Option Value) (h : Heap) (L : List Loc) : Prop := v = some (.int (own_H2 x0 x1)) ∧ h = h0 ∧ L = []
set_option maxRecDepth 65536 in
set_option maxHeartbeats 40000000 in
theorem own_met18_2 (l : Launch) (Z : State) (a0 : Array Value) (hw : ∀ d ∈ tables_1, d.before a0 Z = true) (h0 : Heap) (p1 : Addr) (kA : ClassId) (x0 x1 : Int32) (Va : Arv Z h0 p1 kA .byte (2 : Int32) [.int x0, .int x1] (.int (0 : Int32))) (Ea : Exa Z h0 p1 "[B") :
    MetFree l (⟨"java/lang/StringLatin1", "hashCode", "([B)I"⟩ : MethodName) (head1 [Jvm.Cond.code (⟨"java/lang/StringLatin1", "hashCode", "([B)I"⟩ : MethodName) jdk_43_method_21_code 1 (some .int)] ({ frames := 2, cells := 0, slots := 0, locals := 33 } : Room)) (fun a U => a = #[(.ref p1)] ∧ Z.Warmed39 U.vm ∧ U.heap = h0) (fun _ _ _ _ _ => True) (fun _ U o U' => ∃ v L, o = .returned v ∧ (own_Qmet18_2 h0 p1 kA x0 x1) v U'.heap L ∧ FrameEnd U o U' L ({ frames := 2, cells := 0, slots := 0, locals := 33 } : Room).cells ({ frames := 2, cells := 0, slots := 0, locals := 33 } : Room).slots) := by
  refine OwnK.met (Q := (own_Qmet18_2 h0 p1 kA x0 x1)) (C := ({ frames := 2, cells := 0, slots := 0, locals := 33 } : Room).cells) (N := ({ frames := 2, cells := 0, slots := 0, locals := 33 } : Room).slots) own_pl_18 (own_ef_18 p1) ?_
  intro p e s m below meth c T0 X0 hx hZ hby hml hown hnm hret hlk e0
  refine OwnK.aloadN X0 hx (hb hby own_d18_0) (pc' := 1) rfl (v := (.ref p1)) rfl rfl ?_
  refine OwnK.arrlen X0 hx hZ e0 Va (hb hby own_d18_1) (pc' := 2) rfl ?_
  refine OwnK.lswMiss_ X0 hx (hb hby own_d18_2) (by decide) (by decide) (by decide) (pc' := 42) (by decide) ?_
  refine OwnK.aloadN X0 hx (hb hby own_d18_42) (pc' := 43) rfl (v := (.ref p1)) rfl rfl ?_
  refine OwnK.iconst X0 hx (hb hby own_d18_43) (pc' := 44) rfl (v := (0 : Int32)) (by decide) ?_
  refine OwnK.aloadN X0 hx (hb hby own_d18_44) (pc' := 45) rfl (v := (.ref p1)) rfl rfl ?_
  refine OwnK.arrlen X0 hx hZ e0 Va (hb hby own_d18_45) (pc' := 46) rfl ?_
  refine OwnK.iconst X0 hx (hb hby own_d18_46) (pc' := 47) rfl (v := (0 : Int32)) (by decide) ?_
  refine OwnK.iconst X0 hx (hb hby own_d18_47) (pc' := 48) rfl (v := (4 : Int32)) (by decide) ?_
  refine OwnK.callS_ X0 hx hZ hown (y := (⟨"jdk/internal/util/ArraysSupport", "vectorizedHashCode", "(Ljava/lang/Object;IIII)I"⟩ : MethodName)) (hw _ (List.mem_of_getElem? (i := 111) rfl)) (hw _ (List.mem_of_getElem? (i := 112) rfl)) (hw _ (List.mem_of_getElem? (i := 113) rfl)) (hw _ (List.mem_of_getElem? (i := 114) rfl)) (by decide) (own_met19 l Z a0 hw h0 p1 _ x0 x1 Va Ea ) (by decide) (W := 0) (by decide) e0 (by rw [hml]; rfl) own_pd_11 (argsL := [(.ref p1), (.int (0 : Int32)), (.int (2 : Int32)), (.int (0 : Int32)), (.int (4 : Int32))]) rfl (S := []) rfl (Nat.le_of_eq rfl) (hb hby own_d18_48) (pc' := 51) rfl (by decide) (by decide) (fun T1 v1 L1 X1 hQ1 => ?_)
  obtain ⟨rfl, e1, rfl⟩ := hQ1
  refine OwnK.retI_ X1 hx hret hlk (hb hby own_d18_51) (by decide) (by decide) ?_
  exact ⟨by rfl, e1, rfl⟩
def own_Qmet17 (h0 : Heap) (p1 : Addr) (n0 : Nat) (cs : Int32) (v : Option Value) (h : Heap) (L : List Loc) : Prop := v = some (.int (1 : Int32)) ∧ h = h0 ∧ L = []
set_option maxRecDepth 65536 in
set_option maxHeartbeats 40000000 in
theorem own_met17 (l : Launch) (Z : State) (a0 : Array Value) (hw : ∀ d ∈ tables_1, d.before a0 Z = true) (h0 : Heap) (p1 : Addr) (n0 : Nat) (cs : Int32) (O0 : Old Z n0 h0) (Fc : Fld Z h0 p1 "java/lang/String" "coder" "B" (.int (0 : Int32))) (hcs : ¬ cs.toInt = 0) (SS : Sta Z Z.heap "java/lang/String" "COMPACT_STRINGS" "Z" (.int cs)) :
    MetFree l (⟨"java/lang/String", "isLatin1", "()Z"⟩ : MethodName) (head1 [Jvm.Cond.code (⟨"java/lang/String", "isLatin1", "()Z"⟩ : MethodName) jdk_42_method_154_code 1 (some .boolean)] ({ frames := 0, cells := 0, slots := 0, locals := 0 } : Room)) (fun a U => a = #[(.ref p1)] ∧ Z.Warmed39 U.vm ∧ U.heap = h0) (fun _ _ _ _ _ => True) (fun _ U o U' => ∃ v L, o = .returned v ∧ (own_Qmet17 h0 p1 n0 cs) v U'.heap L ∧ FrameEnd U o U' L ({ frames := 0, cells := 0, slots := 0, locals := 0 } : Room).cells ({ frames := 0, cells := 0, slots := 0, locals := 0 } : Room).slots) := by
  refine OwnK.met (Q := (own_Qmet17 h0 p1 n0 cs)) (C := ({ frames := 0, cells := 0, slots := 0, locals := 0 } : Room).cells) (N := ({ frames := 0, cells := 0, slots := 0, locals := 0 } : Room).slots) own_pl_17 (own_ef_17 p1) ?_
  intro p e s m below meth c T0 X0 hx hZ hby hml hown hnm hret hlk e0
  refine OwnK.getS_ X0 hx hZ hown (host := "") (Or.inl (hw _ (List.mem_of_getElem? (i := 14) rfl))) Via.refl e0 (SS.ext O0.2) (hb hby own_d17_0) (pc' := 3) rfl (fun T1 X1 e1 => ?_)
  refine OwnK.if_eq X1 hx (hb hby own_d17_3) (by decide) (pcT := 17) (by decide) (pc' := 6) rfl (fun (hc3 : cs.toInt = 0) => absurd hc3 hcs) (fun hc3 => ?_)
  refine OwnK.aloadN X1 hx (hb hby own_d17_6) (pc' := 7) rfl (v := (.ref p1)) rfl rfl ?_
  refine OwnK.getF_ X1 hx hZ hown (host := "") (Or.inl (hw _ (List.mem_of_getElem? (i := 26) rfl))) Via.refl e1 Fc (hb hby own_d17_7) (pc' := 10) rfl (fun T2 X2 e2 => ?_)
  refine OwnK.if_ne X2 hx (hb hby own_d17_10) (by decide) (pcT := 17) (by decide) (pc' := 13) rfl (fun (hc10 : ¬ 0 = 0) => absurd hc10 (by decide)) (fun hc10 => ?_)
  refine OwnK.iconst X2 hx (hb hby own_d17_13) (pc' := 14) rfl (v := (1 : Int32)) (by decide) ?_
  refine OwnK.goto_ X2 hx (hb hby own_d17_14) (by decide) (pc' := 18) (by decide) ?_
  refine OwnK.retN_ X2 hx hret (by simp) hlk (hb hby own_d17_18) (by decide) (by decide) ?_
  exact ⟨by rw [own_nar1], e2, rfl⟩
def own_Qmet16_1 (Z : State) (h0 : Heap) (n0 : Nat) (p1 : Addr) (tt : Addr) (kT : ClassId) (x0 x1 cs : Int32) (v : Option Value) (h : Heap) (L : List Loc) : Prop := v = some (.int (own_H1 x0)) ∧ Fr n0 L ∧ Keep h0 h [p1] ∧ own_HW Z h0 h p1 (own_H1 x0)
set_option maxRecDepth 65536 in
set_option maxHeartbeats 40000000 in
theorem own_met16_1 (l : Launch) (Z : State) (a0 : Array Value) (hw : ∀ d ∈ tables_1, d.before a0 Z = true) (h0 : Heap) (n0 : Nat) (Z0 : n0 ≤ h0.size) (p1 : Addr) (tt : Addr) (kT : ClassId) (x0 x1 cs : Int32) (O0 : Old Z n0 h0) (ge_p1 : n0 ≤ p1) (G0 : own_St Z h0 p1 tt kT (1 : Int32) [.int x0, .int x1] (own_H1 x0)) (hcs : ¬ cs.toInt = 0) (SS : Sta Z Z.heap "java/lang/String" "COMPACT_STRINGS" "Z" (.int cs)) :
    MetFree l (⟨"java/lang/String", "hashCode", "()I"⟩ : MethodName) (head1 [Jvm.Cond.code (⟨"java/lang/String", "hashCode", "()I"⟩ : MethodName) jdk_42_method_78_code 2 (some .int)] ({ frames := 1, cells := 0, slots := 0, locals := 12 } : Room)) (fun a U => a = #[(.ref p1)] ∧ Z.Warmed39 U.vm ∧ U.heap = h0) (fun _ _ _ _ _ => True) (fun _ U o U' => ∃ v L, o = .returned v ∧ (own_Qmet16_1 Z h0 n0 p1 tt kT x0 x1 cs) v U'.heap L ∧ FrameEnd U o U' L ({ frames := 1, cells := 0, slots := 0, locals := 12 } : Room).cells ({ frames := 1, cells := 0, slots := 0, locals := 12 } : Room).slots) := by
  refine OwnK.met (Q := (own_Qmet16_1 Z h0 n0 p1 tt kT x0 x1 cs)) (C := ({ frames := 1, cells := 0, slots := 0, locals := 12 } : Room).cells) (N := ({ frames := 1, cells := 0, slots := 0, locals := 12 } : Room).slots) own_pl_16 (own_ef_16 p1) ?_
  intro p e s m below meth c T0 X0 hx hZ hby hml hown hnm hret hlk e0
  have N0 := Fr.nil n0
  have K0 := Keep.refl h0 [p1]
  obtain ⟨⟨Es, Cs, Vs, Bs⟩, Xs, hv, hz, Fh, Fz, i1, i2⟩ := G0
  have nt : p1 ≠ tt := own_nek (hw _ (List.mem_of_getElem? (i := 2) rfl)) Es Bs
  refine OwnK.aloadN X0 hx (hb hby own_d16_0) (pc' := 1) rfl (v := (.ref p1)) rfl rfl ?_
  refine OwnK.getF_ X0 hx hZ hown (host := "") (Or.inl (hw _ (List.mem_of_getElem? (i := 99) rfl))) Via.refl e0 Fh (hb hby own_d16_1) (pc' := 4) rfl (fun T1 X1 e1 => ?_)
  refine OwnK.istoreN X1 hx (hb hby own_d16_4) (pc' := 5) rfl (Ls' := #[.val (.ref p1), .val (.int hv)]) rfl ?_
  refine OwnK.iloadN X1 hx (hb hby own_d16_5) (pc' := 6) rfl (v := hv) rfl ?_
  refine OwnK.if_ne X1 hx (hb hby own_d16_6) (by decide) (pcT := 58) (by decide) (pc' := 9) rfl (fun (hc2 : ¬ hv.toInt = 0) => ?_) (fun (hc2 : hv.toInt = 0) => ?_)
  · refine OwnK.iloadN X1 hx (hb hby own_d16_58) (pc' := 59) rfl (v := hv) rfl ?_
    refine OwnK.retI_ X1 hx hret hlk (hb hby own_d16_59) (by decide) (by decide) ?_
    rw [show T1.heap = h0 from e1]
    exact ⟨by rw [i1 (by assumption)], N0, K0, Or.inl rfl⟩
  · refine OwnK.aloadN X1 hx (hb hby own_d16_9) (pc' := 10) rfl (v := (.ref p1)) rfl rfl ?_
    refine OwnK.getF_ X1 hx hZ hown (host := "") (Or.inl (hw _ (List.mem_of_getElem? (i := 101) rfl))) Via.refl e1 Fz (hb hby own_d16_10) (pc' := 13) rfl (fun T3 X3 e3 => ?_)
    refine OwnK.if_ne X3 hx (hb hby own_d16_13) (by decide) (pcT := 58) (by decide) (pc' := 16) rfl (fun (hc4 : ¬ hz.toInt = 0) => ?_) (fun (hc4 : hz.toInt = 0) => ?_)
    · refine OwnK.iloadN X3 hx (hb hby own_d16_58) (pc' := 59) rfl (v := hv) rfl ?_
      refine OwnK.retI_ X3 hx hret hlk (hb hby own_d16_59) (by decide) (by decide) ?_
      rw [show T3.heap = h0 from e3]
      exact ⟨own_hz i2 hc2 hc4, N0, K0, Or.inl rfl⟩
    · refine OwnK.aloadN X3 hx (hb hby own_d16_16) (pc' := 17) rfl (v := (.ref p1)) rfl rfl ?_
      refine OwnK.callV_ X3 hx hZ hown (y := (⟨"java/lang/String", "isLatin1", "()Z"⟩ : MethodName)) (z := (⟨"java/lang/String", "isLatin1", "()Z"⟩ : MethodName)) (a := p1) (hw _ (List.mem_of_getElem? (i := 103) rfl)) (hw _ (List.mem_of_getElem? (i := 104) rfl)) (notFace_of_selects (args := #[]) (mvT hZ (hw _ (List.mem_of_getElem? (i := 106) rfl)))) (hw _ (List.mem_of_getElem? (i := 106) rfl)) (hw _ (List.mem_of_getElem? (i := 105) rfl)) (hw _ (List.mem_of_getElem? (i := 107) rfl)) (hw _ (List.mem_of_getElem? (i := 3) rfl)) (by decide) Es (own_met17 l Z a0 hw h0 p1 n0 cs O0 Cs hcs SS ) (by decide) (W := 0) (by decide) e3 (by rw [hml]; rfl) own_pd_2 (argsL := []) rfl (S := []) rfl (Nat.le_of_eq rfl) (hb hby own_d16_17) (pc' := 20) rfl (by decide) (by decide) (fun T5 v5 L5 X5 hQ5 => ?_)
      obtain ⟨rfl, e5, rfl⟩ := hQ5
      have N6 := Fr.app N0 (Fr.nil n0)
      refine OwnK.if_eq X5 hx (hb hby own_d16_20) (by decide) (pcT := 33) (by decide) (pc' := 23) rfl (fun (hc20 : 1 = 0) => absurd hc20 (by decide)) (fun hc20 => ?_)
      refine OwnK.aloadN X5 hx (hb hby own_d16_23) (pc' := 24) rfl (v := (.ref p1)) rfl rfl ?_
      refine OwnK.getF_ X5 hx hZ hown (host := "") (Or.inl (hw _ (List.mem_of_getElem? (i := 28) rfl))) Via.refl e5 Vs (hb hby own_d16_24) (pc' := 27) rfl (fun T7 X7 e7 => ?_)
      refine OwnK.callS_ X7 hx hZ hown (y := (⟨"java/lang/StringLatin1", "hashCode", "([B)I"⟩ : MethodName)) (hw _ (List.mem_of_getElem? (i := 108) rfl)) (hw _ (List.mem_of_getElem? (i := 109) rfl)) (hw _ (List.mem_of_getElem? (i := 35) rfl)) (hw _ (List.mem_of_getElem? (i := 110) rfl)) (by decide) (own_met18_1 l Z a0 hw h0 tt _ x0 x1 Bs Xs ) (by decide) (W := 0) (by decide) e7 (by rw [hml]; rfl) own_pd_13 (argsL := [(.ref tt)]) rfl (S := []) rfl (Nat.le_of_eq rfl) (hb hby own_d16_27) (pc' := 30) rfl (by decide) (by decide) (fun T8 v8 L8 X8 hQ8 => ?_)
      obtain ⟨rfl, e8, rfl⟩ := hQ8
      have N9 := Fr.app N6 (Fr.nil n0)
      refine OwnK.goto_ X8 hx (hb hby own_d16_30) (by decide) (pc' := 40) (by decide) ?_
      refine OwnK.istoreN X8 hx (hb hby own_d16_40) (pc' := 41) rfl (Ls' := #[.val (.ref p1), .val (.int (own_H1 x0))]) rfl ?_
      refine OwnK.iloadN X8 hx (hb hby own_d16_41) (pc' := 42) rfl (v := (own_H1 x0)) rfl ?_
      refine OwnK.if_ne X8 hx (hb hby own_d16_42) (by decide) (pcT := 53) (by decide) (pc' := 45) rfl (fun (hc10 : ¬ (own_H1 x0).toInt = 0) => ?_) (fun (hc10 : (own_H1 x0).toInt = 0) => ?_)
      · refine OwnK.aloadN X8 hx (hb hby own_d16_53) (pc' := 54) rfl (v := (.ref p1)) rfl rfl ?_
        refine OwnK.iloadN X8 hx (hb hby own_d16_54) (pc' := 55) rfl (v := (own_H1 x0)) rfl ?_
        refine OwnK.putF_ X8 hx hZ hown (hw _ (List.mem_of_getElem? (i := 99) rfl)) Via.refl e8 Fh Es (Or.inl (hw _ (List.mem_of_getElem? (i := 100) rfl))) (hw _ (List.mem_of_getElem? (i := 2) rfl)) (ty := .int) (by decide) (v' := (.int (own_H1 x0))) rfl rfl (hb hby own_d16_55) (pc' := 58) rfl (fun T11 h11 X11 e11 W11 => ?_)
        have f12 := Fh.same W11
        have f13 := Es.wr W11
        have f14 := Cs.other W11 (Or.inr (slot_ne (Or.inr (hw _ (List.mem_of_getElem? (i := 27) rfl))) (Or.inl (hw _ (List.mem_of_getElem? (i := 100) rfl))) (by decide) (t := .byte) (t' := .int) (by decide) (by decide)))
        have f15 := Vs.other W11 (Or.inr (slot_ne (Or.inr (hw _ (List.mem_of_getElem? (i := 29) rfl))) (Or.inl (hw _ (List.mem_of_getElem? (i := 100) rfl))) (by decide) (t := (.array .byte)) (t' := .int) (by decide) (by decide)))
        have f16 := Bs.other W11 (Ne.symm nt)
        have f17 := Xs.wr W11
        have f18 := Fz.other W11 (Or.inr (slot_ne (Or.inl (hw _ (List.mem_of_getElem? (i := 102) rfl))) (Or.inl (hw _ (List.mem_of_getElem? (i := 100) rfl))) (by decide) (t := .boolean) (t' := .int) (by decide) (by decide)))
        have N19 := Fr.snoc X11 N9 ge_p1
        have K20 := K0.wr W11 (Or.inl (List.mem_of_getElem? (i := 0) rfl))
        have O21 := O0.wr W11 ge_p1
        have z22 : n0 ≤ h11.size := Nat.le_trans Z0 (Keep.of_wr W11).1
        refine OwnK.iloadN X11 hx (hb hby own_d16_58) (pc' := 59) rfl (v := (own_H1 x0)) rfl ?_
        refine OwnK.retI_ X11 hx hret hlk (hb hby own_d16_59) (by decide) (by decide) ?_
        rw [show T11.heap = h11 from e11]
        exact ⟨rfl, N19, K20, Or.inr (Or.inl W11)⟩
      · refine OwnK.aloadN X8 hx (hb hby own_d16_45) (pc' := 46) rfl (v := (.ref p1)) rfl rfl ?_
        refine OwnK.iconst X8 hx (hb hby own_d16_46) (pc' := 47) rfl (v := (1 : Int32)) (by decide) ?_
        refine OwnK.putF_ X8 hx hZ hown (hw _ (List.mem_of_getElem? (i := 101) rfl)) Via.refl e8 Fz Es (Or.inl (hw _ (List.mem_of_getElem? (i := 102) rfl))) (hw _ (List.mem_of_getElem? (i := 2) rfl)) (ty := .boolean) (by decide) (v' := (.int (1 : Int32))) (by first | rfl | decide) (by first | rfl | decide) (hb hby own_d16_47) (pc' := 50) rfl (fun T23 h23 X23 e23 W23 => ?_)
        have f24 := Fz.same W23
        have f25 := Es.wr W23
        have f26 := Cs.other W23 (Or.inr (slot_ne (Or.inr (hw _ (List.mem_of_getElem? (i := 27) rfl))) (Or.inl (hw _ (List.mem_of_getElem? (i := 102) rfl))) (by decide) (t := .byte) (t' := .boolean) (by decide) (by decide)))
        have f27 := Vs.other W23 (Or.inr (slot_ne (Or.inr (hw _ (List.mem_of_getElem? (i := 29) rfl))) (Or.inl (hw _ (List.mem_of_getElem? (i := 102) rfl))) (by decide) (t := (.array .byte)) (t' := .boolean) (by decide) (by decide)))
        have f28 := Bs.other W23 (Ne.symm nt)
        have f29 := Xs.wr W23
        have f30 := Fh.other W23 (Or.inr (slot_ne (Or.inl (hw _ (List.mem_of_getElem? (i := 100) rfl))) (Or.inl (hw _ (List.mem_of_getElem? (i := 102) rfl))) (by decide) (t := .int) (t' := .boolean) (by decide) (by decide)))
        have N31 := Fr.snoc X23 N9 ge_p1
        have K32 := K0.wr W23 (Or.inl (List.mem_of_getElem? (i := 0) rfl))
        have O33 := O0.wr W23 ge_p1
        have z34 : n0 ≤ h23.size := Nat.le_trans Z0 (Keep.of_wr W23).1
        refine OwnK.goto_ X23 hx (hb hby own_d16_50) (by decide) (pc' := 58) (by decide) ?_
        refine OwnK.iloadN X23 hx (hb hby own_d16_58) (pc' := 59) rfl (v := (own_H1 x0)) rfl ?_
        refine OwnK.retI_ X23 hx hret hlk (hb hby own_d16_59) (by decide) (by decide) ?_
        rw [show T23.heap = h23 from e23]
        exact ⟨rfl, N31, K32, Or.inr (Or.inr ⟨W23, by assumption⟩)⟩
def own_Qmet16_2 (Z : State) (h0 : Heap) (n0 : Nat) (p1 : Addr) (tt : Addr) (kT : ClassId) (x0 x1 cs : Int32) (v : Option Value) (h : Heap) (L : List Loc) : Prop := v = some (.int (own_H2 x0 x1)) ∧ Fr n0 L ∧ Keep h0 h [p1] ∧ own_HW Z h0 h p1 (own_H2 x0 x1)
set_option maxRecDepth 65536 in
set_option maxHeartbeats 40000000 in
theorem own_met16_2 (l : Launch) (Z : State) (a0 : Array Value) (hw : ∀ d ∈ tables_1, d.before a0 Z = true) (h0 : Heap) (n0 : Nat) (Z0 : n0 ≤ h0.size) (p1 : Addr) (tt : Addr) (kT : ClassId) (x0 x1 cs : Int32) (O0 : Old Z n0 h0) (ge_p1 : n0 ≤ p1) (G0 : own_St Z h0 p1 tt kT (2 : Int32) [.int x0, .int x1] (own_H2 x0 x1)) (hcs : ¬ cs.toInt = 0) (SS : Sta Z Z.heap "java/lang/String" "COMPACT_STRINGS" "Z" (.int cs)) :
    MetFree l (⟨"java/lang/String", "hashCode", "()I"⟩ : MethodName) (head1 [Jvm.Cond.code (⟨"java/lang/String", "hashCode", "()I"⟩ : MethodName) jdk_42_method_78_code 2 (some .int)] ({ frames := 3, cells := 0, slots := 0, locals := 45 } : Room)) (fun a U => a = #[(.ref p1)] ∧ Z.Warmed39 U.vm ∧ U.heap = h0) (fun _ _ _ _ _ => True) (fun _ U o U' => ∃ v L, o = .returned v ∧ (own_Qmet16_2 Z h0 n0 p1 tt kT x0 x1 cs) v U'.heap L ∧ FrameEnd U o U' L ({ frames := 3, cells := 0, slots := 0, locals := 45 } : Room).cells ({ frames := 3, cells := 0, slots := 0, locals := 45 } : Room).slots) := by
  refine OwnK.met (Q := (own_Qmet16_2 Z h0 n0 p1 tt kT x0 x1 cs)) (C := ({ frames := 3, cells := 0, slots := 0, locals := 45 } : Room).cells) (N := ({ frames := 3, cells := 0, slots := 0, locals := 45 } : Room).slots) own_pl_16 (own_ef_16 p1) ?_
  intro p e s m below meth c T0 X0 hx hZ hby hml hown hnm hret hlk e0
  have N0 := Fr.nil n0
  have K0 := Keep.refl h0 [p1]
  obtain ⟨⟨Es, Cs, Vs, Bs⟩, Xs, hv, hz, Fh, Fz, i1, i2⟩ := G0
  have nt : p1 ≠ tt := own_nek (hw _ (List.mem_of_getElem? (i := 2) rfl)) Es Bs
  refine OwnK.aloadN X0 hx (hb hby own_d16_0) (pc' := 1) rfl (v := (.ref p1)) rfl rfl ?_
  refine OwnK.getF_ X0 hx hZ hown (host := "") (Or.inl (hw _ (List.mem_of_getElem? (i := 99) rfl))) Via.refl e0 Fh (hb hby own_d16_1) (pc' := 4) rfl (fun T1 X1 e1 => ?_)
  refine OwnK.istoreN X1 hx (hb hby own_d16_4) (pc' := 5) rfl (Ls' := #[.val (.ref p1), .val (.int hv)]) rfl ?_
  refine OwnK.iloadN X1 hx (hb hby own_d16_5) (pc' := 6) rfl (v := hv) rfl ?_
  refine OwnK.if_ne X1 hx (hb hby own_d16_6) (by decide) (pcT := 58) (by decide) (pc' := 9) rfl (fun (hc2 : ¬ hv.toInt = 0) => ?_) (fun (hc2 : hv.toInt = 0) => ?_)
  · refine OwnK.iloadN X1 hx (hb hby own_d16_58) (pc' := 59) rfl (v := hv) rfl ?_
    refine OwnK.retI_ X1 hx hret hlk (hb hby own_d16_59) (by decide) (by decide) ?_
    rw [show T1.heap = h0 from e1]
    exact ⟨by rw [i1 (by assumption)], N0, K0, Or.inl rfl⟩
  · refine OwnK.aloadN X1 hx (hb hby own_d16_9) (pc' := 10) rfl (v := (.ref p1)) rfl rfl ?_
    refine OwnK.getF_ X1 hx hZ hown (host := "") (Or.inl (hw _ (List.mem_of_getElem? (i := 101) rfl))) Via.refl e1 Fz (hb hby own_d16_10) (pc' := 13) rfl (fun T3 X3 e3 => ?_)
    refine OwnK.if_ne X3 hx (hb hby own_d16_13) (by decide) (pcT := 58) (by decide) (pc' := 16) rfl (fun (hc4 : ¬ hz.toInt = 0) => ?_) (fun (hc4 : hz.toInt = 0) => ?_)
    · refine OwnK.iloadN X3 hx (hb hby own_d16_58) (pc' := 59) rfl (v := hv) rfl ?_
      refine OwnK.retI_ X3 hx hret hlk (hb hby own_d16_59) (by decide) (by decide) ?_
      rw [show T3.heap = h0 from e3]
      exact ⟨own_hz i2 hc2 hc4, N0, K0, Or.inl rfl⟩
    · refine OwnK.aloadN X3 hx (hb hby own_d16_16) (pc' := 17) rfl (v := (.ref p1)) rfl rfl ?_
      refine OwnK.callV_ X3 hx hZ hown (y := (⟨"java/lang/String", "isLatin1", "()Z"⟩ : MethodName)) (z := (⟨"java/lang/String", "isLatin1", "()Z"⟩ : MethodName)) (a := p1) (hw _ (List.mem_of_getElem? (i := 103) rfl)) (hw _ (List.mem_of_getElem? (i := 104) rfl)) (notFace_of_selects (args := #[]) (mvT hZ (hw _ (List.mem_of_getElem? (i := 106) rfl)))) (hw _ (List.mem_of_getElem? (i := 106) rfl)) (hw _ (List.mem_of_getElem? (i := 105) rfl)) (hw _ (List.mem_of_getElem? (i := 107) rfl)) (hw _ (List.mem_of_getElem? (i := 3) rfl)) (by decide) Es (own_met17 l Z a0 hw h0 p1 n0 cs O0 Cs hcs SS ) (by decide) (W := 0) (by decide) e3 (by rw [hml]; rfl) own_pd_2 (argsL := []) rfl (S := []) rfl (Nat.le_of_eq rfl) (hb hby own_d16_17) (pc' := 20) rfl (by decide) (by decide) (fun T5 v5 L5 X5 hQ5 => ?_)
      obtain ⟨rfl, e5, rfl⟩ := hQ5
      have N6 := Fr.app N0 (Fr.nil n0)
      refine OwnK.if_eq X5 hx (hb hby own_d16_20) (by decide) (pcT := 33) (by decide) (pc' := 23) rfl (fun (hc20 : 1 = 0) => absurd hc20 (by decide)) (fun hc20 => ?_)
      refine OwnK.aloadN X5 hx (hb hby own_d16_23) (pc' := 24) rfl (v := (.ref p1)) rfl rfl ?_
      refine OwnK.getF_ X5 hx hZ hown (host := "") (Or.inl (hw _ (List.mem_of_getElem? (i := 28) rfl))) Via.refl e5 Vs (hb hby own_d16_24) (pc' := 27) rfl (fun T7 X7 e7 => ?_)
      refine OwnK.callS_ X7 hx hZ hown (y := (⟨"java/lang/StringLatin1", "hashCode", "([B)I"⟩ : MethodName)) (hw _ (List.mem_of_getElem? (i := 108) rfl)) (hw _ (List.mem_of_getElem? (i := 109) rfl)) (hw _ (List.mem_of_getElem? (i := 35) rfl)) (hw _ (List.mem_of_getElem? (i := 110) rfl)) (by decide) (own_met18_2 l Z a0 hw h0 tt _ x0 x1 Bs Xs ) (by decide) (W := 0) (by decide) e7 (by rw [hml]; rfl) own_pd_13 (argsL := [(.ref tt)]) rfl (S := []) rfl (Nat.le_of_eq rfl) (hb hby own_d16_27) (pc' := 30) rfl (by decide) (by decide) (fun T8 v8 L8 X8 hQ8 => ?_)
      obtain ⟨rfl, e8, rfl⟩ := hQ8
      have N9 := Fr.app N6 (Fr.nil n0)
      refine OwnK.goto_ X8 hx (hb hby own_d16_30) (by decide) (pc' := 40) (by decide) ?_
      refine OwnK.istoreN X8 hx (hb hby own_d16_40) (pc' := 41) rfl (Ls' := #[.val (.ref p1), .val (.int (own_H2 x0 x1))]) rfl ?_
      refine OwnK.iloadN X8 hx (hb hby own_d16_41) (pc' := 42) rfl (v := (own_H2 x0 x1)) rfl ?_
      refine OwnK.if_ne X8 hx (hb hby own_d16_42) (by decide) (pcT := 53) (by decide) (pc' := 45) rfl (fun (hc10 : ¬ (own_H2 x0 x1).toInt = 0) => ?_) (fun (hc10 : (own_H2 x0 x1).toInt = 0) => ?_)
      · refine OwnK.aloadN X8 hx (hb hby own_d16_53) (pc' := 54) rfl (v := (.ref p1)) rfl rfl ?_
        refine OwnK.iloadN X8 hx (hb hby own_d16_54) (pc' := 55) rfl (v := (own_H2 x0 x1)) rfl ?_
        refine OwnK.putF_ X8 hx hZ hown (hw _ (List.mem_of_getElem? (i := 99) rfl)) Via.refl e8 Fh Es (Or.inl (hw _ (List.mem_of_getElem? (i := 100) rfl))) (hw _ (List.mem_of_getElem? (i := 2) rfl)) (ty := .int) (by decide) (v' := (.int (own_H2 x0 x1))) rfl rfl (hb hby own_d16_55) (pc' := 58) rfl (fun T11 h11 X11 e11 W11 => ?_)
        have f12 := Fh.same W11
        have f13 := Es.wr W11
        have f14 := Cs.other W11 (Or.inr (slot_ne (Or.inr (hw _ (List.mem_of_getElem? (i := 27) rfl))) (Or.inl (hw _ (List.mem_of_getElem? (i := 100) rfl))) (by decide) (t := .byte) (t' := .int) (by decide) (by decide)))
        have f15 := Vs.other W11 (Or.inr (slot_ne (Or.inr (hw _ (List.mem_of_getElem? (i := 29) rfl))) (Or.inl (hw _ (List.mem_of_getElem? (i := 100) rfl))) (by decide) (t := (.array .byte)) (t' := .int) (by decide) (by decide)))
        have f16 := Bs.other W11 (Ne.symm nt)
        have f17 := Xs.wr W11
        have f18 := Fz.other W11 (Or.inr (slot_ne (Or.inl (hw _ (List.mem_of_getElem? (i := 102) rfl))) (Or.inl (hw _ (List.mem_of_getElem? (i := 100) rfl))) (by decide) (t := .boolean) (t' := .int) (by decide) (by decide)))
        have N19 := Fr.snoc X11 N9 ge_p1
        have K20 := K0.wr W11 (Or.inl (List.mem_of_getElem? (i := 0) rfl))
        have O21 := O0.wr W11 ge_p1
        have z22 : n0 ≤ h11.size := Nat.le_trans Z0 (Keep.of_wr W11).1
        refine OwnK.iloadN X11 hx (hb hby own_d16_58) (pc' := 59) rfl (v := (own_H2 x0 x1)) rfl ?_
        refine OwnK.retI_ X11 hx hret hlk (hb hby own_d16_59) (by decide) (by decide) ?_
        rw [show T11.heap = h11 from e11]
        exact ⟨rfl, N19, K20, Or.inr (Or.inl W11)⟩
      · refine OwnK.aloadN X8 hx (hb hby own_d16_45) (pc' := 46) rfl (v := (.ref p1)) rfl rfl ?_
        refine OwnK.iconst X8 hx (hb hby own_d16_46) (pc' := 47) rfl (v := (1 : Int32)) (by decide) ?_
        refine OwnK.putF_ X8 hx hZ hown (hw _ (List.mem_of_getElem? (i := 101) rfl)) Via.refl e8 Fz Es (Or.inl (hw _ (List.mem_of_getElem? (i := 102) rfl))) (hw _ (List.mem_of_getElem? (i := 2) rfl)) (ty := .boolean) (by decide) (v' := (.int (1 : Int32))) (by first | rfl | decide) (by first | rfl | decide) (hb hby own_d16_47) (pc' := 50) rfl (fun T23 h23 X23 e23 W23 => ?_)
        have f24 := Fz.same W23
        have f25 := Es.wr W23
        have f26 := Cs.other W23 (Or.inr (slot_ne (Or.inr (hw _ (List.mem_of_getElem? (i := 27) rfl))) (Or.inl (hw _ (List.mem_of_getElem? (i := 102) rfl))) (by decide) (t := .byte) (t' := .boolean) (by decide) (by decide)))
        have f27 := Vs.other W23 (Or.inr (slot_ne (Or.inr (hw _ (List.mem_of_getElem? (i := 29) rfl))) (Or.inl (hw _ (List.mem_of_getElem? (i := 102) rfl))) (by decide) (t := (.array .byte)) (t' := .boolean) (by decide) (by decide)))
        have f28 := Bs.other W23 (Ne.symm nt)
        have f29 := Xs.wr W23
        have f30 := Fh.other W23 (Or.inr (slot_ne (Or.inl (hw _ (List.mem_of_getElem? (i := 100) rfl))) (Or.inl (hw _ (List.mem_of_getElem? (i := 102) rfl))) (by decide) (t := .int) (t' := .boolean) (by decide) (by decide)))
        have N31 := Fr.snoc X23 N9 ge_p1
        have K32 := K0.wr W23 (Or.inl (List.mem_of_getElem? (i := 0) rfl))
        have O33 := O0.wr W23 ge_p1
        have z34 : n0 ≤ h23.size := Nat.le_trans Z0 (Keep.of_wr W23).1
        refine OwnK.goto_ X23 hx (hb hby own_d16_50) (by decide) (pc' := 58) (by decide) ?_
        refine OwnK.iloadN X23 hx (hb hby own_d16_58) (pc' := 59) rfl (v := (own_H2 x0 x1)) rfl ?_
        refine OwnK.retI_ X23 hx hret hlk (hb hby own_d16_59) (by decide) (by decide) ?_
        rw [show T23.heap = h23 from e23]
        exact ⟨rfl, N31, K32, Or.inr (Or.inr ⟨W23, by assumption⟩)⟩
def own_Q13 (h0 : Heap) (v : Option Value) (h : Heap) (L : List Loc) : Prop := v = none ∧ h = h0 ∧ L = []
set_option maxRecDepth 65536 in
set_option maxHeartbeats 40000000 in
theorem own_met13 (l : Launch) (Z : State) (a0 : Array Value) (hw : ∀ d ∈ tables_1, d.before a0 Z = true) (h0 : Heap) (p1 : Addr)  :
    MetFree l (⟨"java/util/AbstractMap", "<init>", "()V"⟩ : MethodName) (head1 [Jvm.Cond.code (⟨"java/util/AbstractMap", "<init>", "()V"⟩ : MethodName) jdk_71_method_1_code 1 none] ({ frames := 1, cells := 0, slots := 0, locals := 12 } : Room)) (fun a U => a = #[(.ref p1)] ∧ Z.Warmed39 U.vm ∧ U.heap = h0) (fun _ _ _ _ _ => True) (fun _ U o U' => ∃ v L, o = .returned v ∧ (own_Q13 h0) v U'.heap L ∧ FrameEnd U o U' L ({ frames := 1, cells := 0, slots := 0, locals := 12 } : Room).cells ({ frames := 1, cells := 0, slots := 0, locals := 12 } : Room).slots) := by
  refine OwnK.met (Q := (own_Q13 h0)) (C := ({ frames := 1, cells := 0, slots := 0, locals := 12 } : Room).cells) (N := ({ frames := 1, cells := 0, slots := 0, locals := 12 } : Room).slots) own_pl_13 (own_ef_13 p1) ?_
  intro p e s m below meth c T0 X0 hx hZ hby hml hown hnm hret hlk e0
  refine OwnK.aloadN X0 hx (hb hby own_d13_0) (pc' := 1) rfl (v := (.ref p1)) rfl rfl ?_
  refine OwnK.initO_ X0 hx hZ hown (hw _ (List.mem_of_getElem? (i := 64) rfl)) (hw _ (List.mem_of_getElem? (i := 12) rfl)) (hw _ (List.mem_of_getElem? (i := 13) rfl)) e0 (by rw [hml]; rfl) (hb hby own_d13_1) (pc' := 4) rfl (by decide) (W := 0) (Nat.le_of_eq rfl) (by decide) (fun T1 X1 e1 => ?_)
  refine OwnK.retV_ X1 hx hret hlk (hb hby own_d13_4) (by decide) (by decide) ?_
  exact ⟨rfl, e1, rfl⟩
def own_Qmet12 (Z : State) (h0 : Heap) (n0 : Nat) (p1 : Addr) (v : Option Value) (h : Heap) (L : List Loc) : Prop := v = none ∧ Fr n0 L ∧ Keep h0 h [p1]
set_option maxRecDepth 65536 in
set_option maxHeartbeats 40000000 in
theorem own_met12 (l : Launch) (Z : State) (a0 : Array Value) (hw : ∀ d ∈ tables_1, d.before a0 Z = true) (h0 : Heap) (n0 : Nat) (Z0 : n0 ≤ h0.size) (p1 : Addr)  (ge_p1 : n0 ≤ p1) (E0 : Exa Z h0 p1 "java/util/TreeMap") (F_size : Fld Z h0 p1 "java/util/TreeMap" "size" "I" (.int (0 : Int32))) (F_modCount : Fld Z h0 p1 "java/util/TreeMap" "modCount" "I" (.int (0 : Int32))) (F_comparator : Fld Z h0 p1 "java/util/TreeMap" "comparator" "Ljava/util/Comparator;" .null) :
    MetFree l (⟨"java/util/TreeMap", "<init>", "()V"⟩ : MethodName) (head1 [Jvm.Cond.code (⟨"java/util/TreeMap", "<init>", "()V"⟩ : MethodName) jdk_2729_method_1_code 1 none] ({ frames := 2, cells := 0, slots := 0, locals := 24 } : Room)) (fun a U => a = #[(.ref p1)] ∧ Z.Warmed39 U.vm ∧ U.heap = h0) (fun _ _ _ _ _ => True) (fun _ U o U' => ∃ v L, o = .returned v ∧ (own_Qmet12 Z h0 n0 p1 ) v U'.heap L ∧ FrameEnd U o U' L ({ frames := 2, cells := 0, slots := 0, locals := 24 } : Room).cells ({ frames := 2, cells := 0, slots := 0, locals := 24 } : Room).slots) := by
  refine OwnK.met (Q := (own_Qmet12 Z h0 n0 p1 )) (C := ({ frames := 2, cells := 0, slots := 0, locals := 24 } : Room).cells) (N := ({ frames := 2, cells := 0, slots := 0, locals := 24 } : Room).slots) own_pl_12 (own_ef_12 p1) ?_
  intro p e s m below meth c T0 X0 hx hZ hby hml hown hnm hret hlk e0
  have N0 := Fr.nil n0
  have K0 := Keep.refl h0 [p1]
  refine OwnK.aloadN X0 hx (hb hby own_d12_0) (pc' := 1) rfl (v := (.ref p1)) rfl rfl ?_
  refine OwnK.callI_ X0 hx hZ hown (y := (⟨"java/util/AbstractMap", "<init>", "()V"⟩ : MethodName)) (a := p1) rfl (hw _ (List.mem_of_getElem? (i := 58) rfl)) (hw _ (List.mem_of_getElem? (i := 59) rfl)) (hw _ (List.mem_of_getElem? (i := 62) rfl)) (hw _ (List.mem_of_getElem? (i := 63) rfl)) rfl (by decide) (own_met13 l Z a0 hw h0 p1) (by decide) (W := 0) (by decide) e0 (by rw [hml]; rfl) own_pd_1 (argsL := []) rfl (S := []) rfl (Nat.le_of_eq rfl) (hb hby own_d12_1) (pc' := 4) rfl (by decide) (by decide) (fun T1 v1 L1 X1 hQ1 => ?_)
  obtain ⟨rfl, e1, rfl⟩ := hQ1
  have N2 := Fr.app N0 (Fr.nil n0)
  refine OwnK.aloadN X1 hx (hb hby own_d12_4) (pc' := 5) rfl (v := (.ref p1)) rfl rfl ?_
  refine OwnK.iconst X1 hx (hb hby own_d12_5) (pc' := 6) rfl (v := (0 : Int32)) (by decide) ?_
  refine OwnK.putF_ X1 hx hZ hown (hw _ (List.mem_of_getElem? (i := 65) rfl)) Via.refl e1 F_size E0 (Or.inl (hw _ (List.mem_of_getElem? (i := 66) rfl))) (hw _ (List.mem_of_getElem? (i := 53) rfl)) (ty := .int) (by decide) (v' := (.int (0 : Int32))) rfl rfl (hb hby own_d12_6) (pc' := 9) rfl (fun T3 h3 X3 e3 W3 => ?_)
  have f4 := F_size.same W3
  have f5 := E0.wr W3
  have f6 := F_modCount.other W3 (Or.inr (slot_ne (Or.inl (hw _ (List.mem_of_getElem? (i := 68) rfl))) (Or.inl (hw _ (List.mem_of_getElem? (i := 66) rfl))) (by decide) (t := .int) (t' := .int) (by decide) (by decide)))
  have f7 := F_comparator.other W3 (Or.inr (slot_ne (Or.inr (hw _ (List.mem_of_getElem? (i := 70) rfl))) (Or.inl (hw _ (List.mem_of_getElem? (i := 66) rfl))) (by decide) (t := (.object "java/util/Comparator")) (t' := .int) (by decide) (by decide)))
  have N8 := Fr.snoc X3 N2 ge_p1
  have K9 := K0.wr W3 (Or.inl (List.mem_of_getElem? (i := 0) rfl))
  have z10 : n0 ≤ h3.size := Nat.le_trans Z0 (Keep.of_wr W3).1
  refine OwnK.aloadN X3 hx (hb hby own_d12_9) (pc' := 10) rfl (v := (.ref p1)) rfl rfl ?_
  refine OwnK.iconst X3 hx (hb hby own_d12_10) (pc' := 11) rfl (v := (0 : Int32)) (by decide) ?_
  refine OwnK.putF_ X3 hx hZ hown (hw _ (List.mem_of_getElem? (i := 67) rfl)) Via.refl e3 f6 f5 (Or.inl (hw _ (List.mem_of_getElem? (i := 68) rfl))) (hw _ (List.mem_of_getElem? (i := 53) rfl)) (ty := .int) (by decide) (v' := (.int (0 : Int32))) rfl rfl (hb hby own_d12_11) (pc' := 14) rfl (fun T11 h11 X11 e11 W11 => ?_)
  have f12 := f6.same W11
  have f13 := f5.wr W11
  have f14 := f4.other W11 (Or.inr (slot_ne (Or.inl (hw _ (List.mem_of_getElem? (i := 66) rfl))) (Or.inl (hw _ (List.mem_of_getElem? (i := 68) rfl))) (by decide) (t := .int) (t' := .int) (by decide) (by decide)))
  have f15 := f7.other W11 (Or.inr (slot_ne (Or.inr (hw _ (List.mem_of_getElem? (i := 70) rfl))) (Or.inl (hw _ (List.mem_of_getElem? (i := 68) rfl))) (by decide) (t := (.object "java/util/Comparator")) (t' := .int) (by decide) (by decide)))
  have N16 := Fr.snoc X11 N8 ge_p1
  have K17 := K9.wr W11 (Or.inl (List.mem_of_getElem? (i := 0) rfl))
  have z18 : n0 ≤ h11.size := Nat.le_trans z10 (Keep.of_wr W11).1
  refine OwnK.aloadN X11 hx (hb hby own_d12_14) (pc' := 15) rfl (v := (.ref p1)) rfl rfl ?_
  refine OwnK.aconstNull X11 hx (hb hby own_d12_15) (pc' := 16) rfl ?_
  refine OwnK.putF_ X11 hx hZ hown (hw _ (List.mem_of_getElem? (i := 69) rfl)) Via.refl e11 f15 f13 (Or.inr ⟨(hw _ (List.mem_of_getElem? (i := 70) rfl)), rfl, hnm⟩) (hw _ (List.mem_of_getElem? (i := 53) rfl)) (ty := (.object "java/util/Comparator")) (by decide) (v' := .null) rfl rfl (hb hby own_d12_16) (pc' := 19) rfl (fun T19 h19 X19 e19 W19 => ?_)
  have f20 := f15.same W19
  have f21 := f13.wr W19
  have f22 := f14.other W19 (Or.inr (slot_ne (Or.inl (hw _ (List.mem_of_getElem? (i := 66) rfl))) (Or.inr (hw _ (List.mem_of_getElem? (i := 70) rfl))) (by decide) (t := .int) (t' := (.object "java/util/Comparator")) (by decide) (by decide)))
  have f23 := f12.other W19 (Or.inr (slot_ne (Or.inl (hw _ (List.mem_of_getElem? (i := 68) rfl))) (Or.inr (hw _ (List.mem_of_getElem? (i := 70) rfl))) (by decide) (t := .int) (t' := (.object "java/util/Comparator")) (by decide) (by decide)))
  have N24 := Fr.snoc X19 N16 ge_p1
  have K25 := K17.wr W19 (Or.inl (List.mem_of_getElem? (i := 0) rfl))
  have z26 : n0 ≤ h19.size := Nat.le_trans z18 (Keep.of_wr W19).1
  refine OwnK.retV_ X19 hx hret hlk (hb hby own_d12_19) (by decide) (by decide) ?_
  rw [show T19.heap = h19 from e19]
  exact ⟨rfl, N24, K25⟩
def own_Qmet11 (Z : State) (h0 : Heap) (n0 : Nat) (p1 : Addr) (nX : Nat) (G K : Nat → Addr) (v : Option Value) (h : Heap) (L : List Loc) : Prop := ∃ as ag ak kS kG kK, v = none ∧ Fr n0 L ∧ Keep h0 h [p1] ∧ own_X Z nX h p1 as ag ak p1 kS kG kK .null (0 : Int32) 0 own_z8 own_z4 [.null, .null, .null, .null] [.null, .null, .null, .null] G K
set_option maxRecDepth 65536 in
set_option maxHeartbeats 40000000 in
theorem own_met11 (l : Launch) (Z : State) (a0 : Array Value) (hw : ∀ d ∈ tables_1, d.before a0 Z = true) (h0 : Heap) (n0 : Nat) (Z0 : n0 ≤ h0.size) (p1 : Addr) (nX : Nat) (G K : Nat → Addr) (ge_p1 : n0 ≤ p1) (hp : nX ≤ p1) (bx : nX ≤ h0.size) (E0 : Exa Z h0 p1 "com/example/entryway/entryway/KeyIndex") (F_overflow : Fld Z h0 p1 "com/example/entryway/entryway/KeyIndex" "overflow" "Ljava/util/Map;" .null) (F_groups : Fld Z h0 p1 "com/example/entryway/entryway/KeyIndex" "groups" "[Ljava/lang/String;" .null) (F_keys : Fld Z h0 p1 "com/example/entryway/entryway/KeyIndex" "keys" "[Ljava/lang/String;" .null) (F_slots : Fld Z h0 p1 "com/example/entryway/entryway/KeyIndex" "slots" "[I" .null) (F_mask : Fld Z h0 p1 "com/example/entryway/entryway/KeyIndex" "mask" "I" (.int (0 : Int32))) (F_count : Fld Z h0 p1 "com/example/entryway/entryway/KeyIndex" "count" "I" (.int (0 : Int32))) (F_repeats : Fld Z h0 p1 "com/example/entryway/entryway/KeyIndex" "repeats" "[I" .null) :
    MetFree l (⟨"com/example/entryway/entryway/KeyIndex", "<init>", "(I)V"⟩ : MethodName) (head1 [Jvm.Cond.code (⟨"com/example/entryway/entryway/KeyIndex", "<init>", "(I)V"⟩ : MethodName) prog_47_method_1_code 3 none] ({ frames := 3, cells := 4, slots := 25, locals := 38 } : Room)) (fun a U => a = #[(.ref p1), (.int (4 : Int32))] ∧ Z.Warmed39 U.vm ∧ U.heap = h0) (fun _ _ _ _ _ => True) (fun _ U o U' => ∃ v L, o = .returned v ∧ (own_Qmet11 Z h0 n0 p1 nX G K) v U'.heap L ∧ FrameEnd U o U' L ({ frames := 3, cells := 4, slots := 25, locals := 38 } : Room).cells ({ frames := 3, cells := 4, slots := 25, locals := 38 } : Room).slots) := by
  refine OwnK.met (Q := (own_Qmet11 Z h0 n0 p1 nX G K)) (C := ({ frames := 3, cells := 4, slots := 25, locals := 38 } : Room).cells) (N := ({ frames := 3, cells := 4, slots := 25, locals := 38 } : Room).slots) own_pl_11 (own_ef_11_4 p1) ?_
  intro p e s m below meth c T0 X0 hx hZ hby hml hown hnm hret hlk e0
  have N0 := Fr.nil n0
  have K0 := Keep.refl h0 [p1]
  refine OwnK.aloadN X0 hx (hb hby own_d11_0) (pc' := 1) rfl (v := (.ref p1)) rfl rfl ?_
  refine OwnK.initO_ X0 hx hZ hown (hw _ (List.mem_of_getElem? (i := 51) rfl)) (hw _ (List.mem_of_getElem? (i := 12) rfl)) (hw _ (List.mem_of_getElem? (i := 13) rfl)) e0 (by rw [hml]; rfl) (hb hby own_d11_1) (pc' := 4) rfl (by decide) (W := 0) (Nat.le_of_eq rfl) (by decide) (fun T1 X1 e1 => ?_)
  refine OwnK.aloadN X1 hx (hb hby own_d11_4) (pc' := 5) rfl (v := (.ref p1)) rfl rfl ?_
  refine OwnK.new_ X1 hx hZ hown (hw _ (List.mem_of_getElem? (i := 52) rfl)) (hw _ (List.mem_of_getElem? (i := 53) rfl)) (hw _ (List.mem_of_getElem? (i := 54) rfl)) e1 (hb hby own_d11_5) (pc' := 8) rfl (by decide) (by decide) (fun T2 h2 a2 X2 e2 g2 E2 A2 D2 => ?_)
  have q3 : p1 ≠ a2 := Nat.ne_of_lt (Nat.lt_of_lt_of_le E0.lt (Nat.le_of_eq g2.symm))
  have ge_a2 : n0 ≤ a2 := Nat.le_trans Z0 (Nat.le_of_eq g2.symm)
  have sz_a2 : h0.size ≤ a2 := Nat.le_trans K0.1 (Nat.le_of_eq g2.symm)
  have z4 : n0 ≤ h2.size := Nat.le_trans Z0 E2.1
  have K5 := K0.ext E2
  have f6 := E0.ext E2
  have f7 := F_overflow.ext E2
  have f8 := F_groups.ext E2
  have f9 := F_keys.ext E2
  have f10 := F_slots.ext E2
  have f11 := F_mask.ext E2
  have f12 := F_count.ext E2
  have f13 := F_repeats.ext E2
  have f14 : Fld Z h2 a2 "java/util/TreeMap" "size" "I" (.int (0 : Int32)) := D2 (Or.inl (hw _ (List.mem_of_getElem? (i := 66) rfl))) (ty := .int) (by decide)
  have f15 : Fld Z h2 a2 "java/util/TreeMap" "modCount" "I" (.int (0 : Int32)) := D2 (Or.inl (hw _ (List.mem_of_getElem? (i := 68) rfl))) (ty := .int) (by decide)
  have f16 : Fld Z h2 a2 "java/util/TreeMap" "comparator" "Ljava/util/Comparator;" .null := D2 (Or.inr (hw _ (List.mem_of_getElem? (i := 70) rfl))) (ty := (.object "java/util/Comparator")) (by decide)
  refine OwnK.dup X2 hx (hb hby own_d11_8) (pc' := 9) rfl rfl ?_
  refine OwnK.callI_ X2 hx hZ hown (y := (⟨"java/util/TreeMap", "<init>", "()V"⟩ : MethodName)) (a := a2) rfl (hw _ (List.mem_of_getElem? (i := 55) rfl)) (hw _ (List.mem_of_getElem? (i := 56) rfl)) (hw _ (List.mem_of_getElem? (i := 54) rfl)) (hw _ (List.mem_of_getElem? (i := 57) rfl)) rfl (by decide) (own_met12 l Z a0 hw h2 n0 z4 a2   ge_a2 A2 f14 f15 f16 ) (by decide) (W := 2) (by decide) e2 (by rw [hml]; rfl) own_pd_1 (argsL := []) rfl (S := [(.ref a2), (.ref p1)]) rfl (Nat.le_of_eq rfl) (hb hby own_d11_9) (pc' := 12) rfl (by decide) (by decide) (fun T17 v17 L17 X17 hQ17 => ?_)
  obtain ⟨rfl, N17q, K17⟩ := hQ17
  have N18 := Fr.app N0 N17q
  have f19 := f6.keep K17
  have f20 := f7.keep K17 (ninS q3 nin0)
  have f21 := f8.keep K17 (ninS q3 nin0)
  have f22 := f9.keep K17 (ninS q3 nin0)
  have f23 := f10.keep K17 (ninS q3 nin0)
  have f24 := f11.keep K17 (ninS q3 nin0)
  have f25 := f12.keep K17 (ninS q3 nin0)
  have f26 := f13.keep K17 (ninS q3 nin0)
  have f27 := A2.keep K17
  have z28 : n0 ≤ T17.heap.size := Nat.le_trans z4 K17.1
  have K29 := K5.trans K17 (allS (Or.inr sz_a2) all0)
  refine OwnK.putF_ X17 hx hZ hown (hw _ (List.mem_of_getElem? (i := 71) rfl)) Via.refl rfl f20 f19 (Or.inr ⟨(hw _ (List.mem_of_getElem? (i := 72) rfl)), rfl, hnm⟩) (hw _ (List.mem_of_getElem? (i := 46) rfl)) (ty := (.object "java/util/Map")) (by decide) (v' := (.ref a2)) rfl rfl (hb hby own_d11_12) (pc' := 15) rfl (fun T30 h30 X30 e30 W30 => ?_)
  have f31 := f20.same W30
  have f32 := f19.wr W30
  have f33 := f21.other W30 (Or.inr (slot_ne (Or.inr (hw _ (List.mem_of_getElem? (i := 75) rfl))) (Or.inr (hw _ (List.mem_of_getElem? (i := 72) rfl))) (by decide) (t := (.array (.object "java/lang/String"))) (t' := (.object "java/util/Map")) (by decide) (by decide)))
  have f34 := f22.other W30 (Or.inr (slot_ne (Or.inr (hw _ (List.mem_of_getElem? (i := 77) rfl))) (Or.inr (hw _ (List.mem_of_getElem? (i := 72) rfl))) (by decide) (t := (.array (.object "java/lang/String"))) (t' := (.object "java/util/Map")) (by decide) (by decide)))
  have f35 := f23.other W30 (Or.inr (slot_ne (Or.inr (hw _ (List.mem_of_getElem? (i := 80) rfl))) (Or.inr (hw _ (List.mem_of_getElem? (i := 72) rfl))) (by decide) (t := (.array .int)) (t' := (.object "java/util/Map")) (by decide) (by decide)))
  have f36 := f24.other W30 (Or.inr (slot_ne (Or.inr (hw _ (List.mem_of_getElem? (i := 82) rfl))) (Or.inr (hw _ (List.mem_of_getElem? (i := 72) rfl))) (by decide) (t := .int) (t' := (.object "java/util/Map")) (by decide) (by decide)))
  have f37 := f25.other W30 (Or.inr (slot_ne (Or.inl (hw _ (List.mem_of_getElem? (i := 89) rfl))) (Or.inr (hw _ (List.mem_of_getElem? (i := 72) rfl))) (by decide) (t := .int) (t' := (.object "java/util/Map")) (by decide) (by decide)))
  have f38 := f26.other W30 (Or.inr (slot_ne (Or.inl (hw _ (List.mem_of_getElem? (i := 130) rfl))) (Or.inr (hw _ (List.mem_of_getElem? (i := 72) rfl))) (by decide) (t := (.array .int)) (t' := (.object "java/util/Map")) (by decide) (by decide)))
  have f39 := f27.wr W30
  have N40 := Fr.snoc X30 N18 ge_p1
  have K41 := K29.wr W30 (Or.inl (List.mem_of_getElem? (i := 0) rfl))
  have z42 : n0 ≤ h30.size := Nat.le_trans z28 (Keep.of_wr W30).1
  refine OwnK.aloadN X30 hx (hb hby own_d11_15) (pc' := 16) rfl (v := (.ref p1)) rfl rfl ?_
  refine OwnK.iloadN X30 hx (hb hby own_d11_16) (pc' := 17) rfl (v := (4 : Int32)) rfl ?_
  refine OwnK.newR_ X30 hx hZ hown (hw _ (List.mem_of_getElem? (i := 73) rfl)) (hw _ (List.mem_of_getElem? (i := 44) rfl)) e30 (hb hby own_d11_17) (pc' := 20) rfl (n := (4 : Int32)) (by decide) (cap := 4) (by decide) (by decide) (by decide) (by decide) (ad := "[Ljava/lang/String;") (by decide) (fun T43 h43 a43 k43 X43 e43 g43 E43 V43 Q43 O43 => ?_)
  have q44 : a2 ≠ a43 := Nat.ne_of_lt (Nat.lt_of_lt_of_le f39.lt (Nat.le_of_eq g43.symm))
  have q45 : p1 ≠ a43 := Nat.ne_of_lt (Nat.lt_of_lt_of_le f32.lt (Nat.le_of_eq g43.symm))
  have ge_a43 : n0 ≤ a43 := Nat.le_trans z42 (Nat.le_of_eq g43.symm)
  have sz_a43 : h0.size ≤ a43 := Nat.le_trans K41.1 (Nat.le_of_eq g43.symm)
  have z46 : n0 ≤ h43.size := Nat.le_trans z42 E43.1
  have K47 := K41.ext E43
  have f48 := f32.ext E43
  have f49 := f31.ext E43
  have f50 := f33.ext E43
  have f51 := f34.ext E43
  have f52 := f35.ext E43
  have f53 := f36.ext E43
  have f54 := f37.ext E43
  have f55 := f38.ext E43
  have f56 := f39.ext E43
  have f57 : Arv Z h43 a43 k43 (.object "java/lang/String") (4 : Int32) [.null, .null, .null, .null] .null := V43.pad (pad_rep [] .null 4)
  refine OwnK.putF_ X43 hx hZ hown (hw _ (List.mem_of_getElem? (i := 74) rfl)) Via.refl e43 f50 f48 (Or.inr ⟨(hw _ (List.mem_of_getElem? (i := 75) rfl)), rfl, hnm⟩) (hw _ (List.mem_of_getElem? (i := 46) rfl)) (ty := (.array (.object "java/lang/String"))) (by decide) (v' := (.ref a43)) rfl rfl (hb hby own_d11_20) (pc' := 23) rfl (fun T58 h58 X58 e58 W58 => ?_)
  have f59 := f50.same W58
  have f60 := f48.wr W58
  have f61 := f49.other W58 (Or.inr (slot_ne (Or.inr (hw _ (List.mem_of_getElem? (i := 72) rfl))) (Or.inr (hw _ (List.mem_of_getElem? (i := 75) rfl))) (by decide) (t := (.object "java/util/Map")) (t' := (.array (.object "java/lang/String"))) (by decide) (by decide)))
  have f62 := f51.other W58 (Or.inr (slot_ne (Or.inr (hw _ (List.mem_of_getElem? (i := 77) rfl))) (Or.inr (hw _ (List.mem_of_getElem? (i := 75) rfl))) (by decide) (t := (.array (.object "java/lang/String"))) (t' := (.array (.object "java/lang/String"))) (by decide) (by decide)))
  have f63 := f52.other W58 (Or.inr (slot_ne (Or.inr (hw _ (List.mem_of_getElem? (i := 80) rfl))) (Or.inr (hw _ (List.mem_of_getElem? (i := 75) rfl))) (by decide) (t := (.array .int)) (t' := (.array (.object "java/lang/String"))) (by decide) (by decide)))
  have f64 := f53.other W58 (Or.inr (slot_ne (Or.inr (hw _ (List.mem_of_getElem? (i := 82) rfl))) (Or.inr (hw _ (List.mem_of_getElem? (i := 75) rfl))) (by decide) (t := .int) (t' := (.array (.object "java/lang/String"))) (by decide) (by decide)))
  have f65 := f54.other W58 (Or.inr (slot_ne (Or.inl (hw _ (List.mem_of_getElem? (i := 89) rfl))) (Or.inr (hw _ (List.mem_of_getElem? (i := 75) rfl))) (by decide) (t := .int) (t' := (.array (.object "java/lang/String"))) (by decide) (by decide)))
  have f66 := f55.other W58 (Or.inr (slot_ne (Or.inl (hw _ (List.mem_of_getElem? (i := 130) rfl))) (Or.inr (hw _ (List.mem_of_getElem? (i := 75) rfl))) (by decide) (t := (.array .int)) (t' := (.array (.object "java/lang/String"))) (by decide) (by decide)))
  have f67 := f56.wr W58
  have f68 := f57.other W58 (Ne.symm q45)
  have f69 := Q43.wr W58
  have N70 := Fr.snoc X58 N40 ge_p1
  have K71 := K47.wr W58 (Or.inl (List.mem_of_getElem? (i := 0) rfl))
  have z72 : n0 ≤ h58.size := Nat.le_trans z46 (Keep.of_wr W58).1
  refine OwnK.aloadN X58 hx (hb hby own_d11_23) (pc' := 24) rfl (v := (.ref p1)) rfl rfl ?_
  refine OwnK.iloadN X58 hx (hb hby own_d11_24) (pc' := 25) rfl (v := (4 : Int32)) rfl ?_
  refine OwnK.newR_ X58 hx hZ hown (hw _ (List.mem_of_getElem? (i := 73) rfl)) (hw _ (List.mem_of_getElem? (i := 44) rfl)) e58 (hb hby own_d11_25) (pc' := 28) rfl (n := (4 : Int32)) (by decide) (cap := 4) (by decide) (by decide) (by decide) (by decide) (ad := "[Ljava/lang/String;") (by decide) (fun T73 h73 a73 k73 X73 e73 g73 E73 V73 Q73 O73 => ?_)
  have q74 : a2 ≠ a73 := Nat.ne_of_lt (Nat.lt_of_lt_of_le f67.lt (Nat.le_of_eq g73.symm))
  have q75 : a43 ≠ a73 := Nat.ne_of_lt (Nat.lt_of_lt_of_le f68.lt (Nat.le_of_eq g73.symm))
  have q76 : p1 ≠ a73 := Nat.ne_of_lt (Nat.lt_of_lt_of_le f60.lt (Nat.le_of_eq g73.symm))
  have ge_a73 : n0 ≤ a73 := Nat.le_trans z72 (Nat.le_of_eq g73.symm)
  have sz_a73 : h0.size ≤ a73 := Nat.le_trans K71.1 (Nat.le_of_eq g73.symm)
  have z77 : n0 ≤ h73.size := Nat.le_trans z72 E73.1
  have K78 := K71.ext E73
  have f79 := f60.ext E73
  have f80 := f61.ext E73
  have f81 := f59.ext E73
  have f82 := f62.ext E73
  have f83 := f63.ext E73
  have f84 := f64.ext E73
  have f85 := f65.ext E73
  have f86 := f66.ext E73
  have f87 := f67.ext E73
  have f88 := f68.ext E73
  have f89 := f69.ext E73
  have f90 : Arv Z h73 a73 k73 (.object "java/lang/String") (4 : Int32) [.null, .null, .null, .null] .null := V73.pad (pad_rep [] .null 4)
  refine OwnK.putF_ X73 hx hZ hown (hw _ (List.mem_of_getElem? (i := 76) rfl)) Via.refl e73 f82 f79 (Or.inr ⟨(hw _ (List.mem_of_getElem? (i := 77) rfl)), rfl, hnm⟩) (hw _ (List.mem_of_getElem? (i := 46) rfl)) (ty := (.array (.object "java/lang/String"))) (by decide) (v' := (.ref a73)) rfl rfl (hb hby own_d11_28) (pc' := 31) rfl (fun T91 h91 X91 e91 W91 => ?_)
  have f92 := f82.same W91
  have f93 := f79.wr W91
  have f94 := f80.other W91 (Or.inr (slot_ne (Or.inr (hw _ (List.mem_of_getElem? (i := 72) rfl))) (Or.inr (hw _ (List.mem_of_getElem? (i := 77) rfl))) (by decide) (t := (.object "java/util/Map")) (t' := (.array (.object "java/lang/String"))) (by decide) (by decide)))
  have f95 := f81.other W91 (Or.inr (slot_ne (Or.inr (hw _ (List.mem_of_getElem? (i := 75) rfl))) (Or.inr (hw _ (List.mem_of_getElem? (i := 77) rfl))) (by decide) (t := (.array (.object "java/lang/String"))) (t' := (.array (.object "java/lang/String"))) (by decide) (by decide)))
  have f96 := f83.other W91 (Or.inr (slot_ne (Or.inr (hw _ (List.mem_of_getElem? (i := 80) rfl))) (Or.inr (hw _ (List.mem_of_getElem? (i := 77) rfl))) (by decide) (t := (.array .int)) (t' := (.array (.object "java/lang/String"))) (by decide) (by decide)))
  have f97 := f84.other W91 (Or.inr (slot_ne (Or.inr (hw _ (List.mem_of_getElem? (i := 82) rfl))) (Or.inr (hw _ (List.mem_of_getElem? (i := 77) rfl))) (by decide) (t := .int) (t' := (.array (.object "java/lang/String"))) (by decide) (by decide)))
  have f98 := f85.other W91 (Or.inr (slot_ne (Or.inl (hw _ (List.mem_of_getElem? (i := 89) rfl))) (Or.inr (hw _ (List.mem_of_getElem? (i := 77) rfl))) (by decide) (t := .int) (t' := (.array (.object "java/lang/String"))) (by decide) (by decide)))
  have f99 := f86.other W91 (Or.inr (slot_ne (Or.inl (hw _ (List.mem_of_getElem? (i := 130) rfl))) (Or.inr (hw _ (List.mem_of_getElem? (i := 77) rfl))) (by decide) (t := (.array .int)) (t' := (.array (.object "java/lang/String"))) (by decide) (by decide)))
  have f100 := f87.wr W91
  have f101 := f88.other W91 (Ne.symm q45)
  have f102 := f89.wr W91
  have f103 := f90.other W91 (Ne.symm q76)
  have f104 := Q73.wr W91
  have N105 := Fr.snoc X91 N70 ge_p1
  have K106 := K78.wr W91 (Or.inl (List.mem_of_getElem? (i := 0) rfl))
  have z107 : n0 ≤ h91.size := Nat.le_trans z77 (Keep.of_wr W91).1
  refine OwnK.iconst X91 hx (hb hby own_d11_31) (pc' := 32) rfl (v := (2 : Int32)) (by decide) ?_
  refine OwnK.istoreN X91 hx (hb hby own_d11_32) (pc' := 33) rfl (Ls' := #[.val (.ref p1), .val (.int (4 : Int32)), .val (.int (2 : Int32))]) rfl ?_
  refine OwnK.iloadN X91 hx (hb hby own_d11_33) (pc' := 34) rfl (v := (2 : Int32)) rfl ?_
  refine OwnK.iconst X91 hx (hb hby own_d11_34) (pc' := 35) rfl (v := (2 : Int32)) (by decide) ?_
  refine OwnK.iloadN X91 hx (hb hby own_d11_35) (pc' := 36) rfl (v := (4 : Int32)) rfl ?_
  refine OwnK.imulL X91 hx (hb hby own_d11_36) (pc' := 37) rfl (z := (8 : Int32)) (by decide) ?_
  refine OwnK.icmp_ge X91 hx (hb hby own_d11_37) (by decide) (pcT := 47) (by decide) (pc' := 40) rfl (fun (hc37 : 8 ≤ 2) => absurd hc37 (by decide)) (fun hc37 => ?_)
  refine OwnK.iloadN X91 hx (hb hby own_d11_40) (pc' := 41) rfl (v := (2 : Int32)) rfl ?_
  refine OwnK.iconst X91 hx (hb hby own_d11_41) (pc' := 42) rfl (v := (2 : Int32)) (by decide) ?_
  refine OwnK.imulL X91 hx (hb hby own_d11_42) (pc' := 43) rfl (z := (4 : Int32)) (by decide) ?_
  refine OwnK.istoreN X91 hx (hb hby own_d11_43) (pc' := 44) rfl (Ls' := #[.val (.ref p1), .val (.int (4 : Int32)), .val (.int (4 : Int32))]) rfl ?_
  refine OwnK.goto_ X91 hx (hb hby own_d11_44) (by decide) (pc' := 33) (by decide) ?_
  refine OwnK.iloadN X91 hx (hb hby own_d11_33) (pc' := 34) rfl (v := (4 : Int32)) rfl ?_
  refine OwnK.iconst X91 hx (hb hby own_d11_34) (pc' := 35) rfl (v := (2 : Int32)) (by decide) ?_
  refine OwnK.iloadN X91 hx (hb hby own_d11_35) (pc' := 36) rfl (v := (4 : Int32)) rfl ?_
  refine OwnK.imulL X91 hx (hb hby own_d11_36) (pc' := 37) rfl (z := (8 : Int32)) (by decide) ?_
  refine OwnK.icmp_ge X91 hx (hb hby own_d11_37) (by decide) (pcT := 47) (by decide) (pc' := 40) rfl (fun (hc37 : 8 ≤ 4) => absurd hc37 (by decide)) (fun hc37 => ?_)
  refine OwnK.iloadN X91 hx (hb hby own_d11_40) (pc' := 41) rfl (v := (4 : Int32)) rfl ?_
  refine OwnK.iconst X91 hx (hb hby own_d11_41) (pc' := 42) rfl (v := (2 : Int32)) (by decide) ?_
  refine OwnK.imulL X91 hx (hb hby own_d11_42) (pc' := 43) rfl (z := (8 : Int32)) (by decide) ?_
  refine OwnK.istoreN X91 hx (hb hby own_d11_43) (pc' := 44) rfl (Ls' := #[.val (.ref p1), .val (.int (4 : Int32)), .val (.int (8 : Int32))]) rfl ?_
  refine OwnK.goto_ X91 hx (hb hby own_d11_44) (by decide) (pc' := 33) (by decide) ?_
  refine OwnK.iloadN X91 hx (hb hby own_d11_33) (pc' := 34) rfl (v := (8 : Int32)) rfl ?_
  refine OwnK.iconst X91 hx (hb hby own_d11_34) (pc' := 35) rfl (v := (2 : Int32)) (by decide) ?_
  refine OwnK.iloadN X91 hx (hb hby own_d11_35) (pc' := 36) rfl (v := (4 : Int32)) rfl ?_
  refine OwnK.imulL X91 hx (hb hby own_d11_36) (pc' := 37) rfl (z := (8 : Int32)) (by decide) ?_
  refine OwnK.icmp_ge X91 hx (hb hby own_d11_37) (by decide) (pcT := 47) (by decide) (pc' := 40) rfl (fun hc37 => ?_) (fun (hc37 : 8 < 8) => absurd hc37 (by decide))
  refine OwnK.aloadN X91 hx (hb hby own_d11_47) (pc' := 48) rfl (v := (.ref p1)) rfl rfl ?_
  refine OwnK.iloadN X91 hx (hb hby own_d11_48) (pc' := 49) rfl (v := (8 : Int32)) rfl ?_
  refine OwnK.newP_ X91 hx hZ (hw _ (List.mem_of_getElem? (i := 78) rfl)) e91 (hb hby own_d11_49) (pc' := 51) rfl (n := (8 : Int32)) (by decide) (cap := 8) (by decide) (by decide) (by decide) (by decide) (ad := "[I") (by decide) (fun T108 h108 a108 k108 X108 e108 g108 E108 V108 Q108 => ?_)
  have q109 : a2 ≠ a108 := Nat.ne_of_lt (Nat.lt_of_lt_of_le f100.lt (Nat.le_of_eq g108.symm))
  have q110 : a43 ≠ a108 := Nat.ne_of_lt (Nat.lt_of_lt_of_le f101.lt (Nat.le_of_eq g108.symm))
  have q111 : a73 ≠ a108 := Nat.ne_of_lt (Nat.lt_of_lt_of_le f103.lt (Nat.le_of_eq g108.symm))
  have q112 : p1 ≠ a108 := Nat.ne_of_lt (Nat.lt_of_lt_of_le f93.lt (Nat.le_of_eq g108.symm))
  have ge_a108 : n0 ≤ a108 := Nat.le_trans z107 (Nat.le_of_eq g108.symm)
  have sz_a108 : h0.size ≤ a108 := Nat.le_trans K106.1 (Nat.le_of_eq g108.symm)
  have z113 : n0 ≤ h108.size := Nat.le_trans z107 E108.1
  have K114 := K106.ext E108
  have f115 := f93.ext E108
  have f116 := f94.ext E108
  have f117 := f95.ext E108
  have f118 := f92.ext E108
  have f119 := f96.ext E108
  have f120 := f97.ext E108
  have f121 := f98.ext E108
  have f122 := f99.ext E108
  have f123 := f100.ext E108
  have f124 := f101.ext E108
  have f125 := f102.ext E108
  have f126 := f103.ext E108
  have f127 := f104.ext E108
  have f128 : Arv Z h108 a108 k108 .int (8 : Int32) [(.int (0 : Int32)), (.int (0 : Int32)), (.int (0 : Int32)), (.int (0 : Int32)), (.int (0 : Int32)), (.int (0 : Int32)), (.int (0 : Int32)), (.int (0 : Int32))] (.int (0 : Int32)) := V108.pad (pad_rep [] (.int (0 : Int32)) 8)
  refine OwnK.putF_ X108 hx hZ hown (hw _ (List.mem_of_getElem? (i := 79) rfl)) Via.refl e108 f119 f115 (Or.inr ⟨(hw _ (List.mem_of_getElem? (i := 80) rfl)), rfl, hnm⟩) (hw _ (List.mem_of_getElem? (i := 46) rfl)) (ty := (.array .int)) (by decide) (v' := (.ref a108)) rfl rfl (hb hby own_d11_51) (pc' := 54) rfl (fun T129 h129 X129 e129 W129 => ?_)
  have f130 := f119.same W129
  have f131 := f115.wr W129
  have f132 := f116.other W129 (Or.inr (slot_ne (Or.inr (hw _ (List.mem_of_getElem? (i := 72) rfl))) (Or.inr (hw _ (List.mem_of_getElem? (i := 80) rfl))) (by decide) (t := (.object "java/util/Map")) (t' := (.array .int)) (by decide) (by decide)))
  have f133 := f117.other W129 (Or.inr (slot_ne (Or.inr (hw _ (List.mem_of_getElem? (i := 75) rfl))) (Or.inr (hw _ (List.mem_of_getElem? (i := 80) rfl))) (by decide) (t := (.array (.object "java/lang/String"))) (t' := (.array .int)) (by decide) (by decide)))
  have f134 := f118.other W129 (Or.inr (slot_ne (Or.inr (hw _ (List.mem_of_getElem? (i := 77) rfl))) (Or.inr (hw _ (List.mem_of_getElem? (i := 80) rfl))) (by decide) (t := (.array (.object "java/lang/String"))) (t' := (.array .int)) (by decide) (by decide)))
  have f135 := f120.other W129 (Or.inr (slot_ne (Or.inr (hw _ (List.mem_of_getElem? (i := 82) rfl))) (Or.inr (hw _ (List.mem_of_getElem? (i := 80) rfl))) (by decide) (t := .int) (t' := (.array .int)) (by decide) (by decide)))
  have f136 := f121.other W129 (Or.inr (slot_ne (Or.inl (hw _ (List.mem_of_getElem? (i := 89) rfl))) (Or.inr (hw _ (List.mem_of_getElem? (i := 80) rfl))) (by decide) (t := .int) (t' := (.array .int)) (by decide) (by decide)))
  have f137 := f122.other W129 (Or.inr (slot_ne (Or.inl (hw _ (List.mem_of_getElem? (i := 130) rfl))) (Or.inr (hw _ (List.mem_of_getElem? (i := 80) rfl))) (by decide) (t := (.array .int)) (t' := (.array .int)) (by decide) (by decide)))
  have f138 := f123.wr W129
  have f139 := f124.other W129 (Ne.symm q45)
  have f140 := f125.wr W129
  have f141 := f126.other W129 (Ne.symm q76)
  have f142 := f127.wr W129
  have f143 := f128.other W129 (Ne.symm q112)
  have f144 := Q108.wr W129
  have N145 := Fr.snoc X129 N105 ge_p1
  have K146 := K114.wr W129 (Or.inl (List.mem_of_getElem? (i := 0) rfl))
  have z147 : n0 ≤ h129.size := Nat.le_trans z113 (Keep.of_wr W129).1
  refine OwnK.aloadN X129 hx (hb hby own_d11_54) (pc' := 55) rfl (v := (.ref p1)) rfl rfl ?_
  refine OwnK.iloadN X129 hx (hb hby own_d11_55) (pc' := 56) rfl (v := (8 : Int32)) rfl ?_
  refine OwnK.iconst X129 hx (hb hby own_d11_56) (pc' := 57) rfl (v := (1 : Int32)) (by decide) ?_
  refine OwnK.isubL X129 hx (hb hby own_d11_57) (pc' := 58) rfl (z := (7 : Int32)) (by decide) ?_
  refine OwnK.putF_ X129 hx hZ hown (hw _ (List.mem_of_getElem? (i := 81) rfl)) Via.refl e129 f135 f131 (Or.inr ⟨(hw _ (List.mem_of_getElem? (i := 82) rfl)), rfl, hnm⟩) (hw _ (List.mem_of_getElem? (i := 46) rfl)) (ty := .int) (by decide) (v' := (.int (7 : Int32))) rfl rfl (hb hby own_d11_58) (pc' := 61) rfl (fun T148 h148 X148 e148 W148 => ?_)
  have f149 := f135.same W148
  have f150 := f131.wr W148
  have f151 := f132.other W148 (Or.inr (slot_ne (Or.inr (hw _ (List.mem_of_getElem? (i := 72) rfl))) (Or.inr (hw _ (List.mem_of_getElem? (i := 82) rfl))) (by decide) (t := (.object "java/util/Map")) (t' := .int) (by decide) (by decide)))
  have f152 := f133.other W148 (Or.inr (slot_ne (Or.inr (hw _ (List.mem_of_getElem? (i := 75) rfl))) (Or.inr (hw _ (List.mem_of_getElem? (i := 82) rfl))) (by decide) (t := (.array (.object "java/lang/String"))) (t' := .int) (by decide) (by decide)))
  have f153 := f134.other W148 (Or.inr (slot_ne (Or.inr (hw _ (List.mem_of_getElem? (i := 77) rfl))) (Or.inr (hw _ (List.mem_of_getElem? (i := 82) rfl))) (by decide) (t := (.array (.object "java/lang/String"))) (t' := .int) (by decide) (by decide)))
  have f154 := f130.other W148 (Or.inr (slot_ne (Or.inr (hw _ (List.mem_of_getElem? (i := 80) rfl))) (Or.inr (hw _ (List.mem_of_getElem? (i := 82) rfl))) (by decide) (t := (.array .int)) (t' := .int) (by decide) (by decide)))
  have f155 := f136.other W148 (Or.inr (slot_ne (Or.inl (hw _ (List.mem_of_getElem? (i := 89) rfl))) (Or.inr (hw _ (List.mem_of_getElem? (i := 82) rfl))) (by decide) (t := .int) (t' := .int) (by decide) (by decide)))
  have f156 := f137.other W148 (Or.inr (slot_ne (Or.inl (hw _ (List.mem_of_getElem? (i := 130) rfl))) (Or.inr (hw _ (List.mem_of_getElem? (i := 82) rfl))) (by decide) (t := (.array .int)) (t' := .int) (by decide) (by decide)))
  have f157 := f138.wr W148
  have f158 := f139.other W148 (Ne.symm q45)
  have f159 := f140.wr W148
  have f160 := f141.other W148 (Ne.symm q76)
  have f161 := f142.wr W148
  have f162 := f143.other W148 (Ne.symm q112)
  have f163 := f144.wr W148
  have N164 := Fr.snoc X148 N145 ge_p1
  have K165 := K146.wr W148 (Or.inl (List.mem_of_getElem? (i := 0) rfl))
  have z166 : n0 ≤ h148.size := Nat.le_trans z147 (Keep.of_wr W148).1
  refine OwnK.retV_ X148 hx hret hlk (hb hby own_d11_61) (by decide) (by decide) ?_
  rw [show T148.heap = h148 from e148]
  exact ⟨a108, a43, a73, _, _, _, rfl, N164, K165, ⟨hp, (Nat.le_trans bx sz_a108), (Nat.le_trans bx sz_a43), (Nat.le_trans bx sz_a73)⟩, ⟨q112, q45, q76, (Ne.symm q110), (Ne.symm q111), q75⟩, f150, f155, f154, f149, f152, f153, f156, f162, f158, O43, f160, O73, ⟨rfl, own_z4le, Or.inl ⟨rfl, rfl, rfl⟩⟩, own_inv0 G K⟩
def own_Qmet15 (Z : State) (h0 : Heap) (n0 : Nat) (p1 : Addr) (p2 : Addr) (p3 : Addr) (nS nX : Nat) (as ag ak ra : Addr) (kS kG kK : ClassId) (rv : Value) (cn : Int32) (N : Nat) (sl rl : List Nat) (gl kl : List Value) (G K : Nat → Addr) (q : Nat → Bool) (gA gB kA kB : Addr) (xA xB ya0 ya1 yb0 yb1 cs : Int32) (v : Option Value) (h : Heap) (L : List Loc) : Prop := v = some (.int (Int32.ofNat (own_find sl q 16 (own_home (own_H1 (own_x gA xA xB p2)) (own_H2 (own_x kA ya0 yb0 p3) (own_x kA ya1 yb1 p3)))))) ∧ Fr n0 L ∧ Keep h0 h [p2, p3] ∧ own_U Z nS h gA gB kA kB xA xB ya0 ya1 yb0 yb1
set_option maxRecDepth 65536 in
set_option maxHeartbeats 40000000 in
theorem own_met15 (l : Launch) (Z : State) (a0 : Array Value) (hw : ∀ d ∈ tables_1, d.before a0 Z = true) (h0 : Heap) (n0 : Nat) (Z0 : n0 ≤ h0.size) (p1 : Addr) (p2 : Addr) (p3 : Addr) (nS nX : Nat) (as ag ak ra : Addr) (kS kG kK : ClassId) (rv : Value) (cn : Int32) (N : Nat) (sl rl : List Nat) (gl kl : List Value) (G K : Nat → Addr) (q : Nat → Bool) (gA gB kA kB : Addr) (xA xB ya0 ya1 yb0 yb1 cs : Int32) (O0 : Old Z n0 h0) (ge_p2 : n0 ≤ p2) (ge_p3 : n0 ≤ p3) (U0 : own_U Z nS h0 gA gB kA kB xA xB ya0 ya1 yb0 yb1) (XI : own_X Z nX h0 p1 as ag ak ra kS kG kK rv cn N sl rl gl kl G K) (hg : p2 = gA ∨ p2 = gB) (hk : p3 = kA ∨ p3 = kB) (hG : ∀ j, j < N → G j = gA ∨ G j = gB) (hK : ∀ j, j < N → K j = kA ∨ K j = kB) (hq : ∀ j, j < N → q j = own_same1 (own_x gA xA xB (G j)) (own_x gA xA xB p2) (own_x kA ya0 yb0 (K j)) (own_x kA ya0 yb0 p3) (own_x kA ya1 yb1 (K j)) (own_x kA ya1 yb1 p3)) (hok : (own_find sl q 16 (own_home (own_H1 (own_x gA xA xB p2)) (own_H2 (own_x kA ya0 yb0 p3) (own_x kA ya1 yb1 p3)))) < 8) (hSX : nS ≤ nX) (hN : N < 4) (hcs : ¬ cs.toInt = 0) (SS : Sta Z Z.heap "java/lang/String" "COMPACT_STRINGS" "Z" (.int cs)) :
    MetFree l (⟨"com/example/entryway/entryway/KeyIndex", "slotOf", "(Ljava/lang/String;Ljava/lang/String;)I"⟩ : MethodName) (head1 [Jvm.Cond.code (⟨"com/example/entryway/entryway/KeyIndex", "slotOf", "(Ljava/lang/String;Ljava/lang/String;)I"⟩ : MethodName) prog_47_method_10_code 7 (some .int)] ({ frames := 4, cells := 0, slots := 0, locals := 59 } : Room)) (fun a U => a = #[(.ref p1), (.ref p2), (.ref p3)] ∧ Z.Warmed39 U.vm ∧ U.heap = h0) (fun _ _ _ _ _ => True) (fun _ U o U' => ∃ v L, o = .returned v ∧ (own_Qmet15 Z h0 n0 p1 p2 p3 nS nX as ag ak ra kS kG kK rv cn N sl rl gl kl G K q gA gB kA kB xA xB ya0 ya1 yb0 yb1 cs) v U'.heap L ∧ FrameEnd U o U' L ({ frames := 4, cells := 0, slots := 0, locals := 59 } : Room).cells ({ frames := 4, cells := 0, slots := 0, locals := 59 } : Room).slots) := by
  refine OwnK.met (Q := (own_Qmet15 Z h0 n0 p1 p2 p3 nS nX as ag ak ra kS kG kK rv cn N sl rl gl kl G K q gA gB kA kB xA xB ya0 ya1 yb0 yb1 cs)) (C := ({ frames := 4, cells := 0, slots := 0, locals := 59 } : Room).cells) (N := ({ frames := 4, cells := 0, slots := 0, locals := 59 } : Room).slots) own_pl_15 (own_ef_15 p1 p2 p3) ?_
  intro p e s m below meth c T0 X0 hx hZ hby hml hown hnm hret hlk e0
  have N0 := Fr.nil n0
  have K0 := Keep.refl h0 [p2, p3]
  obtain ⟨⟨bi, bs, bg, bk⟩, ⟨m1, m2, m3, m4, m5, m6⟩, Ei, Fct, Fsl, Fma, Fgr, Fke, Fre, Vsl, Vgr, Ogr, Vke, Oke, Rp, iv⟩ := XI
  have lp2 := (own_Ug U0 hg).1
  have lp3 := (own_Uy U0 hk).1
  have Ep2 := own_S4e (own_Ug U0 hg)
  have Ep3 := own_S4e (own_Uy U0 hk)
  have q1 : p1 ≠ p2 := Nat.ne_of_gt (Nat.lt_of_lt_of_le lp2 (Nat.le_trans hSX bi))
  have q2 : p1 ≠ p3 := Nat.ne_of_gt (Nat.lt_of_lt_of_le lp3 (Nat.le_trans hSX bi))
  have q3 : as ≠ p2 := Nat.ne_of_gt (Nat.lt_of_lt_of_le lp2 (Nat.le_trans hSX bs))
  have q4 : as ≠ p3 := Nat.ne_of_gt (Nat.lt_of_lt_of_le lp3 (Nat.le_trans hSX bs))
  have q5 : ag ≠ p2 := Nat.ne_of_gt (Nat.lt_of_lt_of_le lp2 (Nat.le_trans hSX bg))
  have q6 : ag ≠ p3 := Nat.ne_of_gt (Nat.lt_of_lt_of_le lp3 (Nat.le_trans hSX bg))
  have q7 : ak ≠ p2 := Nat.ne_of_gt (Nat.lt_of_lt_of_le lp2 (Nat.le_trans hSX bk))
  have q8 : ak ≠ p3 := Nat.ne_of_gt (Nat.lt_of_lt_of_le lp3 (Nat.le_trans hSX bk))
  have lit0 : (0 : Int32).toInt = 0 := by decide
  have lit1 : (1 : Int32).toInt = 1 := by decide
  have lit2 : (2 : Int32).toInt = 2 := by decide
  have lit4 : (4 : Int32).toInt = 4 := by decide
  have lit8 : (8 : Int32).toInt = 8 := by decide
  refine OwnK.bipush X0 hx (hb hby own_d15_0) (pc' := 2) rfl (v := (31 : Int32)) (by decide) ?_
  refine OwnK.aloadN X0 hx (hb hby own_d15_2) (pc' := 3) rfl (v := (.ref p2)) rfl rfl ?_
  obtain ⟨lu10, tu10, ku10, mu10, Su10⟩ := own_Ug U0 hg
  refine OwnK.callV_ X0 hx hZ hown (y := (⟨"java/lang/String", "hashCode", "()I"⟩ : MethodName)) (z := (⟨"java/lang/String", "hashCode", "()I"⟩ : MethodName)) (a := p2) (hw _ (List.mem_of_getElem? (i := 94) rfl)) (hw _ (List.mem_of_getElem? (i := 95) rfl)) (notFace_of_selects (args := #[]) (mvT hZ (hw _ (List.mem_of_getElem? (i := 97) rfl)))) (hw _ (List.mem_of_getElem? (i := 97) rfl)) (hw _ (List.mem_of_getElem? (i := 96) rfl)) (hw _ (List.mem_of_getElem? (i := 98) rfl)) (hw _ (List.mem_of_getElem? (i := 3) rfl)) (by decide) Ep2 (own_met16_1 l Z a0 hw h0 n0 Z0 p2 tu10 _ (own_x gA xA xB p2) (0 : Int32) cs O0 ge_p2 Su10 hcs SS ) (by decide) (W := 1) (by decide) e0 (by rw [hml]; rfl) own_pd_0 (argsL := []) rfl (S := [(.int (31 : Int32))]) rfl (Nat.le_of_eq rfl) (hb hby own_d15_3) (pc' := 6) rfl (by decide) (by decide) (fun T9 v9 L9 X9 hQ9 => ?_)
  obtain ⟨rfl, N9q, K9, Hw9⟩ := hQ9
  have N11 := Fr.app N0 N9q
  have f12 := Ei.keep K9
  have f13 := Fct.keep K9 (ninS q1 nin0)
  have f14 := Fsl.keep K9 (ninS q1 nin0)
  have f15 := Fma.keep K9 (ninS q1 nin0)
  have f16 := Fgr.keep K9 (ninS q1 nin0)
  have f17 := Fke.keep K9 (ninS q1 nin0)
  have f18 := Vsl.keep K9 (ninS q3 nin0)
  have f19 := Vgr.keep K9 (ninS q5 nin0)
  have f20 := Vke.keep K9 (ninS q7 nin0)
  have f21 := Ep2.keep K9
  have f22 := Ep3.keep K9
  have z23 : n0 ≤ T9.heap.size := Nat.le_trans Z0 K9.1
  have O24 := O0.keep K9 (allS ge_p2 all0)
  have K25 := K0.trans K9 (allS (Or.inl (List.mem_of_getElem? (i := 0) rfl)) all0)
  have U9 := own_Uhg hw U0 hg Hw9
  refine OwnK.imul X9 hx (hb hby own_d15_6) (pc' := 7) rfl ?_
  refine OwnK.aloadN X9 hx (hb hby own_d15_7) (pc' := 8) rfl (v := (.ref p3)) rfl rfl ?_
  obtain ⟨lu27, tu27, ku27, mu27, Su27⟩ := own_Uy U9 hk
  refine OwnK.callV_ X9 hx hZ hown (y := (⟨"java/lang/String", "hashCode", "()I"⟩ : MethodName)) (z := (⟨"java/lang/String", "hashCode", "()I"⟩ : MethodName)) (a := p3) (hw _ (List.mem_of_getElem? (i := 94) rfl)) (hw _ (List.mem_of_getElem? (i := 95) rfl)) (notFace_of_selects (args := #[]) (mvT hZ (hw _ (List.mem_of_getElem? (i := 97) rfl)))) (hw _ (List.mem_of_getElem? (i := 97) rfl)) (hw _ (List.mem_of_getElem? (i := 96) rfl)) (hw _ (List.mem_of_getElem? (i := 98) rfl)) (hw _ (List.mem_of_getElem? (i := 3) rfl)) (by decide) f22 (own_met16_2 l Z a0 hw T9.heap n0 z23 p3 tu27 _ (own_x kA ya0 yb0 p3) (own_x kA ya1 yb1 p3) cs O24 ge_p3 Su27 hcs SS ) (by decide) (W := 1) (by decide) rfl (by rw [hml]; rfl) own_pd_0 (argsL := []) rfl (S := [(.int ((31 : Int32) * (own_H1 (own_x gA xA xB p2))))]) rfl (Nat.le_of_eq rfl) (hb hby own_d15_8) (pc' := 11) rfl (by decide) (by decide) (fun T26 v26 L26 X26 hQ26 => ?_)
  obtain ⟨rfl, N26q, K26, Hw26⟩ := hQ26
  have N28 := Fr.app N11 N26q
  have f29 := f12.keep K26
  have f30 := f13.keep K26 (ninS q2 nin0)
  have f31 := f14.keep K26 (ninS q2 nin0)
  have f32 := f15.keep K26 (ninS q2 nin0)
  have f33 := f16.keep K26 (ninS q2 nin0)
  have f34 := f17.keep K26 (ninS q2 nin0)
  have f35 := f18.keep K26 (ninS q4 nin0)
  have f36 := f19.keep K26 (ninS q6 nin0)
  have f37 := f20.keep K26 (ninS q8 nin0)
  have f38 := f21.keep K26
  have f39 := f22.keep K26
  have z40 : n0 ≤ T26.heap.size := Nat.le_trans z23 K26.1
  have O41 := O24.keep K26 (allS ge_p3 all0)
  have K42 := K25.trans K26 (allS (Or.inl (List.mem_of_getElem? (i := 1) rfl)) all0)
  have U26 := own_Uhy hw U9 hk Hw26
  refine OwnK.iadd X26 hx (hb hby own_d15_11) (pc' := 12) rfl ?_
  refine OwnK.istoreNG X26 hx (hb hby own_d15_12) (pc' := 13) rfl (Ls' := fun u => #[.val (.ref p1), .val (.ref p2), .val (.ref p3), .val (.int u), .unset, .unset, .unset]) (fun u => rfl) (fun u43 (hu43 : u43 = (((31 : Int32) * (own_H1 (own_x gA xA xB p2))) + (own_H2 (own_x kA ya0 yb0 p3) (own_x kA ya1 yb1 p3)))) => ?_)
  refine OwnK.iloadN X26 hx (hb hby own_d15_13) (pc' := 14) rfl (v := u43) rfl ?_
  refine OwnK.iloadN X26 hx (hb hby own_d15_14) (pc' := 15) rfl (v := u43) rfl ?_
  refine OwnK.bipush X26 hx (hb hby own_d15_15) (pc' := 17) rfl (v := (16 : Int32)) (by decide) ?_
  refine OwnK.iushr X26 hx (hb hby own_d15_17) (pc' := 18) rfl ?_
  refine OwnK.ixor X26 hx (hb hby own_d15_18) (pc' := 19) rfl ?_
  refine OwnK.aloadN X26 hx (hb hby own_d15_19) (pc' := 20) rfl (v := (.ref p1)) rfl rfl ?_
  refine OwnK.getF_ X26 hx hZ hown (host := "") (Or.inl (hw _ (List.mem_of_getElem? (i := 81) rfl))) Via.refl rfl f32 (hb hby own_d15_20) (pc' := 23) rfl (fun T44 X44 e44 => ?_)
  refine OwnK.iand X44 hx (hb hby own_d15_23) (pc' := 24) rfl ?_
  refine OwnK.istoreG X44 hx (hb hby own_d15_24) (pc' := 26) rfl (Ls' := fun u => #[.val (.ref p1), .val (.ref p2), .val (.ref p3), .val (.int u43), .val (.int u), .unset, .unset]) (fun u => rfl) (fun u45 (hu45 : u45 = ((u43 ^^^ (XT.ushr u43 (16 : Int32))) &&& (7 : Int32))) => ?_)
  have hP : u45.toInt = (own_home (own_H1 (own_x gA xA xB p2)) (own_H2 (own_x kA ya0 yb0 p3) (own_x kA ya1 yb1 p3))) := by rw [hu45, hu43]; exact (own_homeb _ _).1
  refine OwnK.iconst X44 hx (hb hby own_d15_26) (pc' := 27) rfl (v := (0 : Int32)) (by decide) ?_
  refine OwnK.istore X44 hx (hb hby own_d15_27) (pc' := 29) rfl (Ls' := #[.val (.ref p1), .val (.ref p2), .val (.ref p3), .val (.int u43), .val (.int u45), .val (.int (0 : Int32)), .unset]) rfl ?_
  refine OwnK.loop X44 e44 (Inv := fun f Ls => ∃ (i pos : Int32) (l6 : Slot) (n : Nat), Ls = #[.val (.ref p1), .val (.ref p2), .val (.ref p3), .val (.int u43), .val (.int pos), .val (.int i), l6] ∧ (l6 = .unset ∨ ∃ v : Int32, l6 = .val (.int v)) ∧ (0 ≤ i.toInt ∧ i.toInt + (f : Int) = 16) ∧ pos.toInt = n ∧ n < 8 ∧ own_find sl q f n = (own_find sl q 16 (own_home (own_H1 (own_x gA xA xB p2)) (own_H2 (own_x kA ya0 yb0 p3) (own_x kA ya1 yb1 p3))))) (f := 16) ⟨_, _, _, _, rfl, Or.inl rfl, by decide, hP, (own_homeb _ _).2, rfl⟩ (fun f TL LsL XL eL iL ihL => ?_)
  obtain ⟨i, pos, l6, n, rfl, h6, ⟨hi0, hi⟩, hp, hn, hf⟩ := iL
  rcases f with _ | f
  · exact absurd hok (by rw [← hf]; show ¬ 99 < 8; decide)
  rcases h6 with rfl | ⟨v6, rfl⟩
  · obtain ⟨lu47, tu47, ku47, mu47, Su47⟩ := own_Ug U26 hg
    obtain ⟨⟨Eu48, Cu48, Vu48, Bu48⟩, -⟩ := Su47
    obtain ⟨lu49, tu49, ku49, mu49, Su49⟩ := own_Uy U26 hk
    obtain ⟨⟨Eu50, Cu50, Vu50, Bu50⟩, -⟩ := Su49
    refine OwnK.iload XL hx (hb hby own_d15_29) (pc' := 31) rfl (v := i) rfl ?_
    refine OwnK.bipush XL hx (hb hby own_d15_31) (pc' := 33) rfl (v := (16 : Int32)) (by decide) ?_
    refine OwnK.icmp_ge XL hx (hb hby own_d15_33) (by decide) (pcT := 100) (by decide) (pc' := 36) rfl (fun (hc33 : 16 ≤ i.toInt) => by omega) (fun hc33 => ?_)
    refine OwnK.aloadN XL hx (hb hby own_d15_36) (pc' := 37) rfl (v := (.ref p1)) rfl rfl ?_
    refine OwnK.getF_ XL hx hZ hown (host := "") (Or.inl (hw _ (List.mem_of_getElem? (i := 79) rfl))) Via.refl eL f31 (hb hby own_d15_37) (pc' := 40) rfl (fun T51 X51 e51 => ?_)
    refine OwnK.iload X51 hx (hb hby own_d15_40) (pc' := 42) rfl (v := pos) rfl ?_
    refine OwnK.iaload X51 hx hZ e51 f35 (by omega) (by omega) (v := (.int (Int32.ofNat (sl.getD n 0)))) (own_vsget iv.1 hp hn) (hb hby own_d15_42) (pc' := 43) rfl ?_
    refine OwnK.iconst X51 hx (hb hby own_d15_43) (pc' := 44) rfl (v := (1 : Int32)) (by decide) ?_
    refine OwnK.isub X51 hx (hb hby own_d15_44) (pc' := 45) rfl ?_
    refine OwnK.istoreG X51 hx (hb hby own_d15_45) (pc' := 47) rfl (Ls' := fun u => #[.val (.ref p1), .val (.ref p2), .val (.ref p3), .val (.int u43), .val (.int pos), .val (.int i), .val (.int u)]) (fun u => rfl) (fun u52 (hu52 : u52 = ((Int32.ofNat (sl.getD n 0)) - (1 : Int32))) => ?_)
    have hbv : sl.getD n 0 ≤ 4 := own_invle iv (Nat.le_of_lt hN) hn
    have htv : u52.toInt = ((sl.getD n 0 : Nat) : Int) - 1 := by rw [hu52]; exact own_sub1 hbv
    refine OwnK.iload X51 hx (hb hby own_d15_47) (pc' := 49) rfl (v := u52) rfl ?_
    refine OwnK.if_lt X51 hx (hb hby own_d15_49) (by decide) (pcT := 80) (by decide) (pc' := 52) rfl (fun (hc53 : u52.toInt < 0) => ?_) (fun (hc53 : 0 ≤ u52.toInt) => ?_)
    · refine OwnK.iload X51 hx (hb hby own_d15_80) (pc' := 82) rfl (v := pos) rfl ?_
      refine OwnK.retI_ X51 hx hret hlk (hb hby own_d15_82) (by decide) (by decide) ?_
      rw [show T51.heap = T26.heap from e51]
      exact ⟨own_ret hf hp hn (own_fe (by omega)), N28, K42, U26⟩
    · obtain ⟨j, hjN, hje, hgj, hkj⟩ := iv.2.2.2 n hn (by omega)
      have hvj : u52.toInt = (j : Nat) := by omega
      obtain ⟨gj, egj⟩ : ∃ a, a = G j := ⟨_, rfl⟩
      obtain ⟨kj, ekj⟩ : ∃ a, a = K j := ⟨_, rfl⟩
      rw [← egj] at hgj
      rw [← ekj] at hkj
      have hGj : gj = gA ∨ gj = gB := by rw [egj]; exact hG j hjN
      have hKj : kj = kA ∨ kj = kB := by rw [ekj]; exact hK j hjN
      refine OwnK.aloadN X51 hx (hb hby own_d15_52) (pc' := 53) rfl (v := (.ref p1)) rfl rfl ?_
      refine OwnK.getF_ X51 hx hZ hown (host := "") (Or.inl (hw _ (List.mem_of_getElem? (i := 76) rfl))) Via.refl e51 f34 (hb hby own_d15_53) (pc' := 56) rfl (fun T54 X54 e54 => ?_)
      refine OwnK.iload X54 hx (hb hby own_d15_56) (pc' := 58) rfl (v := u52) rfl ?_
      obtain ⟨lu55, tu55, ku55, mu55, Su55⟩ := own_Uy U26 hKj
      obtain ⟨⟨Eu56, Cu56, Vu56, Bu56⟩, -⟩ := Su55
      refine OwnK.aaload X54 hx hZ e54 f37 rfl (by omega) (by omega) (v := (.ref kj)) (by rw [OwnK.jnat hvj]; exact hkj) (hb hby own_d15_58) (pc' := 59) rfl ?_
      refine OwnK.aloadN X54 hx (hb hby own_d15_59) (pc' := 60) rfl (v := (.ref p3)) rfl rfl ?_
      refine OwnK.callV_ X54 hx hZ hown (y := (⟨"java/lang/String", "equals", "(Ljava/lang/Object;)Z"⟩ : MethodName)) (z := (⟨"java/lang/String", "equals", "(Ljava/lang/Object;)Z"⟩ : MethodName)) (a := kj) (hw _ (List.mem_of_getElem? (i := 120) rfl)) (hw _ (List.mem_of_getElem? (i := 121) rfl)) (notFace_of_selects (args := #[]) (mvT hZ (hw _ (List.mem_of_getElem? (i := 123) rfl)))) (hw _ (List.mem_of_getElem? (i := 123) rfl)) (hw _ (List.mem_of_getElem? (i := 122) rfl)) (hw _ (List.mem_of_getElem? (i := 124) rfl)) (hw _ (List.mem_of_getElem? (i := 3) rfl)) (by decide) Eu56 (own_met21 l Z a0 hw T26.heap kj p3 n0 tu55 tu49 _ _ (2 : Int32) (own_x kA ya0 yb0 kj) (own_x kA ya1 yb1 kj) (2 : Int32) (own_x kA ya0 yb0 p3) (own_x kA ya1 yb1 p3) cs O41 ⟨Eu56, Cu56, Vu56, Bu56⟩ ⟨Eu50, Cu50, Vu50, Bu50⟩ (by decide) hcs SS ) (by decide) (W := 0) (by decide) e54 (by rw [hml]; rfl) own_pd_10 (argsL := [(.ref p3)]) rfl (S := []) rfl (Nat.le_of_eq rfl) (hb hby own_d15_60) (pc' := 63) rfl (by decide) (by decide) (fun T57 v57 L57 X57 hQ57 => ?_)
      obtain ⟨rfl, e57, rfl⟩ := hQ57
      have N58 := Fr.app N28 (Fr.nil n0)
      refine OwnK.if_eq X57 hx (hb hby own_d15_63) (by decide) (pcT := 83) (by decide) (pc' := 66) rfl (fun (hc59 : (own_eqI (2 : Int32).toInt (own_x kA ya0 yb0 kj).toInt (own_x kA ya1 yb1 kj).toInt (2 : Int32).toInt (own_x kA ya0 yb0 p3).toInt (own_x kA ya1 yb1 p3).toInt).toInt = 0) => ?_) (fun (hc59 : ¬ (own_eqI (2 : Int32).toInt (own_x kA ya0 yb0 kj).toInt (own_x kA ya1 yb1 kj).toInt (2 : Int32).toInt (own_x kA ya0 yb0 p3).toInt (own_x kA ya1 yb1 p3).toInt).toInt = 0) => ?_)
      · have hqf : q j = false := by rw [hq j hjN, ← egj, ← ekj]; exact own_qF1 hc59
        refine OwnK.iload X57 hx (hb hby own_d15_83) (pc' := 85) rfl (v := pos) rfl ?_
        refine OwnK.iconst X57 hx (hb hby own_d15_85) (pc' := 86) rfl (v := (1 : Int32)) (by decide) ?_
        refine OwnK.iadd X57 hx (hb hby own_d15_86) (pc' := 87) rfl ?_
        refine OwnK.aloadN X57 hx (hb hby own_d15_87) (pc' := 88) rfl (v := (.ref p1)) rfl rfl ?_
        refine OwnK.getF_ X57 hx hZ hown (host := "") (Or.inl (hw _ (List.mem_of_getElem? (i := 81) rfl))) Via.refl e57 f32 (hb hby own_d15_88) (pc' := 91) rfl (fun T60 X60 e60 => ?_)
        refine OwnK.iand X60 hx (hb hby own_d15_91) (pc' := 92) rfl ?_
        refine OwnK.istoreG X60 hx (hb hby own_d15_92) (pc' := 94) rfl (Ls' := fun u => #[.val (.ref p1), .val (.ref p2), .val (.ref p3), .val (.int u43), .val (.int u), .val (.int i), .val (.int u52)]) (fun u => rfl) (fun u61 (hu61 : u61 = ((pos + (1 : Int32)) &&& (7 : Int32))) => ?_)
        have hp2 : u61.toInt = ((n + 1) % 8 : Nat) := by rw [hu61]; exact own_nx hp hn
        refine OwnK.iinc X60 hx (hb hby own_d15_94) (pc' := 97) rfl (v := (1 : Int32)) (by decide) (x := i) rfl (Ls' := #[.val (.ref p1), .val (.ref p2), .val (.ref p3), .val (.int u43), .val (.int u61), .val (.int (i + (1 : Int32))), .val (.int u52)]) rfl ?_
        refine OwnK.goto_ X60 hx (hb hby own_d15_97) (by decide) (pc' := 29) (by decide) ?_
        exact ihL _ _ f (by have q := X60; simp only [List.append_nil] at q; exact q) e60 (Nat.lt_succ_self f) ⟨_, _, _, _, rfl, Or.inr ⟨_, rfl⟩, own_inc hi0 hi, hp2, Nat.mod_lt _ (by decide), by rw [← hf, own_fn hje hqf]⟩
      · refine OwnK.aloadN X57 hx (hb hby own_d15_66) (pc' := 67) rfl (v := (.ref p1)) rfl rfl ?_
        refine OwnK.getF_ X57 hx hZ hown (host := "") (Or.inl (hw _ (List.mem_of_getElem? (i := 74) rfl))) Via.refl e57 f33 (hb hby own_d15_67) (pc' := 70) rfl (fun T62 X62 e62 => ?_)
        refine OwnK.iload X62 hx (hb hby own_d15_70) (pc' := 72) rfl (v := u52) rfl ?_
        obtain ⟨lu63, tu63, ku63, mu63, Su63⟩ := own_Ug U26 hGj
        obtain ⟨⟨Eu64, Cu64, Vu64, Bu64⟩, -⟩ := Su63
        refine OwnK.aaload X62 hx hZ e62 f36 rfl (by omega) (by omega) (v := (.ref gj)) (by rw [OwnK.jnat hvj]; exact hgj) (hb hby own_d15_72) (pc' := 73) rfl ?_
        refine OwnK.aloadN X62 hx (hb hby own_d15_73) (pc' := 74) rfl (v := (.ref p2)) rfl rfl ?_
        refine OwnK.callV_ X62 hx hZ hown (y := (⟨"java/lang/String", "equals", "(Ljava/lang/Object;)Z"⟩ : MethodName)) (z := (⟨"java/lang/String", "equals", "(Ljava/lang/Object;)Z"⟩ : MethodName)) (a := gj) (hw _ (List.mem_of_getElem? (i := 120) rfl)) (hw _ (List.mem_of_getElem? (i := 121) rfl)) (notFace_of_selects (args := #[]) (mvT hZ (hw _ (List.mem_of_getElem? (i := 123) rfl)))) (hw _ (List.mem_of_getElem? (i := 123) rfl)) (hw _ (List.mem_of_getElem? (i := 122) rfl)) (hw _ (List.mem_of_getElem? (i := 124) rfl)) (hw _ (List.mem_of_getElem? (i := 3) rfl)) (by decide) Eu64 (own_met21 l Z a0 hw T26.heap gj p2 n0 tu63 tu47 _ _ (1 : Int32) (own_x gA xA xB gj) (0 : Int32) (1 : Int32) (own_x gA xA xB p2) (0 : Int32) cs O41 ⟨Eu64, Cu64, Vu64, Bu64⟩ ⟨Eu48, Cu48, Vu48, Bu48⟩ (by decide) hcs SS ) (by decide) (W := 0) (by decide) e62 (by rw [hml]; rfl) own_pd_10 (argsL := [(.ref p2)]) rfl (S := []) rfl (Nat.le_of_eq rfl) (hb hby own_d15_74) (pc' := 77) rfl (by decide) (by decide) (fun T65 v65 L65 X65 hQ65 => ?_)
        obtain ⟨rfl, e65, rfl⟩ := hQ65
        have N66 := Fr.app N58 (Fr.nil n0)
        refine OwnK.if_eq X65 hx (hb hby own_d15_77) (by decide) (pcT := 83) (by decide) (pc' := 80) rfl (fun (hc67 : (own_eqI (1 : Int32).toInt (own_x gA xA xB gj).toInt (0 : Int32).toInt (1 : Int32).toInt (own_x gA xA xB p2).toInt (0 : Int32).toInt).toInt = 0) => ?_) (fun (hc67 : ¬ (own_eqI (1 : Int32).toInt (own_x gA xA xB gj).toInt (0 : Int32).toInt (1 : Int32).toInt (own_x gA xA xB p2).toInt (0 : Int32).toInt).toInt = 0) => ?_)
        · have hqf : q j = false := by rw [hq j hjN, ← egj, ← ekj]; exact own_qF2 hc67
          refine OwnK.iload X65 hx (hb hby own_d15_83) (pc' := 85) rfl (v := pos) rfl ?_
          refine OwnK.iconst X65 hx (hb hby own_d15_85) (pc' := 86) rfl (v := (1 : Int32)) (by decide) ?_
          refine OwnK.iadd X65 hx (hb hby own_d15_86) (pc' := 87) rfl ?_
          refine OwnK.aloadN X65 hx (hb hby own_d15_87) (pc' := 88) rfl (v := (.ref p1)) rfl rfl ?_
          refine OwnK.getF_ X65 hx hZ hown (host := "") (Or.inl (hw _ (List.mem_of_getElem? (i := 81) rfl))) Via.refl e65 f32 (hb hby own_d15_88) (pc' := 91) rfl (fun T68 X68 e68 => ?_)
          refine OwnK.iand X68 hx (hb hby own_d15_91) (pc' := 92) rfl ?_
          refine OwnK.istoreG X68 hx (hb hby own_d15_92) (pc' := 94) rfl (Ls' := fun u => #[.val (.ref p1), .val (.ref p2), .val (.ref p3), .val (.int u43), .val (.int u), .val (.int i), .val (.int u52)]) (fun u => rfl) (fun u69 (hu69 : u69 = ((pos + (1 : Int32)) &&& (7 : Int32))) => ?_)
          have hp2 : u69.toInt = ((n + 1) % 8 : Nat) := by rw [hu69]; exact own_nx hp hn
          refine OwnK.iinc X68 hx (hb hby own_d15_94) (pc' := 97) rfl (v := (1 : Int32)) (by decide) (x := i) rfl (Ls' := #[.val (.ref p1), .val (.ref p2), .val (.ref p3), .val (.int u43), .val (.int u69), .val (.int (i + (1 : Int32))), .val (.int u52)]) rfl ?_
          refine OwnK.goto_ X68 hx (hb hby own_d15_97) (by decide) (pc' := 29) (by decide) ?_
          exact ihL _ _ f (by have q := X68; simp only [List.append_nil] at q; exact q) e68 (Nat.lt_succ_self f) ⟨_, _, _, _, rfl, Or.inr ⟨_, rfl⟩, own_inc hi0 hi, hp2, Nat.mod_lt _ (by decide), by rw [← hf, own_fn hje hqf]⟩
        · have hqt : q j = true := by rw [hq j hjN, ← egj, ← ekj]; exact own_qT hc59 hc67
          refine OwnK.iload X65 hx (hb hby own_d15_80) (pc' := 82) rfl (v := pos) rfl ?_
          refine OwnK.retI_ X65 hx hret hlk (hb hby own_d15_82) (by decide) (by decide) ?_
          rw [show T65.heap = T26.heap from e65]
          exact ⟨own_ret hf hp hn (own_fq hje hqt), N66, K42, U26⟩
  · obtain ⟨lu70, tu70, ku70, mu70, Su70⟩ := own_Ug U26 hg
    obtain ⟨⟨Eu71, Cu71, Vu71, Bu71⟩, -⟩ := Su70
    obtain ⟨lu72, tu72, ku72, mu72, Su72⟩ := own_Uy U26 hk
    obtain ⟨⟨Eu73, Cu73, Vu73, Bu73⟩, -⟩ := Su72
    refine OwnK.iload XL hx (hb hby own_d15_29) (pc' := 31) rfl (v := i) rfl ?_
    refine OwnK.bipush XL hx (hb hby own_d15_31) (pc' := 33) rfl (v := (16 : Int32)) (by decide) ?_
    refine OwnK.icmp_ge XL hx (hb hby own_d15_33) (by decide) (pcT := 100) (by decide) (pc' := 36) rfl (fun (hc33 : 16 ≤ i.toInt) => by omega) (fun hc33 => ?_)
    refine OwnK.aloadN XL hx (hb hby own_d15_36) (pc' := 37) rfl (v := (.ref p1)) rfl rfl ?_
    refine OwnK.getF_ XL hx hZ hown (host := "") (Or.inl (hw _ (List.mem_of_getElem? (i := 79) rfl))) Via.refl eL f31 (hb hby own_d15_37) (pc' := 40) rfl (fun T74 X74 e74 => ?_)
    refine OwnK.iload X74 hx (hb hby own_d15_40) (pc' := 42) rfl (v := pos) rfl ?_
    refine OwnK.iaload X74 hx hZ e74 f35 (by omega) (by omega) (v := (.int (Int32.ofNat (sl.getD n 0)))) (own_vsget iv.1 hp hn) (hb hby own_d15_42) (pc' := 43) rfl ?_
    refine OwnK.iconst X74 hx (hb hby own_d15_43) (pc' := 44) rfl (v := (1 : Int32)) (by decide) ?_
    refine OwnK.isub X74 hx (hb hby own_d15_44) (pc' := 45) rfl ?_
    refine OwnK.istoreG X74 hx (hb hby own_d15_45) (pc' := 47) rfl (Ls' := fun u => #[.val (.ref p1), .val (.ref p2), .val (.ref p3), .val (.int u43), .val (.int pos), .val (.int i), .val (.int u)]) (fun u => rfl) (fun u75 (hu75 : u75 = ((Int32.ofNat (sl.getD n 0)) - (1 : Int32))) => ?_)
    have hbv : sl.getD n 0 ≤ 4 := own_invle iv (Nat.le_of_lt hN) hn
    have htv : u75.toInt = ((sl.getD n 0 : Nat) : Int) - 1 := by rw [hu75]; exact own_sub1 hbv
    refine OwnK.iload X74 hx (hb hby own_d15_47) (pc' := 49) rfl (v := u75) rfl ?_
    refine OwnK.if_lt X74 hx (hb hby own_d15_49) (by decide) (pcT := 80) (by decide) (pc' := 52) rfl (fun (hc76 : u75.toInt < 0) => ?_) (fun (hc76 : 0 ≤ u75.toInt) => ?_)
    · refine OwnK.iload X74 hx (hb hby own_d15_80) (pc' := 82) rfl (v := pos) rfl ?_
      refine OwnK.retI_ X74 hx hret hlk (hb hby own_d15_82) (by decide) (by decide) ?_
      rw [show T74.heap = T26.heap from e74]
      exact ⟨own_ret hf hp hn (own_fe (by omega)), N28, K42, U26⟩
    · obtain ⟨j, hjN, hje, hgj, hkj⟩ := iv.2.2.2 n hn (by omega)
      have hvj : u75.toInt = (j : Nat) := by omega
      obtain ⟨gj, egj⟩ : ∃ a, a = G j := ⟨_, rfl⟩
      obtain ⟨kj, ekj⟩ : ∃ a, a = K j := ⟨_, rfl⟩
      rw [← egj] at hgj
      rw [← ekj] at hkj
      have hGj : gj = gA ∨ gj = gB := by rw [egj]; exact hG j hjN
      have hKj : kj = kA ∨ kj = kB := by rw [ekj]; exact hK j hjN
      refine OwnK.aloadN X74 hx (hb hby own_d15_52) (pc' := 53) rfl (v := (.ref p1)) rfl rfl ?_
      refine OwnK.getF_ X74 hx hZ hown (host := "") (Or.inl (hw _ (List.mem_of_getElem? (i := 76) rfl))) Via.refl e74 f34 (hb hby own_d15_53) (pc' := 56) rfl (fun T77 X77 e77 => ?_)
      refine OwnK.iload X77 hx (hb hby own_d15_56) (pc' := 58) rfl (v := u75) rfl ?_
      obtain ⟨lu78, tu78, ku78, mu78, Su78⟩ := own_Uy U26 hKj
      obtain ⟨⟨Eu79, Cu79, Vu79, Bu79⟩, -⟩ := Su78
      refine OwnK.aaload X77 hx hZ e77 f37 rfl (by omega) (by omega) (v := (.ref kj)) (by rw [OwnK.jnat hvj]; exact hkj) (hb hby own_d15_58) (pc' := 59) rfl ?_
      refine OwnK.aloadN X77 hx (hb hby own_d15_59) (pc' := 60) rfl (v := (.ref p3)) rfl rfl ?_
      refine OwnK.callV_ X77 hx hZ hown (y := (⟨"java/lang/String", "equals", "(Ljava/lang/Object;)Z"⟩ : MethodName)) (z := (⟨"java/lang/String", "equals", "(Ljava/lang/Object;)Z"⟩ : MethodName)) (a := kj) (hw _ (List.mem_of_getElem? (i := 120) rfl)) (hw _ (List.mem_of_getElem? (i := 121) rfl)) (notFace_of_selects (args := #[]) (mvT hZ (hw _ (List.mem_of_getElem? (i := 123) rfl)))) (hw _ (List.mem_of_getElem? (i := 123) rfl)) (hw _ (List.mem_of_getElem? (i := 122) rfl)) (hw _ (List.mem_of_getElem? (i := 124) rfl)) (hw _ (List.mem_of_getElem? (i := 3) rfl)) (by decide) Eu79 (own_met21 l Z a0 hw T26.heap kj p3 n0 tu78 tu72 _ _ (2 : Int32) (own_x kA ya0 yb0 kj) (own_x kA ya1 yb1 kj) (2 : Int32) (own_x kA ya0 yb0 p3) (own_x kA ya1 yb1 p3) cs O41 ⟨Eu79, Cu79, Vu79, Bu79⟩ ⟨Eu73, Cu73, Vu73, Bu73⟩ (by decide) hcs SS ) (by decide) (W := 0) (by decide) e77 (by rw [hml]; rfl) own_pd_10 (argsL := [(.ref p3)]) rfl (S := []) rfl (Nat.le_of_eq rfl) (hb hby own_d15_60) (pc' := 63) rfl (by decide) (by decide) (fun T80 v80 L80 X80 hQ80 => ?_)
      obtain ⟨rfl, e80, rfl⟩ := hQ80
      have N81 := Fr.app N28 (Fr.nil n0)
      refine OwnK.if_eq X80 hx (hb hby own_d15_63) (by decide) (pcT := 83) (by decide) (pc' := 66) rfl (fun (hc82 : (own_eqI (2 : Int32).toInt (own_x kA ya0 yb0 kj).toInt (own_x kA ya1 yb1 kj).toInt (2 : Int32).toInt (own_x kA ya0 yb0 p3).toInt (own_x kA ya1 yb1 p3).toInt).toInt = 0) => ?_) (fun (hc82 : ¬ (own_eqI (2 : Int32).toInt (own_x kA ya0 yb0 kj).toInt (own_x kA ya1 yb1 kj).toInt (2 : Int32).toInt (own_x kA ya0 yb0 p3).toInt (own_x kA ya1 yb1 p3).toInt).toInt = 0) => ?_)
      · have hqf : q j = false := by rw [hq j hjN, ← egj, ← ekj]; exact own_qF1 hc82
        refine OwnK.iload X80 hx (hb hby own_d15_83) (pc' := 85) rfl (v := pos) rfl ?_
        refine OwnK.iconst X80 hx (hb hby own_d15_85) (pc' := 86) rfl (v := (1 : Int32)) (by decide) ?_
        refine OwnK.iadd X80 hx (hb hby own_d15_86) (pc' := 87) rfl ?_
        refine OwnK.aloadN X80 hx (hb hby own_d15_87) (pc' := 88) rfl (v := (.ref p1)) rfl rfl ?_
        refine OwnK.getF_ X80 hx hZ hown (host := "") (Or.inl (hw _ (List.mem_of_getElem? (i := 81) rfl))) Via.refl e80 f32 (hb hby own_d15_88) (pc' := 91) rfl (fun T83 X83 e83 => ?_)
        refine OwnK.iand X83 hx (hb hby own_d15_91) (pc' := 92) rfl ?_
        refine OwnK.istoreG X83 hx (hb hby own_d15_92) (pc' := 94) rfl (Ls' := fun u => #[.val (.ref p1), .val (.ref p2), .val (.ref p3), .val (.int u43), .val (.int u), .val (.int i), .val (.int u75)]) (fun u => rfl) (fun u84 (hu84 : u84 = ((pos + (1 : Int32)) &&& (7 : Int32))) => ?_)
        have hp2 : u84.toInt = ((n + 1) % 8 : Nat) := by rw [hu84]; exact own_nx hp hn
        refine OwnK.iinc X83 hx (hb hby own_d15_94) (pc' := 97) rfl (v := (1 : Int32)) (by decide) (x := i) rfl (Ls' := #[.val (.ref p1), .val (.ref p2), .val (.ref p3), .val (.int u43), .val (.int u84), .val (.int (i + (1 : Int32))), .val (.int u75)]) rfl ?_
        refine OwnK.goto_ X83 hx (hb hby own_d15_97) (by decide) (pc' := 29) (by decide) ?_
        exact ihL _ _ f (by have q := X83; simp only [List.append_nil] at q; exact q) e83 (Nat.lt_succ_self f) ⟨_, _, _, _, rfl, Or.inr ⟨_, rfl⟩, own_inc hi0 hi, hp2, Nat.mod_lt _ (by decide), by rw [← hf, own_fn hje hqf]⟩
      · refine OwnK.aloadN X80 hx (hb hby own_d15_66) (pc' := 67) rfl (v := (.ref p1)) rfl rfl ?_
        refine OwnK.getF_ X80 hx hZ hown (host := "") (Or.inl (hw _ (List.mem_of_getElem? (i := 74) rfl))) Via.refl e80 f33 (hb hby own_d15_67) (pc' := 70) rfl (fun T85 X85 e85 => ?_)
        refine OwnK.iload X85 hx (hb hby own_d15_70) (pc' := 72) rfl (v := u75) rfl ?_
        obtain ⟨lu86, tu86, ku86, mu86, Su86⟩ := own_Ug U26 hGj
        obtain ⟨⟨Eu87, Cu87, Vu87, Bu87⟩, -⟩ := Su86
        refine OwnK.aaload X85 hx hZ e85 f36 rfl (by omega) (by omega) (v := (.ref gj)) (by rw [OwnK.jnat hvj]; exact hgj) (hb hby own_d15_72) (pc' := 73) rfl ?_
        refine OwnK.aloadN X85 hx (hb hby own_d15_73) (pc' := 74) rfl (v := (.ref p2)) rfl rfl ?_
        refine OwnK.callV_ X85 hx hZ hown (y := (⟨"java/lang/String", "equals", "(Ljava/lang/Object;)Z"⟩ : MethodName)) (z := (⟨"java/lang/String", "equals", "(Ljava/lang/Object;)Z"⟩ : MethodName)) (a := gj) (hw _ (List.mem_of_getElem? (i := 120) rfl)) (hw _ (List.mem_of_getElem? (i := 121) rfl)) (notFace_of_selects (args := #[]) (mvT hZ (hw _ (List.mem_of_getElem? (i := 123) rfl)))) (hw _ (List.mem_of_getElem? (i := 123) rfl)) (hw _ (List.mem_of_getElem? (i := 122) rfl)) (hw _ (List.mem_of_getElem? (i := 124) rfl)) (hw _ (List.mem_of_getElem? (i := 3) rfl)) (by decide) Eu87 (own_met21 l Z a0 hw T26.heap gj p2 n0 tu86 tu70 _ _ (1 : Int32) (own_x gA xA xB gj) (0 : Int32) (1 : Int32) (own_x gA xA xB p2) (0 : Int32) cs O41 ⟨Eu87, Cu87, Vu87, Bu87⟩ ⟨Eu71, Cu71, Vu71, Bu71⟩ (by decide) hcs SS ) (by decide) (W := 0) (by decide) e85 (by rw [hml]; rfl) own_pd_10 (argsL := [(.ref p2)]) rfl (S := []) rfl (Nat.le_of_eq rfl) (hb hby own_d15_74) (pc' := 77) rfl (by decide) (by decide) (fun T88 v88 L88 X88 hQ88 => ?_)
        obtain ⟨rfl, e88, rfl⟩ := hQ88
        have N89 := Fr.app N81 (Fr.nil n0)
        refine OwnK.if_eq X88 hx (hb hby own_d15_77) (by decide) (pcT := 83) (by decide) (pc' := 80) rfl (fun (hc90 : (own_eqI (1 : Int32).toInt (own_x gA xA xB gj).toInt (0 : Int32).toInt (1 : Int32).toInt (own_x gA xA xB p2).toInt (0 : Int32).toInt).toInt = 0) => ?_) (fun (hc90 : ¬ (own_eqI (1 : Int32).toInt (own_x gA xA xB gj).toInt (0 : Int32).toInt (1 : Int32).toInt (own_x gA xA xB p2).toInt (0 : Int32).toInt).toInt = 0) => ?_)
        · have hqf : q j = false := by rw [hq j hjN, ← egj, ← ekj]; exact own_qF2 hc90
          refine OwnK.iload X88 hx (hb hby own_d15_83) (pc' := 85) rfl (v := pos) rfl ?_
          refine OwnK.iconst X88 hx (hb hby own_d15_85) (pc' := 86) rfl (v := (1 : Int32)) (by decide) ?_
          refine OwnK.iadd X88 hx (hb hby own_d15_86) (pc' := 87) rfl ?_
          refine OwnK.aloadN X88 hx (hb hby own_d15_87) (pc' := 88) rfl (v := (.ref p1)) rfl rfl ?_
          refine OwnK.getF_ X88 hx hZ hown (host := "") (Or.inl (hw _ (List.mem_of_getElem? (i := 81) rfl))) Via.refl e88 f32 (hb hby own_d15_88) (pc' := 91) rfl (fun T91 X91 e91 => ?_)
          refine OwnK.iand X91 hx (hb hby own_d15_91) (pc' := 92) rfl ?_
          refine OwnK.istoreG X91 hx (hb hby own_d15_92) (pc' := 94) rfl (Ls' := fun u => #[.val (.ref p1), .val (.ref p2), .val (.ref p3), .val (.int u43), .val (.int u), .val (.int i), .val (.int u75)]) (fun u => rfl) (fun u92 (hu92 : u92 = ((pos + (1 : Int32)) &&& (7 : Int32))) => ?_)
          have hp2 : u92.toInt = ((n + 1) % 8 : Nat) := by rw [hu92]; exact own_nx hp hn
          refine OwnK.iinc X91 hx (hb hby own_d15_94) (pc' := 97) rfl (v := (1 : Int32)) (by decide) (x := i) rfl (Ls' := #[.val (.ref p1), .val (.ref p2), .val (.ref p3), .val (.int u43), .val (.int u92), .val (.int (i + (1 : Int32))), .val (.int u75)]) rfl ?_
          refine OwnK.goto_ X91 hx (hb hby own_d15_97) (by decide) (pc' := 29) (by decide) ?_
          exact ihL _ _ f (by have q := X91; simp only [List.append_nil] at q; exact q) e91 (Nat.lt_succ_self f) ⟨_, _, _, _, rfl, Or.inr ⟨_, rfl⟩, own_inc hi0 hi, hp2, Nat.mod_lt _ (by decide), by rw [← hf, own_fn hje hqf]⟩
        · have hqt : q j = true := by rw [hq j hjN, ← egj, ← ekj]; exact own_qT hc82 hc90
          refine OwnK.iload X88 hx (hb hby own_d15_80) (pc' := 82) rfl (v := pos) rfl ?_
          refine OwnK.retI_ X88 hx hret hlk (hb hby own_d15_82) (by decide) (by decide) ?_
          rw [show T88.heap = T26.heap from e88]
          exact ⟨own_ret hf hp hn (own_fq hje hqt), N89, K42, U26⟩
def own_Qmet22 (Z : State) (h0 : Heap) (n0 : Nat) (p1 : Addr) (p2 : Int32) (p3 : Int32) (nX : Nat) (as ag ak ra kj : Addr) (kK : ClassId) (rv : Value) (rl : List Nat) (kl : List Value) (N j : Nat) (cn : Int32) (v : Option Value) (h : Heap) (L : List Loc) : Prop := ∃ rb, v = some (.int p3) ∧ Fr n0 L ∧ Keep h0 h [p1, ak, ra] ∧ Exa Z h p1 "com/example/entryway/entryway/KeyIndex" ∧ Fld Z h p1 "com/example/entryway/entryway/KeyIndex" "count" "I" (.int cn) ∧ Fld Z h p1 "com/example/entryway/entryway/KeyIndex" "slots" "[I" (.ref as) ∧ Fld Z h p1 "com/example/entryway/entryway/KeyIndex" "mask" "I" (.int (7 : Int32)) ∧ Fld Z h p1 "com/example/entryway/entryway/KeyIndex" "groups" "[Ljava/lang/String;" (.ref ag) ∧ Fld Z h p1 "com/example/entryway/entryway/KeyIndex" "keys" "[Ljava/lang/String;" (.ref ak) ∧ Fld Z h p1 "com/example/entryway/entryway/KeyIndex" "repeats" "[I" (.ref rb) ∧ Arv Z h ak kK (.object "java/lang/String") (4 : Int32) (kl.set N (.ref kj)) .null ∧ own_Rp Z nX h p1 as ag ak rb (.ref rb) (rl.set N (j + 1))
set_option maxRecDepth 65536 in
set_option maxHeartbeats 40000000 in
theorem own_met22 (l : Launch) (Z : State) (a0 : Array Value) (hw : ∀ d ∈ tables_1, d.before a0 Z = true) (h0 : Heap) (n0 : Nat) (Z0 : n0 ≤ h0.size) (p1 : Addr) (p2 : Int32) (p3 : Int32) (nX : Nat) (as ag ak ra kj : Addr) (kK : ClassId) (rv : Value) (rl : List Nat) (kl : List Value) (N j : Nat) (cn : Int32) (ge_p1 : n0 ≤ p1) (Ei : Exa Z h0 p1 "com/example/entryway/entryway/KeyIndex") (F_count : Fld Z h0 p1 "com/example/entryway/entryway/KeyIndex" "count" "I" (.int cn)) (F_slots : Fld Z h0 p1 "com/example/entryway/entryway/KeyIndex" "slots" "[I" (.ref as)) (F_mask : Fld Z h0 p1 "com/example/entryway/entryway/KeyIndex" "mask" "I" (.int (7 : Int32))) (F_groups : Fld Z h0 p1 "com/example/entryway/entryway/KeyIndex" "groups" "[Ljava/lang/String;" (.ref ag)) (F_keys : Fld Z h0 p1 "com/example/entryway/entryway/KeyIndex" "keys" "[Ljava/lang/String;" (.ref ak)) (F_repeats : Fld Z h0 p1 "com/example/entryway/entryway/KeyIndex" "repeats" "[I" rv) (Vke : Arv Z h0 ak kK (.object "java/lang/String") (4 : Int32) kl .null) (Oke : Ovr Z kK "java/lang/String") (Rp : own_Rp Z nX h0 p1 as ag ak ra rv rl) (hnX : n0 ≤ nX) (bX : nX ≤ h0.size) (bi : nX ≤ p1) (bk : nX ≤ ak) (las : as < h0.size) (lag : ag < h0.size) (m3 : p1 ≠ ak) (hp2 : p2.toInt = N) (hN : N < 4) (hp3 : p3.toInt = j) (hj : j < 4) (hkj : kl.getD j .null = .ref kj) (Ekj : Exa Z h0 kj "java/lang/String") (hl : kl.length = 4) :
    MetFree l (⟨"com/example/entryway/entryway/KeyIndex", "addRepeat", "(II)I"⟩ : MethodName) (head1 [Jvm.Cond.code (⟨"com/example/entryway/entryway/KeyIndex", "addRepeat", "(II)I"⟩ : MethodName) prog_47_method_7_code 3 (some .int)] ({ frames := 0, cells := 1, slots := 4, locals := 0 } : Room)) (fun a U => a = #[(.ref p1), (.int p2), (.int p3)] ∧ Z.Warmed39 U.vm ∧ U.heap = h0) (fun _ _ _ _ _ => True) (fun _ U o U' => ∃ v L, o = .returned v ∧ (own_Qmet22 Z h0 n0 p1 p2 p3 nX as ag ak ra kj kK rv rl kl N j cn) v U'.heap L ∧ FrameEnd U o U' L ({ frames := 0, cells := 1, slots := 4, locals := 0 } : Room).cells ({ frames := 0, cells := 1, slots := 4, locals := 0 } : Room).slots) := by
  refine OwnK.met (Q := (own_Qmet22 Z h0 n0 p1 p2 p3 nX as ag ak ra kj kK rv rl kl N j cn)) (C := ({ frames := 0, cells := 1, slots := 4, locals := 0 } : Room).cells) (N := ({ frames := 0, cells := 1, slots := 4, locals := 0 } : Room).slots) own_pl_22 (own_ef_22 p1 p2 p3) ?_
  intro p e s m below meth c T0 X0 hx hZ hby hml hown hnm hret hlk e0
  have N0 := Fr.nil n0
  have K0 := Keep.refl h0 [p1, ak, ra]
  have lit0 : (0 : Int32).toInt = 0 := by decide
  have lit4 : (4 : Int32).toInt = 4 := by decide
  have e31 := own_p1 hp3 hj
  obtain ⟨lr, br, ⟨rfl, era, rfl⟩ | ⟨rfl, b1, n1, n2, n3, n4, kR, Ar⟩⟩ := Rp
  · refine OwnK.aloadN X0 hx (hb hby own_d22_0) (pc' := 1) rfl (v := (.ref p1)) rfl rfl ?_
    refine OwnK.getF_ X0 hx hZ hown (host := "") (Or.inl (hw _ (List.mem_of_getElem? (i := 76) rfl))) Via.refl e0 F_keys (hb hby own_d22_1) (pc' := 4) rfl (fun T1 X1 e1 => ?_)
    refine OwnK.iloadN X1 hx (hb hby own_d22_4) (pc' := 5) rfl (v := p2) rfl ?_
    refine OwnK.aloadN X1 hx (hb hby own_d22_5) (pc' := 6) rfl (v := (.ref p1)) rfl rfl ?_
    refine OwnK.getF_ X1 hx hZ hown (host := "") (Or.inl (hw _ (List.mem_of_getElem? (i := 76) rfl))) Via.refl e1 F_keys (hb hby own_d22_6) (pc' := 9) rfl (fun T2 X2 e2 => ?_)
    refine OwnK.iloadN X2 hx (hb hby own_d22_9) (pc' := 10) rfl (v := p3) rfl ?_
    refine OwnK.aaload X2 hx hZ e2 Vke rfl (by omega) (by omega) (v := (.ref kj)) (by rw [OwnK.jnat hp3]; exact hkj) (hb hby own_d22_10) (pc' := 11) rfl ?_
    refine OwnK.aastore X2 hx hZ e2 Vke rfl rfl (OwnK.stoOf Vke Oke (Ins.self Ekj)) (i := N) hp2 (by omega) (by first | omega | (simp [own_vs]; omega)) (hb hby own_d22_11) (pc' := 12) rfl (fun T3 h3 X3 e3 W3 V3 => ?_)
    have f4 := Ei.wr W3
    have f5 := Ekj.wr W3
    have f6 := F_count.other W3 (Or.inl m3)
    have f7 := F_slots.other W3 (Or.inl m3)
    have f8 := F_mask.other W3 (Or.inl m3)
    have f9 := F_groups.other W3 (Or.inl m3)
    have f10 := F_keys.other W3 (Or.inl m3)
    have f11 := F_repeats.other W3 (Or.inl m3)
    have N12 := Fr.snoc X3 N0 (Nat.le_trans hnX bk)
    have K13 := K0.wr W3 (Or.inl (List.mem_of_getElem? (i := 1) rfl))
    have z14 : n0 ≤ h3.size := Nat.le_trans Z0 (Keep.of_wr W3).1
    refine OwnK.aloadN X3 hx (hb hby own_d22_12) (pc' := 13) rfl (v := (.ref p1)) rfl rfl ?_
    refine OwnK.getF_ X3 hx hZ hown (host := "") (Or.inl (hw _ (List.mem_of_getElem? (i := 129) rfl))) Via.refl e3 f11 (hb hby own_d22_13) (pc' := 16) rfl (fun T15 X15 e15 => ?_)
    refine OwnK.ifnonnull_null X15 hx (hb hby own_d22_16) (by decide) (pcT := 30) (by decide) (pc' := 19) rfl ?_
    refine OwnK.aloadN X15 hx (hb hby own_d22_19) (pc' := 20) rfl (v := (.ref p1)) rfl rfl ?_
    refine OwnK.aloadN X15 hx (hb hby own_d22_20) (pc' := 21) rfl (v := (.ref p1)) rfl rfl ?_
    refine OwnK.getF_ X15 hx hZ hown (host := "") (Or.inl (hw _ (List.mem_of_getElem? (i := 76) rfl))) Via.refl e15 f10 (hb hby own_d22_21) (pc' := 24) rfl (fun T16 X16 e16 => ?_)
    refine OwnK.arrlen X16 hx hZ e16 V3 (hb hby own_d22_24) (pc' := 25) rfl ?_
    refine OwnK.newP_ X16 hx hZ (hw _ (List.mem_of_getElem? (i := 78) rfl)) e16 (hb hby own_d22_25) (pc' := 27) rfl (n := (4 : Int32)) (by decide) (cap := 4) (by decide) (by decide) (by decide) (by decide) (ad := "[I") (by decide) (fun T17 h17 a17 k17 X17 e17 g17 E17 V17 Q17 => ?_)
    have q18 : ak ≠ a17 := Nat.ne_of_lt (Nat.lt_of_lt_of_le V3.lt (Nat.le_of_eq g17.symm))
    have q19 : kj ≠ a17 := Nat.ne_of_lt (Nat.lt_of_lt_of_le f5.lt (Nat.le_of_eq g17.symm))
    have q20 : p1 ≠ a17 := Nat.ne_of_lt (Nat.lt_of_lt_of_le f4.lt (Nat.le_of_eq g17.symm))
    have ge_a17 : n0 ≤ a17 := Nat.le_trans z14 (Nat.le_of_eq g17.symm)
    have sz_a17 : h0.size ≤ a17 := Nat.le_trans K13.1 (Nat.le_of_eq g17.symm)
    have z21 : n0 ≤ h17.size := Nat.le_trans z14 E17.1
    have K22 := K13.ext E17
    have f23 := f4.ext E17
    have f24 := f5.ext E17
    have f25 := f6.ext E17
    have f26 := f7.ext E17
    have f27 := f8.ext E17
    have f28 := f9.ext E17
    have f29 := f10.ext E17
    have f30 := V3.ext E17
    have f31 := f11.ext E17
    have f32 : Arv Z h17 a17 k17 .int (4 : Int32) [(.int (0 : Int32)), (.int (0 : Int32)), (.int (0 : Int32)), (.int (0 : Int32))] (.int (0 : Int32)) := V17.pad (pad_rep [] (.int (0 : Int32)) 4)
    refine OwnK.putF_ X17 hx hZ hown (hw _ (List.mem_of_getElem? (i := 129) rfl)) Via.refl e17 f31 f23 (Or.inl (hw _ (List.mem_of_getElem? (i := 130) rfl))) (hw _ (List.mem_of_getElem? (i := 46) rfl)) (ty := (.array .int)) (by decide) (v' := (.ref a17)) rfl rfl (hb hby own_d22_27) (pc' := 30) rfl (fun T33 h33 X33 e33 W33 => ?_)
    have f34 := f31.same W33
    have f35 := f23.wr W33
    have f36 := f24.wr W33
    have f37 := f25.other W33 (Or.inr (slot_ne (Or.inl (hw _ (List.mem_of_getElem? (i := 89) rfl))) (Or.inl (hw _ (List.mem_of_getElem? (i := 130) rfl))) (by decide) (t := .int) (t' := (.array .int)) (by decide) (by decide)))
    have f38 := f26.other W33 (Or.inr (slot_ne (Or.inr (hw _ (List.mem_of_getElem? (i := 80) rfl))) (Or.inl (hw _ (List.mem_of_getElem? (i := 130) rfl))) (by decide) (t := (.array .int)) (t' := (.array .int)) (by decide) (by decide)))
    have f39 := f27.other W33 (Or.inr (slot_ne (Or.inr (hw _ (List.mem_of_getElem? (i := 82) rfl))) (Or.inl (hw _ (List.mem_of_getElem? (i := 130) rfl))) (by decide) (t := .int) (t' := (.array .int)) (by decide) (by decide)))
    have f40 := f28.other W33 (Or.inr (slot_ne (Or.inr (hw _ (List.mem_of_getElem? (i := 75) rfl))) (Or.inl (hw _ (List.mem_of_getElem? (i := 130) rfl))) (by decide) (t := (.array (.object "java/lang/String"))) (t' := (.array .int)) (by decide) (by decide)))
    have f41 := f29.other W33 (Or.inr (slot_ne (Or.inr (hw _ (List.mem_of_getElem? (i := 77) rfl))) (Or.inl (hw _ (List.mem_of_getElem? (i := 130) rfl))) (by decide) (t := (.array (.object "java/lang/String"))) (t' := (.array .int)) (by decide) (by decide)))
    have f42 := f30.other W33 (Ne.symm m3)
    have f43 := f32.other W33 (Ne.symm q20)
    have f44 := Q17.wr W33
    have N45 := Fr.snoc X33 N12 ge_p1
    have K46 := K22.wr W33 (Or.inl (List.mem_of_getElem? (i := 0) rfl))
    have z47 : n0 ≤ h33.size := Nat.le_trans z21 (Keep.of_wr W33).1
    refine OwnK.aloadN X33 hx (hb hby own_d22_30) (pc' := 31) rfl (v := (.ref p1)) rfl rfl ?_
    refine OwnK.getF_ X33 hx hZ hown (host := "") (Or.inl (hw _ (List.mem_of_getElem? (i := 129) rfl))) Via.refl e33 f34 (hb hby own_d22_31) (pc' := 34) rfl (fun T48 X48 e48 => ?_)
    refine OwnK.iloadN X48 hx (hb hby own_d22_34) (pc' := 35) rfl (v := p2) rfl ?_
    refine OwnK.iloadN X48 hx (hb hby own_d22_35) (pc' := 36) rfl (v := p3) rfl ?_
    refine OwnK.iconst X48 hx (hb hby own_d22_36) (pc' := 37) rfl (v := (1 : Int32)) (by decide) ?_
    refine OwnK.iadd X48 hx (hb hby own_d22_37) (pc' := 38) rfl ?_
    refine OwnK.iastore X48 hx hZ e48 f43 (i := N) hp2 (by omega) (by first | omega | (simp [own_vs]; omega)) (hb hby own_d22_38) (pc' := 39) rfl (fun T49 h49 X49 e49 W49 V49 => ?_)
    have f50 := f35.wr W49
    have f51 := f36.wr W49
    have f52 := f37.other W49 (Or.inl q20)
    have f53 := f38.other W49 (Or.inl q20)
    have f54 := f39.other W49 (Or.inl q20)
    have f55 := f40.other W49 (Or.inl q20)
    have f56 := f41.other W49 (Or.inl q20)
    have f57 := f42.other W49 q18
    have f58 := f34.other W49 (Or.inl q20)
    have f59 := f44.wr W49
    have N60 := Fr.snoc X49 N45 ge_a17
    have K61 := K46.wr W49 (Or.inr sz_a17)
    have z62 : n0 ≤ h49.size := Nat.le_trans z47 (Keep.of_wr W49).1
    refine OwnK.iloadN X49 hx (hb hby own_d22_39) (pc' := 40) rfl (v := p3) rfl ?_
    refine OwnK.retI_ X49 hx hret hlk (hb hby own_d22_40) (by decide) (by decide) ?_
    rw [show T49.heap = h49 from e49]
    exact ⟨a17, rfl, N60, K61, f50, f52, f53, f54, f55, f56, f58, f57, ⟨by rw [List.length_set]; exact lr, own_setle br (by omega), Or.inr ⟨rfl, (Nat.le_trans bX sz_a17), (Ne.symm q20), (Nat.ne_of_gt (Nat.lt_of_lt_of_le las sz_a17)), (Nat.ne_of_gt (Nat.lt_of_lt_of_le lag sz_a17)), (Ne.symm q18), _, (by rw [← own_vsset, ← e31]; exact V49)⟩⟩⟩
  · refine OwnK.aloadN X0 hx (hb hby own_d22_0) (pc' := 1) rfl (v := (.ref p1)) rfl rfl ?_
    refine OwnK.getF_ X0 hx hZ hown (host := "") (Or.inl (hw _ (List.mem_of_getElem? (i := 76) rfl))) Via.refl e0 F_keys (hb hby own_d22_1) (pc' := 4) rfl (fun T63 X63 e63 => ?_)
    refine OwnK.iloadN X63 hx (hb hby own_d22_4) (pc' := 5) rfl (v := p2) rfl ?_
    refine OwnK.aloadN X63 hx (hb hby own_d22_5) (pc' := 6) rfl (v := (.ref p1)) rfl rfl ?_
    refine OwnK.getF_ X63 hx hZ hown (host := "") (Or.inl (hw _ (List.mem_of_getElem? (i := 76) rfl))) Via.refl e63 F_keys (hb hby own_d22_6) (pc' := 9) rfl (fun T64 X64 e64 => ?_)
    refine OwnK.iloadN X64 hx (hb hby own_d22_9) (pc' := 10) rfl (v := p3) rfl ?_
    refine OwnK.aaload X64 hx hZ e64 Vke rfl (by omega) (by omega) (v := (.ref kj)) (by rw [OwnK.jnat hp3]; exact hkj) (hb hby own_d22_10) (pc' := 11) rfl ?_
    refine OwnK.aastore X64 hx hZ e64 Vke rfl rfl (OwnK.stoOf Vke Oke (Ins.self Ekj)) (i := N) hp2 (by omega) (by first | omega | (simp [own_vs]; omega)) (hb hby own_d22_11) (pc' := 12) rfl (fun T65 h65 X65 e65 W65 V65 => ?_)
    have f66 := Ei.wr W65
    have f67 := Ekj.wr W65
    have f68 := F_count.other W65 (Or.inl m3)
    have f69 := F_slots.other W65 (Or.inl m3)
    have f70 := F_mask.other W65 (Or.inl m3)
    have f71 := F_groups.other W65 (Or.inl m3)
    have f72 := F_keys.other W65 (Or.inl m3)
    have f73 := F_repeats.other W65 (Or.inl m3)
    have f74 := Ar.other W65 n4
    have N75 := Fr.snoc X65 N0 (Nat.le_trans hnX bk)
    have K76 := K0.wr W65 (Or.inl (List.mem_of_getElem? (i := 1) rfl))
    have z77 : n0 ≤ h65.size := Nat.le_trans Z0 (Keep.of_wr W65).1
    refine OwnK.aloadN X65 hx (hb hby own_d22_12) (pc' := 13) rfl (v := (.ref p1)) rfl rfl ?_
    refine OwnK.getF_ X65 hx hZ hown (host := "") (Or.inl (hw _ (List.mem_of_getElem? (i := 129) rfl))) Via.refl e65 f73 (hb hby own_d22_13) (pc' := 16) rfl (fun T78 X78 e78 => ?_)
    refine OwnK.ifnonnull_ref X78 hx (hb hby own_d22_16) (by decide) (pcT := 30) (by decide) (pc' := 19) rfl ?_
    refine OwnK.aloadN X78 hx (hb hby own_d22_30) (pc' := 31) rfl (v := (.ref p1)) rfl rfl ?_
    refine OwnK.getF_ X78 hx hZ hown (host := "") (Or.inl (hw _ (List.mem_of_getElem? (i := 129) rfl))) Via.refl e78 f73 (hb hby own_d22_31) (pc' := 34) rfl (fun T79 X79 e79 => ?_)
    refine OwnK.iloadN X79 hx (hb hby own_d22_34) (pc' := 35) rfl (v := p2) rfl ?_
    refine OwnK.iloadN X79 hx (hb hby own_d22_35) (pc' := 36) rfl (v := p3) rfl ?_
    refine OwnK.iconst X79 hx (hb hby own_d22_36) (pc' := 37) rfl (v := (1 : Int32)) (by decide) ?_
    refine OwnK.iadd X79 hx (hb hby own_d22_37) (pc' := 38) rfl ?_
    refine OwnK.iastore X79 hx hZ e79 f74 (i := N) hp2 (by omega) (by first | omega | (simp [own_vs]; omega)) (hb hby own_d22_38) (pc' := 39) rfl (fun T80 h80 X80 e80 W80 V80 => ?_)
    have f81 := f66.wr W80
    have f82 := f67.wr W80
    have f83 := f68.other W80 (Or.inl (Ne.symm n1))
    have f84 := f69.other W80 (Or.inl (Ne.symm n1))
    have f85 := f70.other W80 (Or.inl (Ne.symm n1))
    have f86 := f71.other W80 (Or.inl (Ne.symm n1))
    have f87 := f72.other W80 (Or.inl (Ne.symm n1))
    have f88 := V65.other W80 (Ne.symm n4)
    have f89 := f73.other W80 (Or.inl (Ne.symm n1))
    have N90 := Fr.snoc X80 N75 (Nat.le_trans hnX b1)
    have K91 := K76.wr W80 (Or.inl (List.mem_of_getElem? (i := 2) rfl))
    have z92 : n0 ≤ h80.size := Nat.le_trans z77 (Keep.of_wr W80).1
    refine OwnK.iloadN X80 hx (hb hby own_d22_39) (pc' := 40) rfl (v := p3) rfl ?_
    refine OwnK.retI_ X80 hx hret hlk (hb hby own_d22_40) (by decide) (by decide) ?_
    rw [show T80.heap = h80 from e80]
    exact ⟨ra, rfl, N90, K91, f81, f83, f84, f85, f86, f87, f89, f88, ⟨by rw [List.length_set]; exact lr, own_setle br (by omega), Or.inr ⟨rfl, b1, n1, n2, n3, n4, _, (by rw [← own_vsset, ← e31]; exact V80)⟩⟩⟩
def own_Qmet14 (Z : State) (h0 : Heap) (n0 : Nat) (p1 : Addr) (p2 : Addr) (p3 : Addr) (nS nX : Nat) (as ag ak ra : Addr) (kS kG kK : ClassId) (rv : Value) (N : Nat) (sl rl : List Nat) (gl kl : List Value) (G K : Nat → Addr) (q : Nat → Bool) (gA gB kA kB : Addr) (xA xB ya0 ya1 yb0 yb1 cs : Int32) (v : Option Value) (h : Heap) (L : List Loc) : Prop := ∃ rb rw gl2 kl2 r, v = some (.int r) ∧ Fr n0 L ∧ Keep h0 h [p1, as, ag, ak, ra, p2, p3] ∧ own_U Z nS h gA gB kA kB xA xB ya0 ya1 yb0 yb1 ∧ own_X Z nX h p1 as ag ak rb kS kG kK rw (Int32.ofNat (N + 1)) (N + 1) (own_add sl rl q (own_home (own_H1 (own_x gA xA xB p2)) (own_H2 (own_x kA ya0 yb0 p3) (own_x kA ya1 yb1 p3))) N).1 (own_add sl rl q (own_home (own_H1 (own_x gA xA xB p2)) (own_H2 (own_x kA ya0 yb0 p3) (own_x kA ya1 yb1 p3))) N).2 gl2 kl2 G K
set_option maxRecDepth 65536 in
set_option maxHeartbeats 40000000 in
theorem own_met14 (l : Launch) (Z : State) (a0 : Array Value) (hw : ∀ d ∈ tables_1, d.before a0 Z = true) (h0 : Heap) (n0 : Nat) (Z0 : n0 ≤ h0.size) (p1 : Addr) (p2 : Addr) (p3 : Addr) (nS nX : Nat) (as ag ak ra : Addr) (kS kG kK : ClassId) (rv : Value) (N : Nat) (sl rl : List Nat) (gl kl : List Value) (G K : Nat → Addr) (q : Nat → Bool) (gA gB kA kB : Addr) (xA xB ya0 ya1 yb0 yb1 cs : Int32) (O0 : Old Z n0 h0) (ge_p2 : n0 ≤ p2) (ge_p3 : n0 ≤ p3) (U0 : own_U Z nS h0 gA gB kA kB xA xB ya0 ya1 yb0 yb1) (XI : own_X Z nX h0 p1 as ag ak ra kS kG kK rv (Int32.ofNat N) N sl rl gl kl G K) (hg : p2 = gA ∨ p2 = gB) (hk : p3 = kA ∨ p3 = kB) (hG : ∀ j, j < N → G j = gA ∨ G j = gB) (hK : ∀ j, j < N → K j = kA ∨ K j = kB) (hq : ∀ j, j < N → q j = own_same1 (own_x gA xA xB (G j)) (own_x gA xA xB p2) (own_x kA ya0 yb0 (K j)) (own_x kA ya0 yb0 p3) (own_x kA ya1 yb1 (K j)) (own_x kA ya1 yb1 p3)) (hok : (own_find sl q 16 (own_home (own_H1 (own_x gA xA xB p2)) (own_H2 (own_x kA ya0 yb0 p3) (own_x kA ya1 yb1 p3)))) < 8) (hSX : nS ≤ nX) (hN : N < 4) (hcs : ¬ cs.toInt = 0) (SS : Sta Z Z.heap "java/lang/String" "COMPACT_STRINGS" "Z" (.int cs)) (hGN : G N = p2) (hKN : K N = p3) (hnX : n0 ≤ nX) (bX : nX ≤ h0.size) :
    MetFree l (⟨"com/example/entryway/entryway/KeyIndex", "add", "(Ljava/lang/String;Ljava/lang/String;)I"⟩ : MethodName) (head1 [Jvm.Cond.code (⟨"com/example/entryway/entryway/KeyIndex", "add", "(Ljava/lang/String;Ljava/lang/String;)I"⟩ : MethodName) prog_47_method_2_code 5 (some .int)] ({ frames := 5, cells := 1, slots := 4, locals := 77 } : Room)) (fun a U => a = #[(.ref p1), (.ref p2), (.ref p3)] ∧ Z.Warmed39 U.vm ∧ U.heap = h0) (fun _ _ _ _ _ => True) (fun _ U o U' => ∃ v L, o = .returned v ∧ (own_Qmet14 Z h0 n0 p1 p2 p3 nS nX as ag ak ra kS kG kK rv N sl rl gl kl G K q gA gB kA kB xA xB ya0 ya1 yb0 yb1 cs) v U'.heap L ∧ FrameEnd U o U' L ({ frames := 5, cells := 1, slots := 4, locals := 77 } : Room).cells ({ frames := 5, cells := 1, slots := 4, locals := 77 } : Room).slots) := by
  refine OwnK.met (Q := (own_Qmet14 Z h0 n0 p1 p2 p3 nS nX as ag ak ra kS kG kK rv N sl rl gl kl G K q gA gB kA kB xA xB ya0 ya1 yb0 yb1 cs)) (C := ({ frames := 5, cells := 1, slots := 4, locals := 77 } : Room).cells) (N := ({ frames := 5, cells := 1, slots := 4, locals := 77 } : Room).slots) own_pl_14 (own_ef_14 p1 p2 p3) ?_
  intro p e s m below meth c T0 X0 hx hZ hby hml hown hnm hret hlk e0
  have N0 := Fr.nil n0
  have K0 := Keep.refl h0 [p1, as, ag, ak, ra, p2, p3]
  obtain ⟨⟨bi, bs, bg, bk⟩, ⟨m1, m2, m3, m4, m5, m6⟩, Ei, Fct, Fsl, Fma, Fgr, Fke, Fre, Vsl, Vgr, Ogr, Vke, Oke, Rp, iv⟩ := XI
  have lp2 := (own_Ug U0 hg).1
  have lp3 := (own_Uy U0 hk).1
  have Ep2 := own_S4e (own_Ug U0 hg)
  have Ep3 := own_S4e (own_Uy U0 hk)
  have q1 : p1 ≠ p2 := Nat.ne_of_gt (Nat.lt_of_lt_of_le lp2 (Nat.le_trans hSX bi))
  have q2 : p1 ≠ p3 := Nat.ne_of_gt (Nat.lt_of_lt_of_le lp3 (Nat.le_trans hSX bi))
  have q3 : as ≠ p2 := Nat.ne_of_gt (Nat.lt_of_lt_of_le lp2 (Nat.le_trans hSX bs))
  have q4 : as ≠ p3 := Nat.ne_of_gt (Nat.lt_of_lt_of_le lp3 (Nat.le_trans hSX bs))
  have q5 : ag ≠ p2 := Nat.ne_of_gt (Nat.lt_of_lt_of_le lp2 (Nat.le_trans hSX bg))
  have q6 : ag ≠ p3 := Nat.ne_of_gt (Nat.lt_of_lt_of_le lp3 (Nat.le_trans hSX bg))
  have q7 : ak ≠ p2 := Nat.ne_of_gt (Nat.lt_of_lt_of_le lp2 (Nat.le_trans hSX bk))
  have q8 : ak ≠ p3 := Nat.ne_of_gt (Nat.lt_of_lt_of_le lp3 (Nat.le_trans hSX bk))
  have lit0 : (0 : Int32).toInt = 0 := by decide
  have lit1 : (1 : Int32).toInt = 1 := by decide
  have lit2 : (2 : Int32).toInt = 2 := by decide
  have lit4 : (4 : Int32).toInt = 4 := by decide
  have lit8 : (8 : Int32).toInt = 8 := by decide
  have lsl := iv.1
  have lgl := iv.2.1
  have lkl := iv.2.2.1
  have hb4 : sl.getD (own_find sl q 16 (own_home (own_H1 (own_x gA xA xB p2)) (own_H2 (own_x kA ya0 yb0 p3) (own_x kA ya1 yb1 p3)))) 0 ≤ 4 := own_invle iv (Nat.le_of_lt hN) hok
  refine OwnK.aloadN X0 hx (hb hby own_d14_0) (pc' := 1) rfl (v := (.ref p1)) rfl rfl ?_
  refine OwnK.dup X0 hx (hb hby own_d14_1) (pc' := 2) rfl rfl ?_
  refine OwnK.getF_ X0 hx hZ hown (host := "") (Or.inl (hw _ (List.mem_of_getElem? (i := 88) rfl))) Via.refl e0 Fct (hb hby own_d14_2) (pc' := 5) rfl (fun T9 X9 e9 => ?_)
  refine OwnK.dupX1 X9 hx (hb hby own_d14_5) (pc' := 6) rfl rfl rfl ?_
  refine OwnK.iconst X9 hx (hb hby own_d14_6) (pc' := 7) rfl (v := (1 : Int32)) (by decide) ?_
  refine OwnK.iadd X9 hx (hb hby own_d14_7) (pc' := 8) rfl ?_
  refine OwnK.putF_ X9 hx hZ hown (hw _ (List.mem_of_getElem? (i := 88) rfl)) Via.refl e9 Fct Ei (Or.inl (hw _ (List.mem_of_getElem? (i := 89) rfl))) (hw _ (List.mem_of_getElem? (i := 46) rfl)) (ty := .int) (by decide) (v' := (.int ((Int32.ofNat N) + (1 : Int32)))) rfl rfl (hb hby own_d14_8) (pc' := 11) rfl (fun T10 h10 X10 e10 W10 => ?_)
  have f11 := Fct.same W10
  have f12 := Ei.wr W10
  have f13 := Fsl.other W10 (Or.inr (slot_ne (Or.inr (hw _ (List.mem_of_getElem? (i := 80) rfl))) (Or.inl (hw _ (List.mem_of_getElem? (i := 89) rfl))) (by decide) (t := (.array .int)) (t' := .int) (by decide) (by decide)))
  have f14 := Fma.other W10 (Or.inr (slot_ne (Or.inr (hw _ (List.mem_of_getElem? (i := 82) rfl))) (Or.inl (hw _ (List.mem_of_getElem? (i := 89) rfl))) (by decide) (t := .int) (t' := .int) (by decide) (by decide)))
  have f15 := Fgr.other W10 (Or.inr (slot_ne (Or.inr (hw _ (List.mem_of_getElem? (i := 75) rfl))) (Or.inl (hw _ (List.mem_of_getElem? (i := 89) rfl))) (by decide) (t := (.array (.object "java/lang/String"))) (t' := .int) (by decide) (by decide)))
  have f16 := Fke.other W10 (Or.inr (slot_ne (Or.inr (hw _ (List.mem_of_getElem? (i := 77) rfl))) (Or.inl (hw _ (List.mem_of_getElem? (i := 89) rfl))) (by decide) (t := (.array (.object "java/lang/String"))) (t' := .int) (by decide) (by decide)))
  have f17 := Vsl.other W10 (Ne.symm m1)
  have f18 := Vgr.other W10 (Ne.symm m2)
  have f19 := Vke.other W10 (Ne.symm m3)
  have f20 := Ep2.wr W10
  have f21 := Ep3.wr W10
  have f22 := Fre.other W10 (Or.inr (slot_ne (Or.inl (hw _ (List.mem_of_getElem? (i := 130) rfl))) (Or.inl (hw _ (List.mem_of_getElem? (i := 89) rfl))) (by decide) (t := (.array .int)) (t' := .int) (by decide) (by decide)))
  have N23 := Fr.snoc X10 N0 (Nat.le_trans hnX bi)
  have K24 := K0.wr W10 (Or.inl (List.mem_of_getElem? (i := 0) rfl))
  have O25 := O0.wr W10 (Nat.le_trans hnX bi)
  have z26 : n0 ≤ h10.size := Nat.le_trans Z0 (Keep.of_wr W10).1
  have Uw10 := own_Uk U0 (Keep.of_wr W10) (allS (Nat.le_trans hSX bi) all0)
  have Rw10 := own_Rpw Rp (Keep.of_wr W10) (allS (Or.inl rfl) all0)
  refine OwnK.istoreN X10 hx (hb hby own_d14_11) (pc' := 12) rfl (Ls' := #[.val (.ref p1), .val (.ref p2), .val (.ref p3), .val (.int (Int32.ofNat N)), .unset]) rfl ?_
  refine OwnK.aloadN X10 hx (hb hby own_d14_12) (pc' := 13) rfl (v := (.ref p1)) rfl rfl ?_
  refine OwnK.aloadN X10 hx (hb hby own_d14_13) (pc' := 14) rfl (v := (.ref p2)) rfl rfl ?_
  refine OwnK.aloadN X10 hx (hb hby own_d14_14) (pc' := 15) rfl (v := (.ref p3)) rfl rfl ?_
  refine OwnK.callP_ X10 hx hZ hown (y := (⟨"com/example/entryway/entryway/KeyIndex", "slotOf", "(Ljava/lang/String;Ljava/lang/String;)I"⟩ : MethodName)) (z := (⟨"com/example/entryway/entryway/KeyIndex", "add", "(Ljava/lang/String;Ljava/lang/String;)I"⟩ : MethodName)) (a := p1) (hw _ (List.mem_of_getElem? (i := 90) rfl)) (hw _ (List.mem_of_getElem? (i := 91) rfl)) rfl (hw _ (List.mem_of_getElem? (i := 86) rfl)) (hw _ (List.mem_of_getElem? (i := 92) rfl)) (hw _ (List.mem_of_getElem? (i := 93) rfl)) (hw _ (List.mem_of_getElem? (i := 47) rfl)) (by decide) f12 (own_met15 l Z a0 hw h10 n0 z26 p1 p2 p3 nS nX as ag ak ra kS kG kK rv ((Int32.ofNat N) + (1 : Int32)) N sl rl gl kl G K q gA gB kA kB xA xB ya0 ya1 yb0 yb1 cs O25 ge_p2 ge_p3 Uw10 ⟨⟨bi, bs, bg, bk⟩, ⟨m1, m2, m3, m4, m5, m6⟩, f12, f11, f13, f14, f15, f16, f22, f17, f18, Ogr, f19, Oke, Rw10, iv⟩ hg hk hG hK hq hok hSX hN hcs SS ) (by decide) (W := 0) (by decide) e10 (by rw [hml]; rfl) own_pd_12 (argsL := [(.ref p2), (.ref p3)]) rfl (S := []) rfl (Nat.le_of_eq rfl) (hb hby own_d14_15) (pc' := 18) rfl (by decide) (by decide) (fun T27 v27 L27 X27 hQ27 => ?_)
  obtain ⟨rfl, N27q, K27, U27⟩ := hQ27
  have N28 := Fr.app N23 N27q
  have f29 := f12.keep K27
  have f30 := f11.keep K27 (ninS q1 (ninS q2 nin0))
  have f31 := f13.keep K27 (ninS q1 (ninS q2 nin0))
  have f32 := f14.keep K27 (ninS q1 (ninS q2 nin0))
  have f33 := f15.keep K27 (ninS q1 (ninS q2 nin0))
  have f34 := f16.keep K27 (ninS q1 (ninS q2 nin0))
  have f35 := f17.keep K27 (ninS q3 (ninS q4 nin0))
  have f36 := f18.keep K27 (ninS q5 (ninS q6 nin0))
  have f37 := f19.keep K27 (ninS q7 (ninS q8 nin0))
  have f38 := f20.keep K27
  have f39 := f21.keep K27
  have f40 := f22.keep K27 (ninS q1 (ninS q2 nin0))
  have z41 : n0 ≤ T27.heap.size := Nat.le_trans z26 K27.1
  have O42 := O25.keep K27 (allS ge_p2 (allS ge_p3 all0))
  have K43 := K24.trans K27 (allS (Or.inl (List.mem_of_getElem? (i := 5) rfl)) (allS (Or.inl (List.mem_of_getElem? (i := 6) rfl)) all0))
  have Rq27 := own_Rpw Rw10 K27 (allS (Or.inr (Or.inr (Or.inr (Or.inr (Nat.lt_of_lt_of_le lp2 hSX))))) (allS (Or.inr (Or.inr (Or.inr (Or.inr (Nat.lt_of_lt_of_le lp3 hSX))))) all0))
  refine OwnK.istoreG X27 hx (hb hby own_d14_18) (pc' := 20) rfl (Ls' := fun u => #[.val (.ref p1), .val (.ref p2), .val (.ref p3), .val (.int (Int32.ofNat N)), .val (.int u)]) (fun u => rfl) (fun u44 (hu44 : u44 = (Int32.ofNat (own_find sl q 16 (own_home (own_H1 (own_x gA xA xB p2)) (own_H2 (own_x kA ya0 yb0 p3) (own_x kA ya1 yb1 p3)))))) => ?_)
  have hp4 : u44.toInt = ((own_find sl q 16 (own_home (own_H1 (own_x gA xA xB p2)) (own_H2 (own_x kA ya0 yb0 p3) (own_x kA ya1 yb1 p3)))) : Nat) := by rw [hu44]; exact own_i32 (by omega)
  refine OwnK.aloadN X27 hx (hb hby own_d14_20) (pc' := 21) rfl (v := (.ref p1)) rfl rfl ?_
  refine OwnK.getF_ X27 hx hZ hown (host := "") (Or.inl (hw _ (List.mem_of_getElem? (i := 74) rfl))) Via.refl rfl f33 (hb hby own_d14_21) (pc' := 24) rfl (fun T45 X45 e45 => ?_)
  refine OwnK.iloadN X45 hx (hb hby own_d14_24) (pc' := 25) rfl (v := (Int32.ofNat N)) rfl ?_
  refine OwnK.aloadN X45 hx (hb hby own_d14_25) (pc' := 26) rfl (v := (.ref p2)) rfl rfl ?_
  refine OwnK.aastore X45 hx hZ e45 f36 rfl rfl (OwnK.stoOf f36 Ogr (Ins.self f38)) (i := N) (own_i32 (by omega)) (by omega) (by first | omega | (simp [own_vs]; omega)) (hb hby own_d14_26) (pc' := 27) rfl (fun T46 h46 X46 e46 W46 V46 => ?_)
  have f47 := f29.wr W46
  have f48 := f30.other W46 (Or.inl m2)
  have f49 := f31.other W46 (Or.inl m2)
  have f50 := f32.other W46 (Or.inl m2)
  have f51 := f33.other W46 (Or.inl m2)
  have f52 := f34.other W46 (Or.inl m2)
  have f53 := f35.other W46 m4
  have f54 := f37.other W46 (Ne.symm m6)
  have f55 := f38.wr W46
  have f56 := f39.wr W46
  have f57 := f40.other W46 (Or.inl m2)
  have N58 := Fr.snoc X46 N28 (Nat.le_trans hnX bg)
  have K59 := K43.wr W46 (Or.inl (List.mem_of_getElem? (i := 2) rfl))
  have O60 := O42.wr W46 (Nat.le_trans hnX bg)
  have z61 : n0 ≤ h46.size := Nat.le_trans z41 (Keep.of_wr W46).1
  have Uw46 := own_Uk U27 (Keep.of_wr W46) (allS (Nat.le_trans hSX bg) all0)
  have Rw46 := own_Rpw Rq27 (Keep.of_wr W46) (allS (Or.inr (Or.inr (Or.inl rfl))) all0)
  refine OwnK.iload X46 hx (hb hby own_d14_27) (pc' := 29) rfl (v := u44) rfl ?_
  refine OwnK.if_ge X46 hx (hb hby own_d14_29) (by decide) (pcT := 40) (by decide) (pc' := 32) rfl (fun hc29 => ?_) (fun (hc29 : u44.toInt < 0) => by omega)
  refine OwnK.aloadN X46 hx (hb hby own_d14_40) (pc' := 41) rfl (v := (.ref p1)) rfl rfl ?_
  refine OwnK.getF_ X46 hx hZ hown (host := "") (Or.inl (hw _ (List.mem_of_getElem? (i := 79) rfl))) Via.refl e46 f49 (hb hby own_d14_41) (pc' := 44) rfl (fun T62 X62 e62 => ?_)
  refine OwnK.iload X62 hx (hb hby own_d14_44) (pc' := 46) rfl (v := u44) rfl ?_
  refine OwnK.iaload X62 hx hZ e62 f53 (by omega) (by omega) (v := (.int (Int32.ofNat (sl.getD (own_find sl q 16 (own_home (own_H1 (own_x gA xA xB p2)) (own_H2 (own_x kA ya0 yb0 p3) (own_x kA ya1 yb1 p3)))) 0)))) (own_vsget iv.1 hp4 hok) (hb hby own_d14_46) (pc' := 47) rfl ?_
  refine OwnK.if_eq X62 hx (hb hby own_d14_47) (by decide) (pcT := 65) (by decide) (pc' := 50) rfl (fun (hc63 : (Int32.ofNat (sl.getD (own_find sl q 16 (own_home (own_H1 (own_x gA xA xB p2)) (own_H2 (own_x kA ya0 yb0 p3) (own_x kA ya1 yb1 p3)))) 0)).toInt = 0) => ?_) (fun (hc63 : ¬ (Int32.ofNat (sl.getD (own_find sl q 16 (own_home (own_H1 (own_x gA xA xB p2)) (own_H2 (own_x kA ya0 yb0 p3) (own_x kA ya1 yb1 p3)))) 0)).toInt = 0) => ?_)
  · have hz0 := (own_z0 hb4).mp hc63
    refine OwnK.aloadN X62 hx (hb hby own_d14_65) (pc' := 66) rfl (v := (.ref p1)) rfl rfl ?_
    refine OwnK.getF_ X62 hx hZ hown (host := "") (Or.inl (hw _ (List.mem_of_getElem? (i := 76) rfl))) Via.refl e62 f52 (hb hby own_d14_66) (pc' := 69) rfl (fun T64 X64 e64 => ?_)
    refine OwnK.iloadN X64 hx (hb hby own_d14_69) (pc' := 70) rfl (v := (Int32.ofNat N)) rfl ?_
    refine OwnK.aloadN X64 hx (hb hby own_d14_70) (pc' := 71) rfl (v := (.ref p3)) rfl rfl ?_
    refine OwnK.aastore X64 hx hZ e64 f54 rfl rfl (OwnK.stoOf f54 Oke (Ins.self f56)) (i := N) (own_i32 (by omega)) (by omega) (by first | omega | (simp [own_vs]; omega)) (hb hby own_d14_71) (pc' := 72) rfl (fun T65 h65 X65 e65 W65 V65 => ?_)
    have f66 := f47.wr W65
    have f67 := f48.other W65 (Or.inl m3)
    have f68 := f49.other W65 (Or.inl m3)
    have f69 := f50.other W65 (Or.inl m3)
    have f70 := f51.other W65 (Or.inl m3)
    have f71 := f52.other W65 (Or.inl m3)
    have f72 := f53.other W65 m5
    have f73 := V46.other W65 m6
    have f74 := f55.wr W65
    have f75 := f56.wr W65
    have f76 := f57.other W65 (Or.inl m3)
    have N77 := Fr.snoc X65 N58 (Nat.le_trans hnX bk)
    have K78 := K59.wr W65 (Or.inl (List.mem_of_getElem? (i := 3) rfl))
    have O79 := O60.wr W65 (Nat.le_trans hnX bk)
    have z80 : n0 ≤ h65.size := Nat.le_trans z61 (Keep.of_wr W65).1
    have Uw65 := own_Uk Uw46 (Keep.of_wr W65) (allS (Nat.le_trans hSX bk) all0)
    have Rw65 := own_Rpw Rw46 (Keep.of_wr W65) (allS (Or.inr (Or.inr (Or.inr (Or.inl rfl)))) all0)
    refine OwnK.aloadN X65 hx (hb hby own_d14_72) (pc' := 73) rfl (v := (.ref p1)) rfl rfl ?_
    refine OwnK.getF_ X65 hx hZ hown (host := "") (Or.inl (hw _ (List.mem_of_getElem? (i := 79) rfl))) Via.refl e65 f68 (hb hby own_d14_73) (pc' := 76) rfl (fun T81 X81 e81 => ?_)
    refine OwnK.iload X81 hx (hb hby own_d14_76) (pc' := 78) rfl (v := u44) rfl ?_
    refine OwnK.iloadN X81 hx (hb hby own_d14_78) (pc' := 79) rfl (v := (Int32.ofNat N)) rfl ?_
    refine OwnK.iconst X81 hx (hb hby own_d14_79) (pc' := 80) rfl (v := (1 : Int32)) (by decide) ?_
    refine OwnK.iadd X81 hx (hb hby own_d14_80) (pc' := 81) rfl ?_
    refine OwnK.iastore X81 hx hZ e81 f72 (i := (own_find sl q 16 (own_home (own_H1 (own_x gA xA xB p2)) (own_H2 (own_x kA ya0 yb0 p3) (own_x kA ya1 yb1 p3))))) hp4 (by omega) (by first | omega | (simp [own_vs]; omega)) (hb hby own_d14_81) (pc' := 82) rfl (fun T82 h82 X82 e82 W82 V82 => ?_)
    have f83 := f66.wr W82
    have f84 := f67.other W82 (Or.inl m1)
    have f85 := f68.other W82 (Or.inl m1)
    have f86 := f69.other W82 (Or.inl m1)
    have f87 := f70.other W82 (Or.inl m1)
    have f88 := f71.other W82 (Or.inl m1)
    have f89 := f73.other W82 (Ne.symm m4)
    have f90 := V65.other W82 (Ne.symm m5)
    have f91 := f74.wr W82
    have f92 := f75.wr W82
    have f93 := f76.other W82 (Or.inl m1)
    have N94 := Fr.snoc X82 N77 (Nat.le_trans hnX bs)
    have K95 := K78.wr W82 (Or.inl (List.mem_of_getElem? (i := 1) rfl))
    have O96 := O79.wr W82 (Nat.le_trans hnX bs)
    have z97 : n0 ≤ h82.size := Nat.le_trans z80 (Keep.of_wr W82).1
    have Uw82 := own_Uk Uw65 (Keep.of_wr W82) (allS (Nat.le_trans hSX bs) all0)
    have Rw82 := own_Rpw Rw65 (Keep.of_wr W82) (allS (Or.inr (Or.inl rfl)) all0)
    refine OwnK.iloadN X82 hx (hb hby own_d14_82) (pc' := 83) rfl (v := (Int32.ofNat N)) rfl ?_
    refine OwnK.retI_ X82 hx hret hlk (hb hby own_d14_83) (by decide) (by decide) ?_
    rw [show T82.heap = h82 from e82]
    exact ⟨ra, _, _, _, _, rfl, N94, K95, Uw82, ⟨bi, bs, bg, bk⟩, ⟨m1, m2, m3, m4, m5, m6⟩, f83, (by rw [← own_succ hN]; exact f84), f85, f86, f87, f88, f93, (by rw [own_ad1 hz0]; show Arv _ _ _ _ _ _ (own_vs (sl.set _ (N + 1))) _; rw [← own_vsset, ← own_succ hN]; exact V82), f89, Ogr, f90, Oke, (by rw [own_ad1 hz0]; exact Rw82), (by rw [own_ad1 hz0]; exact own_invnew iv hN hok hGN hKN)⟩
  · have hz1 : ¬ sl.getD (own_find sl q 16 (own_home (own_H1 (own_x gA xA xB p2)) (own_H2 (own_x kA ya0 yb0 p3) (own_x kA ya1 yb1 p3)))) 0 = 0 := fun z => hc63 ((own_z0 hb4).mpr z)
    obtain ⟨j, hjN, hje, hgj, hkj⟩ := iv.2.2.2 _ hok hz1
    have hpj : ((Int32.ofNat (sl.getD (own_find sl q 16 (own_home (own_H1 (own_x gA xA xB p2)) (own_H2 (own_x kA ya0 yb0 p3) (own_x kA ya1 yb1 p3)))) 0)) - (1 : Int32)).toInt = (j : Nat) := by rw [own_sub1 hb4, hje]; omega
    obtain ⟨kj, ekj⟩ : ∃ a, a = K j := ⟨_, rfl⟩
    rw [← ekj] at hkj
    have hKj : kj = kA ∨ kj = kB := by rw [ekj]; exact hK j hjN
    have Ekj := own_S4e (own_Uy Uw46 hKj)
    refine OwnK.aloadN X62 hx (hb hby own_d14_50) (pc' := 51) rfl (v := (.ref p1)) rfl rfl ?_
    refine OwnK.iloadN X62 hx (hb hby own_d14_51) (pc' := 52) rfl (v := (Int32.ofNat N)) rfl ?_
    refine OwnK.aloadN X62 hx (hb hby own_d14_52) (pc' := 53) rfl (v := (.ref p1)) rfl rfl ?_
    refine OwnK.getF_ X62 hx hZ hown (host := "") (Or.inl (hw _ (List.mem_of_getElem? (i := 79) rfl))) Via.refl e62 f49 (hb hby own_d14_53) (pc' := 56) rfl (fun T98 X98 e98 => ?_)
    refine OwnK.iload X98 hx (hb hby own_d14_56) (pc' := 58) rfl (v := u44) rfl ?_
    refine OwnK.iaload X98 hx hZ e98 f53 (by omega) (by omega) (v := (.int (Int32.ofNat (sl.getD (own_find sl q 16 (own_home (own_H1 (own_x gA xA xB p2)) (own_H2 (own_x kA ya0 yb0 p3) (own_x kA ya1 yb1 p3)))) 0)))) (own_vsget iv.1 hp4 hok) (hb hby own_d14_58) (pc' := 59) rfl ?_
    refine OwnK.iconst X98 hx (hb hby own_d14_59) (pc' := 60) rfl (v := (1 : Int32)) (by decide) ?_
    refine OwnK.isub X98 hx (hb hby own_d14_60) (pc' := 61) rfl ?_
    refine OwnK.callP_ X98 hx hZ hown (y := (⟨"com/example/entryway/entryway/KeyIndex", "addRepeat", "(II)I"⟩ : MethodName)) (z := (⟨"com/example/entryway/entryway/KeyIndex", "add", "(Ljava/lang/String;Ljava/lang/String;)I"⟩ : MethodName)) (a := p1) (hw _ (List.mem_of_getElem? (i := 125) rfl)) (hw _ (List.mem_of_getElem? (i := 126) rfl)) rfl (hw _ (List.mem_of_getElem? (i := 86) rfl)) (hw _ (List.mem_of_getElem? (i := 127) rfl)) (hw _ (List.mem_of_getElem? (i := 128) rfl)) (hw _ (List.mem_of_getElem? (i := 47) rfl)) (by decide) f47 (own_met22 l Z a0 hw h46 n0 z61 p1 (Int32.ofNat N) ((Int32.ofNat (sl.getD (own_find sl q 16 (own_home (own_H1 (own_x gA xA xB p2)) (own_H2 (own_x kA ya0 yb0 p3) (own_x kA ya1 yb1 p3)))) 0)) - (1 : Int32)) nX as ag ak ra kj _ rv rl kl N j ((Int32.ofNat N) + (1 : Int32))  (Nat.le_trans hnX bi) f47 f48 f49 f50 f51 f52 f57  f54 Oke Rw46 hnX (Nat.le_trans bX K59.1) bi bk (f53).lt (V46).lt m3 (own_i32 (by omega)) hN hpj (by omega) hkj Ekj iv.2.2.1 ) (by decide) (W := 0) (by decide) e98 (by rw [hml]; rfl) own_pd_8 (argsL := [(.int (Int32.ofNat N)), (.int ((Int32.ofNat (sl.getD (own_find sl q 16 (own_home (own_H1 (own_x gA xA xB p2)) (own_H2 (own_x kA ya0 yb0 p3) (own_x kA ya1 yb1 p3)))) 0)) - (1 : Int32)))]) rfl (S := []) rfl (Nat.le_of_eq rfl) (hb hby own_d14_61) (pc' := 64) rfl (by decide) (by decide) (fun T99 v99 L99 X99 hQ99 => ?_)
    obtain ⟨ra99, rfl, N99q, K99, Ei99, Fa99, Fb99, Fc99, Fd99, Fe99, Ff99, Vk99, Rp99⟩ := hQ99
    have N100 := Fr.app N58 N99q
    have U99 := own_Uk Uw46 K99 (allS (Nat.le_trans hSX bi) (allS (Nat.le_trans hSX bk) (allS (own_rage Rw46 hSX bi) all0)))
    have f101 := f53.keep K99 (ninS (Ne.symm m1) (ninS m5 (ninS (own_rane Rw46 m1 m2).1 nin0)))
    have f102 := V46.keep K99 (ninS (Ne.symm m2) (ninS m6 (ninS (own_rane Rw46 m1 m2).2 nin0)))
    have K103 := K59.trans K99 (allS (Or.inl (List.mem_of_getElem? (i := 0) rfl)) (allS (Or.inl (List.mem_of_getElem? (i := 3) rfl)) (allS (Or.inl (List.mem_of_getElem? (i := 4) rfl)) all0)))
    refine OwnK.retI_ X99 hx hret hlk (hb hby own_d14_64) (by decide) (by decide) ?_
    exact ⟨ra99, _, _, _, _, rfl, N100, K103, U99, ⟨bi, bs, bg, bk⟩, ⟨m1, m2, m3, m4, m5, m6⟩, Ei99, (by rw [← own_succ hN]; exact Fa99), Fb99, Fc99, Fd99, Fe99, Ff99, (by rw [own_ad2 hz1]; exact f101), f102, Ogr, Vk99, Oke, (by rw [own_ad2 hz1]; show own_Rp _ _ _ _ _ _ _ _ _ (rl.set N (sl.getD (own_find sl q 16 (own_home (own_H1 (own_x gA xA xB p2)) (own_H2 (own_x kA ya0 yb0 p3) (own_x kA ya1 yb1 p3)))) 0)); rw [hje]; exact Rp99), (by rw [own_ad2 hz1]; exact own_invrep iv)⟩
def own_Qmet23 (h0 : Heap) (p1 : Addr) (p2 : Int32) (nX : Nat) (as ag ak ra : Addr) (kS kG kK : ClassId) (rv : Value) (cn : Int32) (N : Nat) (sl rl : List Nat) (gl kl : List Value) (G K : Nat → Addr) (i : Nat) (v : Option Value) (h : Heap) (L : List Loc) : Prop := v = some (.int (own_fst rl i)) ∧ h = h0 ∧ L = []
set_option maxRecDepth 65536 in
set_option maxHeartbeats 40000000 in
theorem own_met23 (l : Launch) (Z : State) (a0 : Array Value) (hw : ∀ d ∈ tables_1, d.before a0 Z = true) (h0 : Heap) (p1 : Addr) (p2 : Int32) (nX : Nat) (as ag ak ra : Addr) (kS kG kK : ClassId) (rv : Value) (cn : Int32) (N : Nat) (sl rl : List Nat) (gl kl : List Value) (G K : Nat → Addr) (i : Nat) (XI : own_X Z nX h0 p1 as ag ak ra kS kG kK rv cn N sl rl gl kl G K) (hp2 : p2.toInt = i) (hi : i < 4) :
    MetFree l (⟨"com/example/entryway/entryway/KeyIndex", "firstOf", "(I)I"⟩ : MethodName) (head1 [Jvm.Cond.code (⟨"com/example/entryway/entryway/KeyIndex", "firstOf", "(I)I"⟩ : MethodName) prog_47_method_6_code 2 (some .int)] ({ frames := 0, cells := 0, slots := 0, locals := 0 } : Room)) (fun a U => a = #[(.ref p1), (.int p2)] ∧ Z.Warmed39 U.vm ∧ U.heap = h0) (fun _ _ _ _ _ => True) (fun _ U o U' => ∃ v L, o = .returned v ∧ (own_Qmet23 h0 p1 p2 nX as ag ak ra kS kG kK rv cn N sl rl gl kl G K i) v U'.heap L ∧ FrameEnd U o U' L ({ frames := 0, cells := 0, slots := 0, locals := 0 } : Room).cells ({ frames := 0, cells := 0, slots := 0, locals := 0 } : Room).slots) := by
  refine OwnK.met (Q := (own_Qmet23 h0 p1 p2 nX as ag ak ra kS kG kK rv cn N sl rl gl kl G K i)) (C := ({ frames := 0, cells := 0, slots := 0, locals := 0 } : Room).cells) (N := ({ frames := 0, cells := 0, slots := 0, locals := 0 } : Room).slots) own_pl_23 (own_ef_23 p1 p2) ?_
  intro p e s m below meth c T0 X0 hx hZ hby hml hown hnm hret hlk e0
  have lit4 : (4 : Int32).toInt = 4 := by decide
  obtain ⟨-, -, Ei, -, -, -, -, -, Fre, -, -, -, -, -, Rp, -⟩ := XI
  obtain ⟨lr, br, ⟨rfl, era, rfl⟩ | ⟨rfl, b1, n1, n2, n3, n4, kR, Ar⟩⟩ := Rp
  · refine OwnK.aloadN X0 hx (hb hby own_d23_0) (pc' := 1) rfl (v := (.ref p1)) rfl rfl ?_
    refine OwnK.getF_ X0 hx hZ hown (host := "") (Or.inl (hw _ (List.mem_of_getElem? (i := 129) rfl))) Via.refl e0 Fre (hb hby own_d23_1) (pc' := 4) rfl (fun T1 X1 e1 => ?_)
    refine OwnK.ifnull_null X1 hx (hb hby own_d23_4) (by decide) (pcT := 16) (by decide) (pc' := 7) rfl ?_
    refine OwnK.iloadN X1 hx (hb hby own_d23_16) (pc' := 17) rfl (v := p2) rfl ?_
    refine OwnK.retI_ X1 hx hret hlk (hb hby own_d23_17) (by decide) (by decide) ?_
    exact ⟨by rw [own_fz (own_z4z i), own_ofN hp2 (by omega)], e1, rfl⟩
  · refine OwnK.aloadN X0 hx (hb hby own_d23_0) (pc' := 1) rfl (v := (.ref p1)) rfl rfl ?_
    refine OwnK.getF_ X0 hx hZ hown (host := "") (Or.inl (hw _ (List.mem_of_getElem? (i := 129) rfl))) Via.refl e0 Fre (hb hby own_d23_1) (pc' := 4) rfl (fun T2 X2 e2 => ?_)
    refine OwnK.ifnull_ref X2 hx (hb hby own_d23_4) (by decide) (pcT := 16) (by decide) (pc' := 7) rfl ?_
    refine OwnK.aloadN X2 hx (hb hby own_d23_7) (pc' := 8) rfl (v := (.ref p1)) rfl rfl ?_
    refine OwnK.getF_ X2 hx hZ hown (host := "") (Or.inl (hw _ (List.mem_of_getElem? (i := 129) rfl))) Via.refl e2 Fre (hb hby own_d23_8) (pc' := 11) rfl (fun T3 X3 e3 => ?_)
    refine OwnK.iloadN X3 hx (hb hby own_d23_11) (pc' := 12) rfl (v := p2) rfl ?_
    refine OwnK.iaload X3 hx hZ e3 Ar (by omega) (by omega) (v := (.int (Int32.ofNat (rl.getD i 0)))) (own_vsget lr hp2 hi) (hb hby own_d23_12) (pc' := 13) rfl ?_
    refine OwnK.if_ne X3 hx (hb hby own_d23_13) (by decide) (pcT := 18) (by decide) (pc' := 16) rfl (fun (hc4 : ¬ (Int32.ofNat (rl.getD i 0)).toInt = 0) => ?_) (fun (hc4 : (Int32.ofNat (rl.getD i 0)).toInt = 0) => ?_)
    · refine OwnK.aloadN X3 hx (hb hby own_d23_18) (pc' := 19) rfl (v := (.ref p1)) rfl rfl ?_
      refine OwnK.getF_ X3 hx hZ hown (host := "") (Or.inl (hw _ (List.mem_of_getElem? (i := 129) rfl))) Via.refl e3 Fre (hb hby own_d23_19) (pc' := 22) rfl (fun T5 X5 e5 => ?_)
      refine OwnK.iloadN X5 hx (hb hby own_d23_22) (pc' := 23) rfl (v := p2) rfl ?_
      refine OwnK.iaload X5 hx hZ e5 Ar (by omega) (by omega) (v := (.int (Int32.ofNat (rl.getD i 0)))) (own_vsget lr hp2 hi) (hb hby own_d23_23) (pc' := 24) rfl ?_
      refine OwnK.iconst X5 hx (hb hby own_d23_24) (pc' := 25) rfl (v := (1 : Int32)) (by decide) ?_
      refine OwnK.isub X5 hx (hb hby own_d23_25) (pc' := 26) rfl ?_
      refine OwnK.retI_ X5 hx hret hlk (hb hby own_d23_26) (by decide) (by decide) ?_
      exact ⟨by rw [own_fnz (fun z => hc4 ((own_z0 (br i)).mpr z))], e5, rfl⟩
    · refine OwnK.iloadN X3 hx (hb hby own_d23_16) (pc' := 17) rfl (v := p2) rfl ?_
      refine OwnK.retI_ X3 hx hret hlk (hb hby own_d23_17) (by decide) (by decide) ?_
      exact ⟨by rw [own_fz ((own_z0 (br i)).mp hc4), own_ofN hp2 (by omega)], e3, rfl⟩
def own_Qmet25 (h0 : Heap) (p1 : Addr) (p2 : Addr) (p3 : Int32) (p4 : Int32) (n0 nS : Nat) (kG kK : ClassId) (vg vk : List Value) (i j : Nat) (ga gb ya yb gA gB kA kB : Addr) (xA xB ya0 ya1 yb0 yb1 cs : Int32) (v : Option Value) (h : Heap) (L : List Loc) : Prop := v = some (.int (own_bi (own_same1 (own_x gA xA xB ga) (own_x gA xA xB gb) (own_x kA ya0 yb0 ya) (own_x kA ya0 yb0 yb) (own_x kA ya1 yb1 ya) (own_x kA ya1 yb1 yb)))) ∧ h = h0 ∧ L = []
set_option maxRecDepth 65536 in
set_option maxHeartbeats 40000000 in
theorem own_met25 (l : Launch) (Z : State) (a0 : Array Value) (hw : ∀ d ∈ tables_1, d.before a0 Z = true) (h0 : Heap) (p1 : Addr) (p2 : Addr) (p3 : Int32) (p4 : Int32) (n0 nS : Nat) (kG kK : ClassId) (vg vk : List Value) (i j : Nat) (ga gb ya yb gA gB kA kB : Addr) (xA xB ya0 ya1 yb0 yb1 cs : Int32) (O0 : Old Z n0 h0) (U0 : own_U Z nS h0 gA gB kA kB xA xB ya0 ya1 yb0 yb1) (Vg : Arv Z h0 p1 kG (.object "java/lang/String") (4 : Int32) vg .null) (Vk : Arv Z h0 p2 kK (.object "java/lang/String") (4 : Int32) vk .null) (hp3 : p3.toInt = i) (hp4 : p4.toInt = j) (hi : i < 4) (hj : j < 4) (vga : vg.getD i .null = .ref ga) (vgb : vg.getD j .null = .ref gb) (vya : vk.getD i .null = .ref ya) (vyb : vk.getD j .null = .ref yb) (ega : ga = gA ∨ ga = gB) (egb : gb = gA ∨ gb = gB) (eya : ya = kA ∨ ya = kB) (eyb : yb = kA ∨ yb = kB) (hcs : ¬ cs.toInt = 0) (SS : Sta Z Z.heap "java/lang/String" "COMPACT_STRINGS" "Z" (.int cs)) :
    MetFree l (⟨"com/example/entryway/entryway/KeyIndexFirstOfPinLaw", "same", "([Ljava/lang/String;[Ljava/lang/String;II)Z"⟩ : MethodName) (head1 [Jvm.Cond.code (⟨"com/example/entryway/entryway/KeyIndexFirstOfPinLaw", "same", "([Ljava/lang/String;[Ljava/lang/String;II)Z"⟩ : MethodName) method_3_code 4 (some .boolean)] ({ frames := 2, cells := 0, slots := 0, locals := 28 } : Room)) (fun a U => a = #[(.ref p1), (.ref p2), (.int p3), (.int p4)] ∧ Z.Warmed39 U.vm ∧ U.heap = h0) (fun _ _ _ _ _ => True) (fun _ U o U' => ∃ v L, o = .returned v ∧ (own_Qmet25 h0 p1 p2 p3 p4 n0 nS kG kK vg vk i j ga gb ya yb gA gB kA kB xA xB ya0 ya1 yb0 yb1 cs) v U'.heap L ∧ FrameEnd U o U' L ({ frames := 2, cells := 0, slots := 0, locals := 28 } : Room).cells ({ frames := 2, cells := 0, slots := 0, locals := 28 } : Room).slots) := by
  refine OwnK.met (Q := (own_Qmet25 h0 p1 p2 p3 p4 n0 nS kG kK vg vk i j ga gb ya yb gA gB kA kB xA xB ya0 ya1 yb0 yb1 cs)) (C := ({ frames := 2, cells := 0, slots := 0, locals := 28 } : Room).cells) (N := ({ frames := 2, cells := 0, slots := 0, locals := 28 } : Room).slots) own_pl_25 (own_ef_25 p1 p2 p3 p4) ?_
  intro p e s m below meth c T0 X0 hx hZ hby hml hown hnm hret hlk e0
  have lit4 : (4 : Int32).toInt = 4 := by decide
  refine OwnK.aloadN X0 hx (hb hby own_d25_0) (pc' := 1) rfl (v := (.ref p1)) rfl rfl ?_
  refine OwnK.iloadN X0 hx (hb hby own_d25_1) (pc' := 2) rfl (v := p3) rfl ?_
  obtain ⟨lu1, tu1, ku1, mu1, Su1⟩ := own_Ug U0 ega
  obtain ⟨⟨Eu2, Cu2, Vu2, Bu2⟩, -⟩ := Su1
  refine OwnK.aaload X0 hx hZ e0 Vg rfl (by omega) (by omega) (v := (.ref ga)) (by rw [OwnK.jnat hp3]; exact vga) (hb hby own_d25_2) (pc' := 3) rfl ?_
  refine OwnK.aloadN X0 hx (hb hby own_d25_3) (pc' := 4) rfl (v := (.ref p1)) rfl rfl ?_
  refine OwnK.iloadN X0 hx (hb hby own_d25_4) (pc' := 5) rfl (v := p4) rfl ?_
  obtain ⟨lu3, tu3, ku3, mu3, Su3⟩ := own_Ug U0 egb
  obtain ⟨⟨Eu4, Cu4, Vu4, Bu4⟩, -⟩ := Su3
  refine OwnK.aaload X0 hx hZ e0 Vg rfl (by omega) (by omega) (v := (.ref gb)) (by rw [OwnK.jnat hp4]; exact vgb) (hb hby own_d25_5) (pc' := 6) rfl ?_
  refine OwnK.callV_ X0 hx hZ hown (y := (⟨"java/lang/String", "equals", "(Ljava/lang/Object;)Z"⟩ : MethodName)) (z := (⟨"java/lang/String", "equals", "(Ljava/lang/Object;)Z"⟩ : MethodName)) (a := ga) (hw _ (List.mem_of_getElem? (i := 143) rfl)) (hw _ (List.mem_of_getElem? (i := 121) rfl)) (notFace_of_selects (args := #[]) (mvT hZ (hw _ (List.mem_of_getElem? (i := 123) rfl)))) (hw _ (List.mem_of_getElem? (i := 123) rfl)) (hw _ (List.mem_of_getElem? (i := 122) rfl)) (hw _ (List.mem_of_getElem? (i := 124) rfl)) (hw _ (List.mem_of_getElem? (i := 3) rfl)) (by decide) Eu2 (own_met21 l Z a0 hw h0 ga gb n0 tu1 tu3 _ _ (1 : Int32) (own_x gA xA xB ga) (0 : Int32) (1 : Int32) (own_x gA xA xB gb) (0 : Int32) cs O0 ⟨Eu2, Cu2, Vu2, Bu2⟩ ⟨Eu4, Cu4, Vu4, Bu4⟩ (by decide) hcs SS ) (by decide) (W := 0) (by decide) e0 (by rw [hml]; rfl) own_pd_10 (argsL := [(.ref gb)]) rfl (S := []) rfl (Nat.le_of_eq rfl) (hb hby own_d25_6) (pc' := 9) rfl (by decide) (by decide) (fun T5 v5 L5 X5 hQ5 => ?_)
  obtain ⟨rfl, e5, rfl⟩ := hQ5
  refine OwnK.if_eq X5 hx (hb hby own_d25_9) (by decide) (pcT := 28) (by decide) (pc' := 12) rfl (fun (hc7 : (own_eqI (1 : Int32).toInt (own_x gA xA xB ga).toInt (0 : Int32).toInt (1 : Int32).toInt (own_x gA xA xB gb).toInt (0 : Int32).toInt).toInt = 0) => ?_) (fun (hc7 : ¬ (own_eqI (1 : Int32).toInt (own_x gA xA xB ga).toInt (0 : Int32).toInt (1 : Int32).toInt (own_x gA xA xB gb).toInt (0 : Int32).toInt).toInt = 0) => ?_)
  · refine OwnK.iconst X5 hx (hb hby own_d25_28) (pc' := 29) rfl (v := (0 : Int32)) (by decide) ?_
    refine OwnK.retN_ X5 hx hret (by simp) hlk (hb hby own_d25_29) (by decide) (by decide) ?_
    exact ⟨own_bi0 (own_qF2 hc7), e5, rfl⟩
  · refine OwnK.aloadN X5 hx (hb hby own_d25_12) (pc' := 13) rfl (v := (.ref p2)) rfl rfl ?_
    refine OwnK.iloadN X5 hx (hb hby own_d25_13) (pc' := 14) rfl (v := p3) rfl ?_
    obtain ⟨lu8, tu8, ku8, mu8, Su8⟩ := own_Uy U0 eya
    obtain ⟨⟨Eu9, Cu9, Vu9, Bu9⟩, -⟩ := Su8
    refine OwnK.aaload X5 hx hZ e5 Vk rfl (by omega) (by omega) (v := (.ref ya)) (by rw [OwnK.jnat hp3]; exact vya) (hb hby own_d25_14) (pc' := 15) rfl ?_
    refine OwnK.aloadN X5 hx (hb hby own_d25_15) (pc' := 16) rfl (v := (.ref p2)) rfl rfl ?_
    refine OwnK.iloadN X5 hx (hb hby own_d25_16) (pc' := 17) rfl (v := p4) rfl ?_
    obtain ⟨lu10, tu10, ku10, mu10, Su10⟩ := own_Uy U0 eyb
    obtain ⟨⟨Eu11, Cu11, Vu11, Bu11⟩, -⟩ := Su10
    refine OwnK.aaload X5 hx hZ e5 Vk rfl (by omega) (by omega) (v := (.ref yb)) (by rw [OwnK.jnat hp4]; exact vyb) (hb hby own_d25_17) (pc' := 18) rfl ?_
    refine OwnK.callV_ X5 hx hZ hown (y := (⟨"java/lang/String", "equals", "(Ljava/lang/Object;)Z"⟩ : MethodName)) (z := (⟨"java/lang/String", "equals", "(Ljava/lang/Object;)Z"⟩ : MethodName)) (a := ya) (hw _ (List.mem_of_getElem? (i := 143) rfl)) (hw _ (List.mem_of_getElem? (i := 121) rfl)) (notFace_of_selects (args := #[]) (mvT hZ (hw _ (List.mem_of_getElem? (i := 123) rfl)))) (hw _ (List.mem_of_getElem? (i := 123) rfl)) (hw _ (List.mem_of_getElem? (i := 122) rfl)) (hw _ (List.mem_of_getElem? (i := 124) rfl)) (hw _ (List.mem_of_getElem? (i := 3) rfl)) (by decide) Eu9 (own_met21 l Z a0 hw h0 ya yb n0 tu8 tu10 _ _ (2 : Int32) (own_x kA ya0 yb0 ya) (own_x kA ya1 yb1 ya) (2 : Int32) (own_x kA ya0 yb0 yb) (own_x kA ya1 yb1 yb) cs O0 ⟨Eu9, Cu9, Vu9, Bu9⟩ ⟨Eu11, Cu11, Vu11, Bu11⟩ (by decide) hcs SS ) (by decide) (W := 0) (by decide) e5 (by rw [hml]; rfl) own_pd_10 (argsL := [(.ref yb)]) rfl (S := []) rfl (Nat.le_of_eq rfl) (hb hby own_d25_18) (pc' := 21) rfl (by decide) (by decide) (fun T12 v12 L12 X12 hQ12 => ?_)
    obtain ⟨rfl, e12, rfl⟩ := hQ12
    refine OwnK.if_eq X12 hx (hb hby own_d25_21) (by decide) (pcT := 28) (by decide) (pc' := 24) rfl (fun (hc14 : (own_eqI (2 : Int32).toInt (own_x kA ya0 yb0 ya).toInt (own_x kA ya1 yb1 ya).toInt (2 : Int32).toInt (own_x kA ya0 yb0 yb).toInt (own_x kA ya1 yb1 yb).toInt).toInt = 0) => ?_) (fun (hc14 : ¬ (own_eqI (2 : Int32).toInt (own_x kA ya0 yb0 ya).toInt (own_x kA ya1 yb1 ya).toInt (2 : Int32).toInt (own_x kA ya0 yb0 yb).toInt (own_x kA ya1 yb1 yb).toInt).toInt = 0) => ?_)
    · refine OwnK.iconst X12 hx (hb hby own_d25_28) (pc' := 29) rfl (v := (0 : Int32)) (by decide) ?_
      refine OwnK.retN_ X12 hx hret (by simp) hlk (hb hby own_d25_29) (by decide) (by decide) ?_
      exact ⟨own_bi0 (own_qF1 hc14), e12, rfl⟩
    · refine OwnK.iconst X12 hx (hb hby own_d25_24) (pc' := 25) rfl (v := (1 : Int32)) (by decide) ?_
      refine OwnK.goto_ X12 hx (hb hby own_d25_25) (by decide) (pc' := 29) (by decide) ?_
      refine OwnK.retN_ X12 hx hret (by simp) hlk (hb hby own_d25_29) (by decide) (by decide) ?_
      exact ⟨own_bi1 (own_qT hc14 hc7), e12, rfl⟩
def own_Qmet24_0 (h0 : Heap) (p1 : Addr) (p2 : Addr) (n0 nS : Nat) (kG kK : ClassId) (g0 g1 g2 g3 k0 k1 k2 k3 gA gB kA kB : Addr) (xA xB ya0 ya1 yb0 yb1 cs : Int32) (v : Option Value) (h : Heap) (L : List Loc) : Prop := v = some (.int (own_rf (own_same1 (own_x gA xA xB g0) (own_x gA xA xB g0) (own_x kA ya0 yb0 k0) (own_x kA ya0 yb0 k0) (own_x kA ya1 yb1 k0) (own_x kA ya1 yb1 k0)) false false)) ∧ h = h0 ∧ L = []
set_option maxRecDepth 65536 in
set_option maxHeartbeats 40000000 in
theorem own_met24_0 (l : Launch) (Z : State) (a0 : Array Value) (hw : ∀ d ∈ tables_1, d.before a0 Z = true) (h0 : Heap) (p1 : Addr) (p2 : Addr) (n0 nS : Nat) (kG kK : ClassId) (g0 g1 g2 g3 k0 k1 k2 k3 gA gB kA kB : Addr) (xA xB ya0 ya1 yb0 yb1 cs : Int32) (O0 : Old Z n0 h0) (U0 : own_U Z nS h0 gA gB kA kB xA xB ya0 ya1 yb0 yb1) (Vg : Arv Z h0 p1 kG (.object "java/lang/String") (4 : Int32) [.ref g0, .ref g1, .ref g2, .ref g3] .null) (Vk : Arv Z h0 p2 kK (.object "java/lang/String") (4 : Int32) [.ref k0, .ref k1, .ref k2, .ref k3] .null) (eg0 : g0 = gA ∨ g0 = gB) (eg1 : g1 = gA ∨ g1 = gB) (eg2 : g2 = gA ∨ g2 = gB) (eg3 : g3 = gA ∨ g3 = gB) (ek0 : k0 = kA ∨ k0 = kB) (ek1 : k1 = kA ∨ k1 = kB) (ek2 : k2 = kA ∨ k2 = kB) (ek3 : k3 = kA ∨ k3 = kB) (hcs : ¬ cs.toInt = 0) (SS : Sta Z Z.heap "java/lang/String" "COMPACT_STRINGS" "Z" (.int cs)) :
    MetFree l (⟨"com/example/entryway/entryway/KeyIndexFirstOfPinLaw", "ref", "([Ljava/lang/String;[Ljava/lang/String;I)I"⟩ : MethodName) (head1 [Jvm.Cond.code (⟨"com/example/entryway/entryway/KeyIndexFirstOfPinLaw", "ref", "([Ljava/lang/String;[Ljava/lang/String;I)I"⟩ : MethodName) method_4_code 3 (some .int)] ({ frames := 3, cells := 0, slots := 0, locals := 43 } : Room)) (fun a U => a = #[(.ref p1), (.ref p2), (.int (0 : Int32))] ∧ Z.Warmed39 U.vm ∧ U.heap = h0) (fun _ _ _ _ _ => True) (fun _ U o U' => ∃ v L, o = .returned v ∧ (own_Qmet24_0 h0 p1 p2 n0 nS kG kK g0 g1 g2 g3 k0 k1 k2 k3 gA gB kA kB xA xB ya0 ya1 yb0 yb1 cs) v U'.heap L ∧ FrameEnd U o U' L ({ frames := 3, cells := 0, slots := 0, locals := 43 } : Room).cells ({ frames := 3, cells := 0, slots := 0, locals := 43 } : Room).slots) := by
  refine OwnK.met (Q := (own_Qmet24_0 h0 p1 p2 n0 nS kG kK g0 g1 g2 g3 k0 k1 k2 k3 gA gB kA kB xA xB ya0 ya1 yb0 yb1 cs)) (C := ({ frames := 3, cells := 0, slots := 0, locals := 43 } : Room).cells) (N := ({ frames := 3, cells := 0, slots := 0, locals := 43 } : Room).slots) own_pl_24 (own_ef_24_0 p1 p2) ?_
  intro p e s m below meth c T0 X0 hx hZ hby hml hown hnm hret hlk e0
  refine OwnK.aloadN X0 hx (hb hby own_d24_0) (pc' := 1) rfl (v := (.ref p1)) rfl rfl ?_
  refine OwnK.aloadN X0 hx (hb hby own_d24_1) (pc' := 2) rfl (v := (.ref p2)) rfl rfl ?_
  refine OwnK.iconst X0 hx (hb hby own_d24_2) (pc' := 3) rfl (v := (0 : Int32)) (by decide) ?_
  refine OwnK.iloadN X0 hx (hb hby own_d24_3) (pc' := 4) rfl (v := (0 : Int32)) rfl ?_
  refine OwnK.callS_ X0 hx hZ hown (y := (⟨"com/example/entryway/entryway/KeyIndexFirstOfPinLaw", "same", "([Ljava/lang/String;[Ljava/lang/String;II)Z"⟩ : MethodName)) (hw _ (List.mem_of_getElem? (i := 140) rfl)) (hw _ (List.mem_of_getElem? (i := 141) rfl)) (hw _ (List.mem_of_getElem? (i := 138) rfl)) (hw _ (List.mem_of_getElem? (i := 142) rfl)) (by decide) (own_met25 l Z a0 hw h0 p1 p2 (0 : Int32) (0 : Int32) n0 nS _ _ _ _ 0 0 g0 g0 k0 k0 gA gB kA kB xA xB ya0 ya1 yb0 yb1 cs O0 U0 Vg Vk (by decide) (by decide) (by decide) (by decide) rfl rfl rfl rfl eg0 eg0 ek0 ek0 hcs SS ) (by decide) (W := 0) (by decide) e0 (by rw [hml]; rfl) own_pd_22 (argsL := [(.ref p1), (.ref p2), (.int (0 : Int32)), (.int (0 : Int32))]) rfl (S := []) rfl (Nat.le_of_eq rfl) (hb hby own_d24_4) (pc' := 7) rfl (by decide) (by decide) (fun T1 v1 L1 X1 hQ1 => ?_)
  obtain ⟨rfl, e1, rfl⟩ := hQ1
  refine OwnK.if_eq X1 hx (hb hby own_d24_7) (by decide) (pcT := 12) (by decide) (pc' := 10) rfl (fun (hc3 : (own_bi (own_same1 (own_x gA xA xB g0) (own_x gA xA xB g0) (own_x kA ya0 yb0 k0) (own_x kA ya0 yb0 k0) (own_x kA ya1 yb1 k0) (own_x kA ya1 yb1 k0))).toInt = 0) => ?_) (fun (hc3 : ¬ (own_bi (own_same1 (own_x gA xA xB g0) (own_x gA xA xB g0) (own_x kA ya0 yb0 k0) (own_x kA ya0 yb0 k0) (own_x kA ya1 yb1 k0) (own_x kA ya1 yb1 k0))).toInt = 0) => ?_)
  · refine OwnK.iloadN X1 hx (hb hby own_d24_12) (pc' := 13) rfl (v := (0 : Int32)) rfl ?_
    refine OwnK.iconst X1 hx (hb hby own_d24_13) (pc' := 14) rfl (v := (1 : Int32)) (by decide) ?_
    refine OwnK.icmp_lt X1 hx (hb hby own_d24_14) (by decide) (pcT := 29) (by decide) (pc' := 17) rfl (fun hc14 => ?_) (fun (hc14 : 1 ≤ 0) => absurd hc14 (by decide))
    refine OwnK.iloadN X1 hx (hb hby own_d24_29) (pc' := 30) rfl (v := (0 : Int32)) rfl ?_
    refine OwnK.iconst X1 hx (hb hby own_d24_30) (pc' := 31) rfl (v := (2 : Int32)) (by decide) ?_
    refine OwnK.icmp_lt X1 hx (hb hby own_d24_31) (by decide) (pcT := 46) (by decide) (pc' := 34) rfl (fun hc31 => ?_) (fun (hc31 : 2 ≤ 0) => absurd hc31 (by decide))
    refine OwnK.iconst X1 hx (hb hby own_d24_46) (pc' := 47) rfl (v := (3 : Int32)) (by decide) ?_
    refine OwnK.retI_ X1 hx hret hlk (hb hby own_d24_47) (by decide) (by decide) ?_
    exact ⟨by rw [own_bf hc3]; rfl, e1, rfl⟩
  · refine OwnK.iconst X1 hx (hb hby own_d24_10) (pc' := 11) rfl (v := (0 : Int32)) (by decide) ?_
    refine OwnK.retI_ X1 hx hret hlk (hb hby own_d24_11) (by decide) (by decide) ?_
    exact ⟨by rw [own_bt hc3]; rfl, e1, rfl⟩
def own_Qmet24_1 (h0 : Heap) (p1 : Addr) (p2 : Addr) (n0 nS : Nat) (kG kK : ClassId) (g0 g1 g2 g3 k0 k1 k2 k3 gA gB kA kB : Addr) (xA xB ya0 ya1 yb0 yb1 cs : Int32) (v : Option Value) (h : Heap) (L : List Loc) : Prop := v = some (.int (own_rf (own_same1 (own_x gA xA xB g0) (own_x gA xA xB g1) (own_x kA ya0 yb0 k0) (own_x kA ya0 yb0 k1) (own_x kA ya1 yb1 k0) (own_x kA ya1 yb1 k1)) (own_same1 (own_x gA xA xB g1) (own_x gA xA xB g1) (own_x kA ya0 yb0 k1) (own_x kA ya0 yb0 k1) (own_x kA ya1 yb1 k1) (own_x kA ya1 yb1 k1)) false)) ∧ h = h0 ∧ L = []
set_option maxRecDepth 65536 in
set_option maxHeartbeats 40000000 in
theorem own_met24_1 (l : Launch) (Z : State) (a0 : Array Value) (hw : ∀ d ∈ tables_1, d.before a0 Z = true) (h0 : Heap) (p1 : Addr) (p2 : Addr) (n0 nS : Nat) (kG kK : ClassId) (g0 g1 g2 g3 k0 k1 k2 k3 gA gB kA kB : Addr) (xA xB ya0 ya1 yb0 yb1 cs : Int32) (O0 : Old Z n0 h0) (U0 : own_U Z nS h0 gA gB kA kB xA xB ya0 ya1 yb0 yb1) (Vg : Arv Z h0 p1 kG (.object "java/lang/String") (4 : Int32) [.ref g0, .ref g1, .ref g2, .ref g3] .null) (Vk : Arv Z h0 p2 kK (.object "java/lang/String") (4 : Int32) [.ref k0, .ref k1, .ref k2, .ref k3] .null) (eg0 : g0 = gA ∨ g0 = gB) (eg1 : g1 = gA ∨ g1 = gB) (eg2 : g2 = gA ∨ g2 = gB) (eg3 : g3 = gA ∨ g3 = gB) (ek0 : k0 = kA ∨ k0 = kB) (ek1 : k1 = kA ∨ k1 = kB) (ek2 : k2 = kA ∨ k2 = kB) (ek3 : k3 = kA ∨ k3 = kB) (hcs : ¬ cs.toInt = 0) (SS : Sta Z Z.heap "java/lang/String" "COMPACT_STRINGS" "Z" (.int cs)) :
    MetFree l (⟨"com/example/entryway/entryway/KeyIndexFirstOfPinLaw", "ref", "([Ljava/lang/String;[Ljava/lang/String;I)I"⟩ : MethodName) (head1 [Jvm.Cond.code (⟨"com/example/entryway/entryway/KeyIndexFirstOfPinLaw", "ref", "([Ljava/lang/String;[Ljava/lang/String;I)I"⟩ : MethodName) method_4_code 3 (some .int)] ({ frames := 3, cells := 0, slots := 0, locals := 43 } : Room)) (fun a U => a = #[(.ref p1), (.ref p2), (.int (1 : Int32))] ∧ Z.Warmed39 U.vm ∧ U.heap = h0) (fun _ _ _ _ _ => True) (fun _ U o U' => ∃ v L, o = .returned v ∧ (own_Qmet24_1 h0 p1 p2 n0 nS kG kK g0 g1 g2 g3 k0 k1 k2 k3 gA gB kA kB xA xB ya0 ya1 yb0 yb1 cs) v U'.heap L ∧ FrameEnd U o U' L ({ frames := 3, cells := 0, slots := 0, locals := 43 } : Room).cells ({ frames := 3, cells := 0, slots := 0, locals := 43 } : Room).slots) := by
  refine OwnK.met (Q := (own_Qmet24_1 h0 p1 p2 n0 nS kG kK g0 g1 g2 g3 k0 k1 k2 k3 gA gB kA kB xA xB ya0 ya1 yb0 yb1 cs)) (C := ({ frames := 3, cells := 0, slots := 0, locals := 43 } : Room).cells) (N := ({ frames := 3, cells := 0, slots := 0, locals := 43 } : Room).slots) own_pl_24 (own_ef_24_1 p1 p2) ?_
  intro p e s m below meth c T0 X0 hx hZ hby hml hown hnm hret hlk e0
  refine OwnK.aloadN X0 hx (hb hby own_d24_0) (pc' := 1) rfl (v := (.ref p1)) rfl rfl ?_
  refine OwnK.aloadN X0 hx (hb hby own_d24_1) (pc' := 2) rfl (v := (.ref p2)) rfl rfl ?_
  refine OwnK.iconst X0 hx (hb hby own_d24_2) (pc' := 3) rfl (v := (0 : Int32)) (by decide) ?_
  refine OwnK.iloadN X0 hx (hb hby own_d24_3) (pc' := 4) rfl (v := (1 : Int32)) rfl ?_
  refine OwnK.callS_ X0 hx hZ hown (y := (⟨"com/example/entryway/entryway/KeyIndexFirstOfPinLaw", "same", "([Ljava/lang/String;[Ljava/lang/String;II)Z"⟩ : MethodName)) (hw _ (List.mem_of_getElem? (i := 140) rfl)) (hw _ (List.mem_of_getElem? (i := 141) rfl)) (hw _ (List.mem_of_getElem? (i := 138) rfl)) (hw _ (List.mem_of_getElem? (i := 142) rfl)) (by decide) (own_met25 l Z a0 hw h0 p1 p2 (0 : Int32) (1 : Int32) n0 nS _ _ _ _ 0 1 g0 g1 k0 k1 gA gB kA kB xA xB ya0 ya1 yb0 yb1 cs O0 U0 Vg Vk (by decide) (by decide) (by decide) (by decide) rfl rfl rfl rfl eg0 eg1 ek0 ek1 hcs SS ) (by decide) (W := 0) (by decide) e0 (by rw [hml]; rfl) own_pd_22 (argsL := [(.ref p1), (.ref p2), (.int (0 : Int32)), (.int (1 : Int32))]) rfl (S := []) rfl (Nat.le_of_eq rfl) (hb hby own_d24_4) (pc' := 7) rfl (by decide) (by decide) (fun T1 v1 L1 X1 hQ1 => ?_)
  obtain ⟨rfl, e1, rfl⟩ := hQ1
  refine OwnK.if_eq X1 hx (hb hby own_d24_7) (by decide) (pcT := 12) (by decide) (pc' := 10) rfl (fun (hc3 : (own_bi (own_same1 (own_x gA xA xB g0) (own_x gA xA xB g1) (own_x kA ya0 yb0 k0) (own_x kA ya0 yb0 k1) (own_x kA ya1 yb1 k0) (own_x kA ya1 yb1 k1))).toInt = 0) => ?_) (fun (hc3 : ¬ (own_bi (own_same1 (own_x gA xA xB g0) (own_x gA xA xB g1) (own_x kA ya0 yb0 k0) (own_x kA ya0 yb0 k1) (own_x kA ya1 yb1 k0) (own_x kA ya1 yb1 k1))).toInt = 0) => ?_)
  · refine OwnK.iloadN X1 hx (hb hby own_d24_12) (pc' := 13) rfl (v := (1 : Int32)) rfl ?_
    refine OwnK.iconst X1 hx (hb hby own_d24_13) (pc' := 14) rfl (v := (1 : Int32)) (by decide) ?_
    refine OwnK.icmp_lt X1 hx (hb hby own_d24_14) (by decide) (pcT := 29) (by decide) (pc' := 17) rfl (fun (hc14 : 1 < 1) => absurd hc14 (by decide)) (fun hc14 => ?_)
    refine OwnK.aloadN X1 hx (hb hby own_d24_17) (pc' := 18) rfl (v := (.ref p1)) rfl rfl ?_
    refine OwnK.aloadN X1 hx (hb hby own_d24_18) (pc' := 19) rfl (v := (.ref p2)) rfl rfl ?_
    refine OwnK.iconst X1 hx (hb hby own_d24_19) (pc' := 20) rfl (v := (1 : Int32)) (by decide) ?_
    refine OwnK.iloadN X1 hx (hb hby own_d24_20) (pc' := 21) rfl (v := (1 : Int32)) rfl ?_
    refine OwnK.callS_ X1 hx hZ hown (y := (⟨"com/example/entryway/entryway/KeyIndexFirstOfPinLaw", "same", "([Ljava/lang/String;[Ljava/lang/String;II)Z"⟩ : MethodName)) (hw _ (List.mem_of_getElem? (i := 140) rfl)) (hw _ (List.mem_of_getElem? (i := 141) rfl)) (hw _ (List.mem_of_getElem? (i := 138) rfl)) (hw _ (List.mem_of_getElem? (i := 142) rfl)) (by decide) (own_met25 l Z a0 hw h0 p1 p2 (1 : Int32) (1 : Int32) n0 nS _ _ _ _ 1 1 g1 g1 k1 k1 gA gB kA kB xA xB ya0 ya1 yb0 yb1 cs O0 U0 Vg Vk (by decide) (by decide) (by decide) (by decide) rfl rfl rfl rfl eg1 eg1 ek1 ek1 hcs SS ) (by decide) (W := 0) (by decide) e1 (by rw [hml]; rfl) own_pd_22 (argsL := [(.ref p1), (.ref p2), (.int (1 : Int32)), (.int (1 : Int32))]) rfl (S := []) rfl (Nat.le_of_eq rfl) (hb hby own_d24_21) (pc' := 24) rfl (by decide) (by decide) (fun T4 v4 L4 X4 hQ4 => ?_)
    obtain ⟨rfl, e4, rfl⟩ := hQ4
    refine OwnK.if_eq X4 hx (hb hby own_d24_24) (by decide) (pcT := 29) (by decide) (pc' := 27) rfl (fun (hc6 : (own_bi (own_same1 (own_x gA xA xB g1) (own_x gA xA xB g1) (own_x kA ya0 yb0 k1) (own_x kA ya0 yb0 k1) (own_x kA ya1 yb1 k1) (own_x kA ya1 yb1 k1))).toInt = 0) => ?_) (fun (hc6 : ¬ (own_bi (own_same1 (own_x gA xA xB g1) (own_x gA xA xB g1) (own_x kA ya0 yb0 k1) (own_x kA ya0 yb0 k1) (own_x kA ya1 yb1 k1) (own_x kA ya1 yb1 k1))).toInt = 0) => ?_)
    · refine OwnK.iloadN X4 hx (hb hby own_d24_29) (pc' := 30) rfl (v := (1 : Int32)) rfl ?_
      refine OwnK.iconst X4 hx (hb hby own_d24_30) (pc' := 31) rfl (v := (2 : Int32)) (by decide) ?_
      refine OwnK.icmp_lt X4 hx (hb hby own_d24_31) (by decide) (pcT := 46) (by decide) (pc' := 34) rfl (fun hc31 => ?_) (fun (hc31 : 2 ≤ 1) => absurd hc31 (by decide))
      refine OwnK.iconst X4 hx (hb hby own_d24_46) (pc' := 47) rfl (v := (3 : Int32)) (by decide) ?_
      refine OwnK.retI_ X4 hx hret hlk (hb hby own_d24_47) (by decide) (by decide) ?_
      exact ⟨by rw [own_bf hc3, own_bf hc6]; rfl, e4, rfl⟩
    · refine OwnK.iconst X4 hx (hb hby own_d24_27) (pc' := 28) rfl (v := (1 : Int32)) (by decide) ?_
      refine OwnK.retI_ X4 hx hret hlk (hb hby own_d24_28) (by decide) (by decide) ?_
      exact ⟨by rw [own_bf hc3, own_bt hc6]; rfl, e4, rfl⟩
  · refine OwnK.iconst X1 hx (hb hby own_d24_10) (pc' := 11) rfl (v := (0 : Int32)) (by decide) ?_
    refine OwnK.retI_ X1 hx hret hlk (hb hby own_d24_11) (by decide) (by decide) ?_
    exact ⟨by rw [own_bt hc3]; rfl, e1, rfl⟩
def own_Qmet24_2 (h0 : Heap) (p1 : Addr) (p2 : Addr) (n0 nS : Nat) (kG kK : ClassId) (g0 g1 g2 g3 k0 k1 k2 k3 gA gB kA kB : Addr) (xA xB ya0 ya1 yb0 yb1 cs : Int32) (v : Option Value) (h : Heap) (L : List Loc) : Prop := v = some (.int (own_rf (own_same1 (own_x gA xA xB g0) (own_x gA xA xB g2) (own_x kA ya0 yb0 k0) (own_x kA ya0 yb0 k2) (own_x kA ya1 yb1 k0) (own_x kA ya1 yb1 k2)) (own_same1 (own_x gA xA xB g1) (own_x gA xA xB g2) (own_x kA ya0 yb0 k1) (own_x kA ya0 yb0 k2) (own_x kA ya1 yb1 k1) (own_x kA ya1 yb1 k2)) (own_same1 (own_x gA xA xB g2) (own_x gA xA xB g2) (own_x kA ya0 yb0 k2) (own_x kA ya0 yb0 k2) (own_x kA ya1 yb1 k2) (own_x kA ya1 yb1 k2)))) ∧ h = h0 ∧ L = []
set_option maxRecDepth 65536 in
set_option maxHeartbeats 40000000 in
theorem own_met24_2 (l : Launch) (Z : State) (a0 : Array Value) (hw : ∀ d ∈ tables_1, d.before a0 Z = true) (h0 : Heap) (p1 : Addr) (p2 : Addr) (n0 nS : Nat) (kG kK : ClassId) (g0 g1 g2 g3 k0 k1 k2 k3 gA gB kA kB : Addr) (xA xB ya0 ya1 yb0 yb1 cs : Int32) (O0 : Old Z n0 h0) (U0 : own_U Z nS h0 gA gB kA kB xA xB ya0 ya1 yb0 yb1) (Vg : Arv Z h0 p1 kG (.object "java/lang/String") (4 : Int32) [.ref g0, .ref g1, .ref g2, .ref g3] .null) (Vk : Arv Z h0 p2 kK (.object "java/lang/String") (4 : Int32) [.ref k0, .ref k1, .ref k2, .ref k3] .null) (eg0 : g0 = gA ∨ g0 = gB) (eg1 : g1 = gA ∨ g1 = gB) (eg2 : g2 = gA ∨ g2 = gB) (eg3 : g3 = gA ∨ g3 = gB) (ek0 : k0 = kA ∨ k0 = kB) (ek1 : k1 = kA ∨ k1 = kB) (ek2 : k2 = kA ∨ k2 = kB) (ek3 : k3 = kA ∨ k3 = kB) (hcs : ¬ cs.toInt = 0) (SS : Sta Z Z.heap "java/lang/String" "COMPACT_STRINGS" "Z" (.int cs)) :
    MetFree l (⟨"com/example/entryway/entryway/KeyIndexFirstOfPinLaw", "ref", "([Ljava/lang/String;[Ljava/lang/String;I)I"⟩ : MethodName) (head1 [Jvm.Cond.code (⟨"com/example/entryway/entryway/KeyIndexFirstOfPinLaw", "ref", "([Ljava/lang/String;[Ljava/lang/String;I)I"⟩ : MethodName) method_4_code 3 (some .int)] ({ frames := 3, cells := 0, slots := 0, locals := 43 } : Room)) (fun a U => a = #[(.ref p1), (.ref p2), (.int (2 : Int32))] ∧ Z.Warmed39 U.vm ∧ U.heap = h0) (fun _ _ _ _ _ => True) (fun _ U o U' => ∃ v L, o = .returned v ∧ (own_Qmet24_2 h0 p1 p2 n0 nS kG kK g0 g1 g2 g3 k0 k1 k2 k3 gA gB kA kB xA xB ya0 ya1 yb0 yb1 cs) v U'.heap L ∧ FrameEnd U o U' L ({ frames := 3, cells := 0, slots := 0, locals := 43 } : Room).cells ({ frames := 3, cells := 0, slots := 0, locals := 43 } : Room).slots) := by
  refine OwnK.met (Q := (own_Qmet24_2 h0 p1 p2 n0 nS kG kK g0 g1 g2 g3 k0 k1 k2 k3 gA gB kA kB xA xB ya0 ya1 yb0 yb1 cs)) (C := ({ frames := 3, cells := 0, slots := 0, locals := 43 } : Room).cells) (N := ({ frames := 3, cells := 0, slots := 0, locals := 43 } : Room).slots) own_pl_24 (own_ef_24_2 p1 p2) ?_
  intro p e s m below meth c T0 X0 hx hZ hby hml hown hnm hret hlk e0
  refine OwnK.aloadN X0 hx (hb hby own_d24_0) (pc' := 1) rfl (v := (.ref p1)) rfl rfl ?_
  refine OwnK.aloadN X0 hx (hb hby own_d24_1) (pc' := 2) rfl (v := (.ref p2)) rfl rfl ?_
  refine OwnK.iconst X0 hx (hb hby own_d24_2) (pc' := 3) rfl (v := (0 : Int32)) (by decide) ?_
  refine OwnK.iloadN X0 hx (hb hby own_d24_3) (pc' := 4) rfl (v := (2 : Int32)) rfl ?_
  refine OwnK.callS_ X0 hx hZ hown (y := (⟨"com/example/entryway/entryway/KeyIndexFirstOfPinLaw", "same", "([Ljava/lang/String;[Ljava/lang/String;II)Z"⟩ : MethodName)) (hw _ (List.mem_of_getElem? (i := 140) rfl)) (hw _ (List.mem_of_getElem? (i := 141) rfl)) (hw _ (List.mem_of_getElem? (i := 138) rfl)) (hw _ (List.mem_of_getElem? (i := 142) rfl)) (by decide) (own_met25 l Z a0 hw h0 p1 p2 (0 : Int32) (2 : Int32) n0 nS _ _ _ _ 0 2 g0 g2 k0 k2 gA gB kA kB xA xB ya0 ya1 yb0 yb1 cs O0 U0 Vg Vk (by decide) (by decide) (by decide) (by decide) rfl rfl rfl rfl eg0 eg2 ek0 ek2 hcs SS ) (by decide) (W := 0) (by decide) e0 (by rw [hml]; rfl) own_pd_22 (argsL := [(.ref p1), (.ref p2), (.int (0 : Int32)), (.int (2 : Int32))]) rfl (S := []) rfl (Nat.le_of_eq rfl) (hb hby own_d24_4) (pc' := 7) rfl (by decide) (by decide) (fun T1 v1 L1 X1 hQ1 => ?_)
  obtain ⟨rfl, e1, rfl⟩ := hQ1
  refine OwnK.if_eq X1 hx (hb hby own_d24_7) (by decide) (pcT := 12) (by decide) (pc' := 10) rfl (fun (hc3 : (own_bi (own_same1 (own_x gA xA xB g0) (own_x gA xA xB g2) (own_x kA ya0 yb0 k0) (own_x kA ya0 yb0 k2) (own_x kA ya1 yb1 k0) (own_x kA ya1 yb1 k2))).toInt = 0) => ?_) (fun (hc3 : ¬ (own_bi (own_same1 (own_x gA xA xB g0) (own_x gA xA xB g2) (own_x kA ya0 yb0 k0) (own_x kA ya0 yb0 k2) (own_x kA ya1 yb1 k0) (own_x kA ya1 yb1 k2))).toInt = 0) => ?_)
  · refine OwnK.iloadN X1 hx (hb hby own_d24_12) (pc' := 13) rfl (v := (2 : Int32)) rfl ?_
    refine OwnK.iconst X1 hx (hb hby own_d24_13) (pc' := 14) rfl (v := (1 : Int32)) (by decide) ?_
    refine OwnK.icmp_lt X1 hx (hb hby own_d24_14) (by decide) (pcT := 29) (by decide) (pc' := 17) rfl (fun (hc14 : 2 < 1) => absurd hc14 (by decide)) (fun hc14 => ?_)
    refine OwnK.aloadN X1 hx (hb hby own_d24_17) (pc' := 18) rfl (v := (.ref p1)) rfl rfl ?_
    refine OwnK.aloadN X1 hx (hb hby own_d24_18) (pc' := 19) rfl (v := (.ref p2)) rfl rfl ?_
    refine OwnK.iconst X1 hx (hb hby own_d24_19) (pc' := 20) rfl (v := (1 : Int32)) (by decide) ?_
    refine OwnK.iloadN X1 hx (hb hby own_d24_20) (pc' := 21) rfl (v := (2 : Int32)) rfl ?_
    refine OwnK.callS_ X1 hx hZ hown (y := (⟨"com/example/entryway/entryway/KeyIndexFirstOfPinLaw", "same", "([Ljava/lang/String;[Ljava/lang/String;II)Z"⟩ : MethodName)) (hw _ (List.mem_of_getElem? (i := 140) rfl)) (hw _ (List.mem_of_getElem? (i := 141) rfl)) (hw _ (List.mem_of_getElem? (i := 138) rfl)) (hw _ (List.mem_of_getElem? (i := 142) rfl)) (by decide) (own_met25 l Z a0 hw h0 p1 p2 (1 : Int32) (2 : Int32) n0 nS _ _ _ _ 1 2 g1 g2 k1 k2 gA gB kA kB xA xB ya0 ya1 yb0 yb1 cs O0 U0 Vg Vk (by decide) (by decide) (by decide) (by decide) rfl rfl rfl rfl eg1 eg2 ek1 ek2 hcs SS ) (by decide) (W := 0) (by decide) e1 (by rw [hml]; rfl) own_pd_22 (argsL := [(.ref p1), (.ref p2), (.int (1 : Int32)), (.int (2 : Int32))]) rfl (S := []) rfl (Nat.le_of_eq rfl) (hb hby own_d24_21) (pc' := 24) rfl (by decide) (by decide) (fun T4 v4 L4 X4 hQ4 => ?_)
    obtain ⟨rfl, e4, rfl⟩ := hQ4
    refine OwnK.if_eq X4 hx (hb hby own_d24_24) (by decide) (pcT := 29) (by decide) (pc' := 27) rfl (fun (hc6 : (own_bi (own_same1 (own_x gA xA xB g1) (own_x gA xA xB g2) (own_x kA ya0 yb0 k1) (own_x kA ya0 yb0 k2) (own_x kA ya1 yb1 k1) (own_x kA ya1 yb1 k2))).toInt = 0) => ?_) (fun (hc6 : ¬ (own_bi (own_same1 (own_x gA xA xB g1) (own_x gA xA xB g2) (own_x kA ya0 yb0 k1) (own_x kA ya0 yb0 k2) (own_x kA ya1 yb1 k1) (own_x kA ya1 yb1 k2))).toInt = 0) => ?_)
    · refine OwnK.iloadN X4 hx (hb hby own_d24_29) (pc' := 30) rfl (v := (2 : Int32)) rfl ?_
      refine OwnK.iconst X4 hx (hb hby own_d24_30) (pc' := 31) rfl (v := (2 : Int32)) (by decide) ?_
      refine OwnK.icmp_lt X4 hx (hb hby own_d24_31) (by decide) (pcT := 46) (by decide) (pc' := 34) rfl (fun (hc31 : 2 < 2) => absurd hc31 (by decide)) (fun hc31 => ?_)
      refine OwnK.aloadN X4 hx (hb hby own_d24_34) (pc' := 35) rfl (v := (.ref p1)) rfl rfl ?_
      refine OwnK.aloadN X4 hx (hb hby own_d24_35) (pc' := 36) rfl (v := (.ref p2)) rfl rfl ?_
      refine OwnK.iconst X4 hx (hb hby own_d24_36) (pc' := 37) rfl (v := (2 : Int32)) (by decide) ?_
      refine OwnK.iloadN X4 hx (hb hby own_d24_37) (pc' := 38) rfl (v := (2 : Int32)) rfl ?_
      refine OwnK.callS_ X4 hx hZ hown (y := (⟨"com/example/entryway/entryway/KeyIndexFirstOfPinLaw", "same", "([Ljava/lang/String;[Ljava/lang/String;II)Z"⟩ : MethodName)) (hw _ (List.mem_of_getElem? (i := 140) rfl)) (hw _ (List.mem_of_getElem? (i := 141) rfl)) (hw _ (List.mem_of_getElem? (i := 138) rfl)) (hw _ (List.mem_of_getElem? (i := 142) rfl)) (by decide) (own_met25 l Z a0 hw h0 p1 p2 (2 : Int32) (2 : Int32) n0 nS _ _ _ _ 2 2 g2 g2 k2 k2 gA gB kA kB xA xB ya0 ya1 yb0 yb1 cs O0 U0 Vg Vk (by decide) (by decide) (by decide) (by decide) rfl rfl rfl rfl eg2 eg2 ek2 ek2 hcs SS ) (by decide) (W := 0) (by decide) e4 (by rw [hml]; rfl) own_pd_22 (argsL := [(.ref p1), (.ref p2), (.int (2 : Int32)), (.int (2 : Int32))]) rfl (S := []) rfl (Nat.le_of_eq rfl) (hb hby own_d24_38) (pc' := 41) rfl (by decide) (by decide) (fun T7 v7 L7 X7 hQ7 => ?_)
      obtain ⟨rfl, e7, rfl⟩ := hQ7
      refine OwnK.if_eq X7 hx (hb hby own_d24_41) (by decide) (pcT := 46) (by decide) (pc' := 44) rfl (fun (hc9 : (own_bi (own_same1 (own_x gA xA xB g2) (own_x gA xA xB g2) (own_x kA ya0 yb0 k2) (own_x kA ya0 yb0 k2) (own_x kA ya1 yb1 k2) (own_x kA ya1 yb1 k2))).toInt = 0) => ?_) (fun (hc9 : ¬ (own_bi (own_same1 (own_x gA xA xB g2) (own_x gA xA xB g2) (own_x kA ya0 yb0 k2) (own_x kA ya0 yb0 k2) (own_x kA ya1 yb1 k2) (own_x kA ya1 yb1 k2))).toInt = 0) => ?_)
      · refine OwnK.iconst X7 hx (hb hby own_d24_46) (pc' := 47) rfl (v := (3 : Int32)) (by decide) ?_
        refine OwnK.retI_ X7 hx hret hlk (hb hby own_d24_47) (by decide) (by decide) ?_
        exact ⟨by rw [own_bf hc3, own_bf hc6, own_bf hc9]; rfl, e7, rfl⟩
      · refine OwnK.iconst X7 hx (hb hby own_d24_44) (pc' := 45) rfl (v := (2 : Int32)) (by decide) ?_
        refine OwnK.retI_ X7 hx hret hlk (hb hby own_d24_45) (by decide) (by decide) ?_
        exact ⟨by rw [own_bf hc3, own_bf hc6, own_bt hc9]; rfl, e7, rfl⟩
    · refine OwnK.iconst X4 hx (hb hby own_d24_27) (pc' := 28) rfl (v := (1 : Int32)) (by decide) ?_
      refine OwnK.retI_ X4 hx hret hlk (hb hby own_d24_28) (by decide) (by decide) ?_
      exact ⟨by rw [own_bf hc3, own_bt hc6]; rfl, e4, rfl⟩
  · refine OwnK.iconst X1 hx (hb hby own_d24_10) (pc' := 11) rfl (v := (0 : Int32)) (by decide) ?_
    refine OwnK.retI_ X1 hx hret hlk (hb hby own_d24_11) (by decide) (by decide) ?_
    exact ⟨by rw [own_bt hc3]; rfl, e1, rfl⟩
def own_Qmet24_3 (h0 : Heap) (p1 : Addr) (p2 : Addr) (n0 nS : Nat) (kG kK : ClassId) (g0 g1 g2 g3 k0 k1 k2 k3 gA gB kA kB : Addr) (xA xB ya0 ya1 yb0 yb1 cs : Int32) (v : Option Value) (h : Heap) (L : List Loc) : Prop := v = some (.int (own_rf (own_same1 (own_x gA xA xB g0) (own_x gA xA xB g3) (own_x kA ya0 yb0 k0) (own_x kA ya0 yb0 k3) (own_x kA ya1 yb1 k0) (own_x kA ya1 yb1 k3)) (own_same1 (own_x gA xA xB g1) (own_x gA xA xB g3) (own_x kA ya0 yb0 k1) (own_x kA ya0 yb0 k3) (own_x kA ya1 yb1 k1) (own_x kA ya1 yb1 k3)) (own_same1 (own_x gA xA xB g2) (own_x gA xA xB g3) (own_x kA ya0 yb0 k2) (own_x kA ya0 yb0 k3) (own_x kA ya1 yb1 k2) (own_x kA ya1 yb1 k3)))) ∧ h = h0 ∧ L = []
set_option maxRecDepth 65536 in
set_option maxHeartbeats 40000000 in
theorem own_met24_3 (l : Launch) (Z : State) (a0 : Array Value) (hw : ∀ d ∈ tables_1, d.before a0 Z = true) (h0 : Heap) (p1 : Addr) (p2 : Addr) (n0 nS : Nat) (kG kK : ClassId) (g0 g1 g2 g3 k0 k1 k2 k3 gA gB kA kB : Addr) (xA xB ya0 ya1 yb0 yb1 cs : Int32) (O0 : Old Z n0 h0) (U0 : own_U Z nS h0 gA gB kA kB xA xB ya0 ya1 yb0 yb1) (Vg : Arv Z h0 p1 kG (.object "java/lang/String") (4 : Int32) [.ref g0, .ref g1, .ref g2, .ref g3] .null) (Vk : Arv Z h0 p2 kK (.object "java/lang/String") (4 : Int32) [.ref k0, .ref k1, .ref k2, .ref k3] .null) (eg0 : g0 = gA ∨ g0 = gB) (eg1 : g1 = gA ∨ g1 = gB) (eg2 : g2 = gA ∨ g2 = gB) (eg3 : g3 = gA ∨ g3 = gB) (ek0 : k0 = kA ∨ k0 = kB) (ek1 : k1 = kA ∨ k1 = kB) (ek2 : k2 = kA ∨ k2 = kB) (ek3 : k3 = kA ∨ k3 = kB) (hcs : ¬ cs.toInt = 0) (SS : Sta Z Z.heap "java/lang/String" "COMPACT_STRINGS" "Z" (.int cs)) :
    MetFree l (⟨"com/example/entryway/entryway/KeyIndexFirstOfPinLaw", "ref", "([Ljava/lang/String;[Ljava/lang/String;I)I"⟩ : MethodName) (head1 [Jvm.Cond.code (⟨"com/example/entryway/entryway/KeyIndexFirstOfPinLaw", "ref", "([Ljava/lang/String;[Ljava/lang/String;I)I"⟩ : MethodName) method_4_code 3 (some .int)] ({ frames := 3, cells := 0, slots := 0, locals := 43 } : Room)) (fun a U => a = #[(.ref p1), (.ref p2), (.int (3 : Int32))] ∧ Z.Warmed39 U.vm ∧ U.heap = h0) (fun _ _ _ _ _ => True) (fun _ U o U' => ∃ v L, o = .returned v ∧ (own_Qmet24_3 h0 p1 p2 n0 nS kG kK g0 g1 g2 g3 k0 k1 k2 k3 gA gB kA kB xA xB ya0 ya1 yb0 yb1 cs) v U'.heap L ∧ FrameEnd U o U' L ({ frames := 3, cells := 0, slots := 0, locals := 43 } : Room).cells ({ frames := 3, cells := 0, slots := 0, locals := 43 } : Room).slots) := by
  refine OwnK.met (Q := (own_Qmet24_3 h0 p1 p2 n0 nS kG kK g0 g1 g2 g3 k0 k1 k2 k3 gA gB kA kB xA xB ya0 ya1 yb0 yb1 cs)) (C := ({ frames := 3, cells := 0, slots := 0, locals := 43 } : Room).cells) (N := ({ frames := 3, cells := 0, slots := 0, locals := 43 } : Room).slots) own_pl_24 (own_ef_24_3 p1 p2) ?_
  intro p e s m below meth c T0 X0 hx hZ hby hml hown hnm hret hlk e0
  refine OwnK.aloadN X0 hx (hb hby own_d24_0) (pc' := 1) rfl (v := (.ref p1)) rfl rfl ?_
  refine OwnK.aloadN X0 hx (hb hby own_d24_1) (pc' := 2) rfl (v := (.ref p2)) rfl rfl ?_
  refine OwnK.iconst X0 hx (hb hby own_d24_2) (pc' := 3) rfl (v := (0 : Int32)) (by decide) ?_
  refine OwnK.iloadN X0 hx (hb hby own_d24_3) (pc' := 4) rfl (v := (3 : Int32)) rfl ?_
  refine OwnK.callS_ X0 hx hZ hown (y := (⟨"com/example/entryway/entryway/KeyIndexFirstOfPinLaw", "same", "([Ljava/lang/String;[Ljava/lang/String;II)Z"⟩ : MethodName)) (hw _ (List.mem_of_getElem? (i := 140) rfl)) (hw _ (List.mem_of_getElem? (i := 141) rfl)) (hw _ (List.mem_of_getElem? (i := 138) rfl)) (hw _ (List.mem_of_getElem? (i := 142) rfl)) (by decide) (own_met25 l Z a0 hw h0 p1 p2 (0 : Int32) (3 : Int32) n0 nS _ _ _ _ 0 3 g0 g3 k0 k3 gA gB kA kB xA xB ya0 ya1 yb0 yb1 cs O0 U0 Vg Vk (by decide) (by decide) (by decide) (by decide) rfl rfl rfl rfl eg0 eg3 ek0 ek3 hcs SS ) (by decide) (W := 0) (by decide) e0 (by rw [hml]; rfl) own_pd_22 (argsL := [(.ref p1), (.ref p2), (.int (0 : Int32)), (.int (3 : Int32))]) rfl (S := []) rfl (Nat.le_of_eq rfl) (hb hby own_d24_4) (pc' := 7) rfl (by decide) (by decide) (fun T1 v1 L1 X1 hQ1 => ?_)
  obtain ⟨rfl, e1, rfl⟩ := hQ1
  refine OwnK.if_eq X1 hx (hb hby own_d24_7) (by decide) (pcT := 12) (by decide) (pc' := 10) rfl (fun (hc3 : (own_bi (own_same1 (own_x gA xA xB g0) (own_x gA xA xB g3) (own_x kA ya0 yb0 k0) (own_x kA ya0 yb0 k3) (own_x kA ya1 yb1 k0) (own_x kA ya1 yb1 k3))).toInt = 0) => ?_) (fun (hc3 : ¬ (own_bi (own_same1 (own_x gA xA xB g0) (own_x gA xA xB g3) (own_x kA ya0 yb0 k0) (own_x kA ya0 yb0 k3) (own_x kA ya1 yb1 k0) (own_x kA ya1 yb1 k3))).toInt = 0) => ?_)
  · refine OwnK.iloadN X1 hx (hb hby own_d24_12) (pc' := 13) rfl (v := (3 : Int32)) rfl ?_
    refine OwnK.iconst X1 hx (hb hby own_d24_13) (pc' := 14) rfl (v := (1 : Int32)) (by decide) ?_
    refine OwnK.icmp_lt X1 hx (hb hby own_d24_14) (by decide) (pcT := 29) (by decide) (pc' := 17) rfl (fun (hc14 : 3 < 1) => absurd hc14 (by decide)) (fun hc14 => ?_)
    refine OwnK.aloadN X1 hx (hb hby own_d24_17) (pc' := 18) rfl (v := (.ref p1)) rfl rfl ?_
    refine OwnK.aloadN X1 hx (hb hby own_d24_18) (pc' := 19) rfl (v := (.ref p2)) rfl rfl ?_
    refine OwnK.iconst X1 hx (hb hby own_d24_19) (pc' := 20) rfl (v := (1 : Int32)) (by decide) ?_
    refine OwnK.iloadN X1 hx (hb hby own_d24_20) (pc' := 21) rfl (v := (3 : Int32)) rfl ?_
    refine OwnK.callS_ X1 hx hZ hown (y := (⟨"com/example/entryway/entryway/KeyIndexFirstOfPinLaw", "same", "([Ljava/lang/String;[Ljava/lang/String;II)Z"⟩ : MethodName)) (hw _ (List.mem_of_getElem? (i := 140) rfl)) (hw _ (List.mem_of_getElem? (i := 141) rfl)) (hw _ (List.mem_of_getElem? (i := 138) rfl)) (hw _ (List.mem_of_getElem? (i := 142) rfl)) (by decide) (own_met25 l Z a0 hw h0 p1 p2 (1 : Int32) (3 : Int32) n0 nS _ _ _ _ 1 3 g1 g3 k1 k3 gA gB kA kB xA xB ya0 ya1 yb0 yb1 cs O0 U0 Vg Vk (by decide) (by decide) (by decide) (by decide) rfl rfl rfl rfl eg1 eg3 ek1 ek3 hcs SS ) (by decide) (W := 0) (by decide) e1 (by rw [hml]; rfl) own_pd_22 (argsL := [(.ref p1), (.ref p2), (.int (1 : Int32)), (.int (3 : Int32))]) rfl (S := []) rfl (Nat.le_of_eq rfl) (hb hby own_d24_21) (pc' := 24) rfl (by decide) (by decide) (fun T4 v4 L4 X4 hQ4 => ?_)
    obtain ⟨rfl, e4, rfl⟩ := hQ4
    refine OwnK.if_eq X4 hx (hb hby own_d24_24) (by decide) (pcT := 29) (by decide) (pc' := 27) rfl (fun (hc6 : (own_bi (own_same1 (own_x gA xA xB g1) (own_x gA xA xB g3) (own_x kA ya0 yb0 k1) (own_x kA ya0 yb0 k3) (own_x kA ya1 yb1 k1) (own_x kA ya1 yb1 k3))).toInt = 0) => ?_) (fun (hc6 : ¬ (own_bi (own_same1 (own_x gA xA xB g1) (own_x gA xA xB g3) (own_x kA ya0 yb0 k1) (own_x kA ya0 yb0 k3) (own_x kA ya1 yb1 k1) (own_x kA ya1 yb1 k3))).toInt = 0) => ?_)
    · refine OwnK.iloadN X4 hx (hb hby own_d24_29) (pc' := 30) rfl (v := (3 : Int32)) rfl ?_
      refine OwnK.iconst X4 hx (hb hby own_d24_30) (pc' := 31) rfl (v := (2 : Int32)) (by decide) ?_
      refine OwnK.icmp_lt X4 hx (hb hby own_d24_31) (by decide) (pcT := 46) (by decide) (pc' := 34) rfl (fun (hc31 : 3 < 2) => absurd hc31 (by decide)) (fun hc31 => ?_)
      refine OwnK.aloadN X4 hx (hb hby own_d24_34) (pc' := 35) rfl (v := (.ref p1)) rfl rfl ?_
      refine OwnK.aloadN X4 hx (hb hby own_d24_35) (pc' := 36) rfl (v := (.ref p2)) rfl rfl ?_
      refine OwnK.iconst X4 hx (hb hby own_d24_36) (pc' := 37) rfl (v := (2 : Int32)) (by decide) ?_
      refine OwnK.iloadN X4 hx (hb hby own_d24_37) (pc' := 38) rfl (v := (3 : Int32)) rfl ?_
      refine OwnK.callS_ X4 hx hZ hown (y := (⟨"com/example/entryway/entryway/KeyIndexFirstOfPinLaw", "same", "([Ljava/lang/String;[Ljava/lang/String;II)Z"⟩ : MethodName)) (hw _ (List.mem_of_getElem? (i := 140) rfl)) (hw _ (List.mem_of_getElem? (i := 141) rfl)) (hw _ (List.mem_of_getElem? (i := 138) rfl)) (hw _ (List.mem_of_getElem? (i := 142) rfl)) (by decide) (own_met25 l Z a0 hw h0 p1 p2 (2 : Int32) (3 : Int32) n0 nS _ _ _ _ 2 3 g2 g3 k2 k3 gA gB kA kB xA xB ya0 ya1 yb0 yb1 cs O0 U0 Vg Vk (by decide) (by decide) (by decide) (by decide) rfl rfl rfl rfl eg2 eg3 ek2 ek3 hcs SS ) (by decide) (W := 0) (by decide) e4 (by rw [hml]; rfl) own_pd_22 (argsL := [(.ref p1), (.ref p2), (.int (2 : Int32)), (.int (3 : Int32))]) rfl (S := []) rfl (Nat.le_of_eq rfl) (hb hby own_d24_38) (pc' := 41) rfl (by decide) (by decide) (fun T7 v7 L7 X7 hQ7 => ?_)
      obtain ⟨rfl, e7, rfl⟩ := hQ7
      refine OwnK.if_eq X7 hx (hb hby own_d24_41) (by decide) (pcT := 46) (by decide) (pc' := 44) rfl (fun (hc9 : (own_bi (own_same1 (own_x gA xA xB g2) (own_x gA xA xB g3) (own_x kA ya0 yb0 k2) (own_x kA ya0 yb0 k3) (own_x kA ya1 yb1 k2) (own_x kA ya1 yb1 k3))).toInt = 0) => ?_) (fun (hc9 : ¬ (own_bi (own_same1 (own_x gA xA xB g2) (own_x gA xA xB g3) (own_x kA ya0 yb0 k2) (own_x kA ya0 yb0 k3) (own_x kA ya1 yb1 k2) (own_x kA ya1 yb1 k3))).toInt = 0) => ?_)
      · refine OwnK.iconst X7 hx (hb hby own_d24_46) (pc' := 47) rfl (v := (3 : Int32)) (by decide) ?_
        refine OwnK.retI_ X7 hx hret hlk (hb hby own_d24_47) (by decide) (by decide) ?_
        exact ⟨by rw [own_bf hc3, own_bf hc6, own_bf hc9]; rfl, e7, rfl⟩
      · refine OwnK.iconst X7 hx (hb hby own_d24_44) (pc' := 45) rfl (v := (2 : Int32)) (by decide) ?_
        refine OwnK.retI_ X7 hx hret hlk (hb hby own_d24_45) (by decide) (by decide) ?_
        exact ⟨by rw [own_bf hc3, own_bf hc6, own_bt hc9]; rfl, e7, rfl⟩
    · refine OwnK.iconst X4 hx (hb hby own_d24_27) (pc' := 28) rfl (v := (1 : Int32)) (by decide) ?_
      refine OwnK.retI_ X4 hx hret hlk (hb hby own_d24_28) (by decide) (by decide) ?_
      exact ⟨by rw [own_bf hc3, own_bt hc6]; rfl, e4, rfl⟩
  · refine OwnK.iconst X1 hx (hb hby own_d24_10) (pc' := 11) rfl (v := (0 : Int32)) (by decide) ?_
    refine OwnK.retI_ X1 hx hret hlk (hb hby own_d24_11) (by decide) (by decide) ?_
    exact ⟨by rw [own_bt hc3]; rfl, e1, rfl⟩
set_option maxRecDepth 65536 in
set_option maxHeartbeats 40000000 in
theorem own_law (l : Launch) (Z : State) (a0 : Array Value) (hw : ∀ d ∈ tables_1, d.before a0 Z = true) (ws : List Jvm.Cond) (h0 : Heap) (n0 : Nat) (Z0 : n0 ≤ h0.size) (q0 : Int32) (q1 : Int32) (q2 : Int32) (q3 : Int32) (cs : Int32) (O0 : Old Z n0 h0) (hcs : ¬ cs.toInt = 0) (SS : Sta Z Z.heap "java/lang/String" "COMPACT_STRINGS" "Z" (.int cs)) :
    MetFree l x (head1 (Jvm.Cond.code x code maxLocals ret :: ws) room_1) (fun a U => a = #[(.int q0), (.int q1), (.int q2), (.int q3)] ∧ Z.Warmed39 U.vm ∧ U.heap = h0) (fun _ _ _ _ _ => True) (fun _ U o U' => ∃ v L, o = .returned v ∧ (fun (v : Option Value) (_ : Heap) (L : List Loc) => v = some (.int (1 : Int32)) ∧ Fr n0 L) v U'.heap L ∧ FrameEnd U o U' L 21 82) := by
  refine OwnK.met (Q := (fun (v : Option Value) (_ : Heap) (L : List Loc) => v = some (.int (1 : Int32)) ∧ Fr n0 L)) (C := 21) (N := 82) own_pl_0 (own_ef_0 q0 q1 q2 q3) ?_
  intro p e s m below meth c T0 X0 hx hZ hby hml hown hnm hret hlk e0
  have N0 := Fr.nil n0
  refine OwnK.iconst X0 hx (hb hby at_0) (pc' := 1) rfl (v := (2 : Int32)) (by decide) ?_
  refine OwnK.newP_ X0 hx hZ (hw _ (List.mem_of_getElem? (i := 0) rfl)) e0 (hb hby at_1) (pc' := 3) rfl (n := (2 : Int32)) (by decide) (cap := 2) (by decide) (by decide) (by decide) (by decide) (ad := "[C") (by decide) (fun T1 h1 a1 k1 X1 e1 g1 E1 V1 Q1 => ?_)
  have ge_a1 : n0 ≤ a1 := Nat.le_trans Z0 (Nat.le_of_eq g1.symm)
  have z2 : n0 ≤ h1.size := Nat.le_trans Z0 E1.1
  have O3 := O0.ext E1
  have f4 : Arv Z h1 a1 k1 .char (2 : Int32) [(.int (0 : Int32)), (.int (0 : Int32))] (.int (0 : Int32)) := V1.pad (pad_rep [] (.int (0 : Int32)) 2)
  refine OwnK.astore X1 hx (hb hby at_3) (pc' := 5) rfl rfl (Ls' := #[.val (.int q0), .val (.int q1), .val (.int q2), .val (.int q3), .val (.ref a1), .unset, .unset, .unset, .unset, .unset, .unset, .unset, .unset]) rfl ?_
  refine OwnK.aload X1 hx (hb hby at_5) (pc' := 7) rfl (v := (.ref a1)) rfl rfl ?_
  refine OwnK.iconst X1 hx (hb hby at_7) (pc' := 8) rfl (v := (0 : Int32)) (by decide) ?_
  refine OwnK.iloadN X1 hx (hb hby at_8) (pc' := 9) rfl (v := q0) rfl ?_
  refine OwnK.sipush X1 hx (hb hby at_9) (pc' := 12) rfl (v := (255 : Int32)) (by decide) ?_
  refine OwnK.iand X1 hx (hb hby at_12) (pc' := 13) rfl ?_
  refine OwnK.i2c X1 hx (hb hby at_13) (pc' := 14) rfl ?_
  refine OwnK.castore X1 hx hZ e1 f4 (i := 0) (by decide) (by first | decide | omega) (Nat.le_of_ble_eq_true rfl) (hb hby at_14) (pc' := 15) rfl (fun T5 h5 X5 e5 W5 V5 => ?_)
  have f6 := Q1.wr W5
  have f7 : Arv Z h5 a1 _ .char (2 : Int32) [(.int (q0 &&& (255 : Int32))), (.int (0 : Int32))] (.int (0 : Int32)) := (by have q := V5; rw [own_ch] at q; exact q)
  have N8 := Fr.snoc X5 N0 ge_a1
  have O9 := O3.wr W5 ge_a1
  have z10 : n0 ≤ h5.size := Nat.le_trans z2 (Keep.of_wr W5).1
  refine OwnK.aload X5 hx (hb hby at_15) (pc' := 17) rfl (v := (.ref a1)) rfl rfl ?_
  refine OwnK.iconst X5 hx (hb hby at_17) (pc' := 18) rfl (v := (1 : Int32)) (by decide) ?_
  refine OwnK.iloadN X5 hx (hb hby at_18) (pc' := 19) rfl (v := q0) rfl ?_
  refine OwnK.bipush X5 hx (hb hby at_19) (pc' := 21) rfl (v := (8 : Int32)) (by decide) ?_
  refine OwnK.iushr X5 hx (hb hby at_21) (pc' := 22) rfl ?_
  refine OwnK.sipush X5 hx (hb hby at_22) (pc' := 25) rfl (v := (255 : Int32)) (by decide) ?_
  refine OwnK.iand X5 hx (hb hby at_25) (pc' := 26) rfl ?_
  refine OwnK.i2c X5 hx (hb hby at_26) (pc' := 27) rfl ?_
  refine OwnK.castore X5 hx hZ e5 f7 (i := 1) (by decide) (by first | decide | omega) (Nat.le_of_ble_eq_true rfl) (hb hby at_27) (pc' := 28) rfl (fun T11 h11 X11 e11 W11 V11 => ?_)
  have f12 := f6.wr W11
  have f13 : Arv Z h11 a1 _ .char (2 : Int32) [(.int (q0 &&& (255 : Int32))), (.int ((XT.ushr q0 (8 : Int32)) &&& (255 : Int32)))] (.int (0 : Int32)) := (by have q := V11; rw [own_ch] at q; exact q)
  have N14 := Fr.snoc X11 N8 ge_a1
  have O15 := O9.wr W11 ge_a1
  have z16 : n0 ≤ h11.size := Nat.le_trans z10 (Keep.of_wr W11).1
  refine OwnK.iconst X11 hx (hb hby at_28) (pc' := 29) rfl (v := (2 : Int32)) (by decide) ?_
  refine OwnK.newP_ X11 hx hZ (hw _ (List.mem_of_getElem? (i := 0) rfl)) e11 (hb hby at_29) (pc' := 31) rfl (n := (2 : Int32)) (by decide) (cap := 2) (by decide) (by decide) (by decide) (by decide) (ad := "[C") (by decide) (fun T17 h17 a17 k17 X17 e17 g17 E17 V17 Q17 => ?_)
  have q18 : a1 ≠ a17 := Nat.ne_of_lt (Nat.lt_of_lt_of_le f13.lt (Nat.le_of_eq g17.symm))
  have ge_a17 : n0 ≤ a17 := Nat.le_trans z16 (Nat.le_of_eq g17.symm)
  have z19 : n0 ≤ h17.size := Nat.le_trans z16 E17.1
  have f20 := f13.ext E17
  have f21 := f12.ext E17
  have O22 := O15.ext E17
  have f23 : Arv Z h17 a17 k17 .char (2 : Int32) [(.int (0 : Int32)), (.int (0 : Int32))] (.int (0 : Int32)) := V17.pad (pad_rep [] (.int (0 : Int32)) 2)
  refine OwnK.astore X17 hx (hb hby at_31) (pc' := 33) rfl rfl (Ls' := #[.val (.int q0), .val (.int q1), .val (.int q2), .val (.int q3), .val (.ref a1), .val (.ref a17), .unset, .unset, .unset, .unset, .unset, .unset, .unset]) rfl ?_
  refine OwnK.aload X17 hx (hb hby at_33) (pc' := 35) rfl (v := (.ref a17)) rfl rfl ?_
  refine OwnK.iconst X17 hx (hb hby at_35) (pc' := 36) rfl (v := (0 : Int32)) (by decide) ?_
  refine OwnK.iloadN X17 hx (hb hby at_36) (pc' := 37) rfl (v := q1) rfl ?_
  refine OwnK.sipush X17 hx (hb hby at_37) (pc' := 40) rfl (v := (255 : Int32)) (by decide) ?_
  refine OwnK.iand X17 hx (hb hby at_40) (pc' := 41) rfl ?_
  refine OwnK.i2c X17 hx (hb hby at_41) (pc' := 42) rfl ?_
  refine OwnK.castore X17 hx hZ e17 f23 (i := 0) (by decide) (by first | decide | omega) (Nat.le_of_ble_eq_true rfl) (hb hby at_42) (pc' := 43) rfl (fun T24 h24 X24 e24 W24 V24 => ?_)
  have f25 := f20.other W24 q18
  have f26 := f21.wr W24
  have f27 := Q17.wr W24
  have f28 : Arv Z h24 a17 _ .char (2 : Int32) [(.int (q1 &&& (255 : Int32))), (.int (0 : Int32))] (.int (0 : Int32)) := (by have q := V24; rw [own_ch] at q; exact q)
  have N29 := Fr.snoc X24 N14 ge_a17
  have O30 := O22.wr W24 ge_a17
  have z31 : n0 ≤ h24.size := Nat.le_trans z19 (Keep.of_wr W24).1
  refine OwnK.aload X24 hx (hb hby at_43) (pc' := 45) rfl (v := (.ref a17)) rfl rfl ?_
  refine OwnK.iconst X24 hx (hb hby at_45) (pc' := 46) rfl (v := (1 : Int32)) (by decide) ?_
  refine OwnK.iloadN X24 hx (hb hby at_46) (pc' := 47) rfl (v := q1) rfl ?_
  refine OwnK.bipush X24 hx (hb hby at_47) (pc' := 49) rfl (v := (8 : Int32)) (by decide) ?_
  refine OwnK.iushr X24 hx (hb hby at_49) (pc' := 50) rfl ?_
  refine OwnK.sipush X24 hx (hb hby at_50) (pc' := 53) rfl (v := (255 : Int32)) (by decide) ?_
  refine OwnK.iand X24 hx (hb hby at_53) (pc' := 54) rfl ?_
  refine OwnK.i2c X24 hx (hb hby at_54) (pc' := 55) rfl ?_
  refine OwnK.castore X24 hx hZ e24 f28 (i := 1) (by decide) (by first | decide | omega) (Nat.le_of_ble_eq_true rfl) (hb hby at_55) (pc' := 56) rfl (fun T32 h32 X32 e32 W32 V32 => ?_)
  have f33 := f25.other W32 q18
  have f34 := f26.wr W32
  have f35 := f27.wr W32
  have f36 : Arv Z h32 a17 _ .char (2 : Int32) [(.int (q1 &&& (255 : Int32))), (.int ((XT.ushr q1 (8 : Int32)) &&& (255 : Int32)))] (.int (0 : Int32)) := (by have q := V32; rw [own_ch] at q; exact q)
  have N37 := Fr.snoc X32 N29 ge_a17
  have O38 := O30.wr W32 ge_a17
  have z39 : n0 ≤ h32.size := Nat.le_trans z31 (Keep.of_wr W32).1
  refine OwnK.new_ X32 hx hZ hown (hw _ (List.mem_of_getElem? (i := 1) rfl)) (hw _ (List.mem_of_getElem? (i := 2) rfl)) (hw _ (List.mem_of_getElem? (i := 3) rfl)) e32 (hb hby at_56) (pc' := 59) rfl (by decide) (by decide) (fun T40 h40 a40 X40 e40 g40 E40 A40 D40 => ?_)
  have q41 : a1 ≠ a40 := Nat.ne_of_lt (Nat.lt_of_lt_of_le f33.lt (Nat.le_of_eq g40.symm))
  have q42 : a17 ≠ a40 := Nat.ne_of_lt (Nat.lt_of_lt_of_le f36.lt (Nat.le_of_eq g40.symm))
  have ge_a40 : n0 ≤ a40 := Nat.le_trans z39 (Nat.le_of_eq g40.symm)
  have z43 : n0 ≤ h40.size := Nat.le_trans z39 E40.1
  have f44 := f33.ext E40
  have f45 := f34.ext E40
  have f46 := f36.ext E40
  have f47 := f35.ext E40
  have O48 := O38.ext E40
  have f49 : Fld Z h40 a40 "java/lang/String" "coder" "B" (.int (0 : Int32)) := D40 (Or.inr (hw _ (List.mem_of_getElem? (i := 27) rfl))) (ty := .byte) (by decide)
  have f50 : Fld Z h40 a40 "java/lang/String" "value" "[B" .null := D40 (Or.inr (hw _ (List.mem_of_getElem? (i := 29) rfl))) (ty := (.array .byte)) (by decide)
  have f51 : Fld Z h40 a40 "java/lang/String" "hash" "I" (.int (0 : Int32)) := D40 (Or.inl (hw _ (List.mem_of_getElem? (i := 100) rfl))) (ty := .int) (by decide)
  have f52 : Fld Z h40 a40 "java/lang/String" "hashIsZero" "Z" (.int (0 : Int32)) := D40 (Or.inl (hw _ (List.mem_of_getElem? (i := 102) rfl))) (ty := .boolean) (by decide)
  refine OwnK.dup X40 hx (hb hby at_59) (pc' := 60) rfl rfl ?_
  refine OwnK.aload X40 hx (hb hby at_60) (pc' := 62) rfl (v := (.ref a1)) rfl rfl ?_
  refine OwnK.callI_ X40 hx hZ hown (y := (⟨"java/lang/String", "<init>", "([C)V"⟩ : MethodName)) (a := a40) rfl (hw _ (List.mem_of_getElem? (i := 4) rfl)) (hw _ (List.mem_of_getElem? (i := 5) rfl)) (hw _ (List.mem_of_getElem? (i := 3) rfl)) (hw _ (List.mem_of_getElem? (i := 6) rfl)) rfl (by decide) (own_met1_2 l Z a0 hw h40 n0 z43 a40 a1 _ (q0 &&& (255 : Int32)) ((XT.ushr q0 (8 : Int32)) &&& (255 : Int32)) cs O48 ge_a40 f51 f52 A40 f50 f49 f44 (Ne.symm q41) (own_m255 _) (own_m255 _) hcs SS ) (by decide) (W := 1) (by decide) e40 (by rw [hml]; rfl) own_pd_17 (argsL := [(.ref a1)]) rfl (S := [(.ref a40)]) rfl (Nat.le_of_eq rfl) (hb hby at_62) (pc' := 65) rfl (by decide) (by decide) (fun T53 v53 L53 X53 hQ53 => ?_)
  obtain ⟨t53, kt53, rfl, N53q, K53, ⟨Eq53, Cq53, Vq53, Bq53⟩, hr53, Xb53, Hf53, Hz53⟩ := hQ53
  have N54 := Fr.app N37 N53q
  have q55 : a1 ≠ t53 := Nat.ne_of_lt (Nat.lt_of_lt_of_le f44.lt hr53)
  have q56 : a17 ≠ t53 := Nat.ne_of_lt (Nat.lt_of_lt_of_le f46.lt hr53)
  have q57 : a40 ≠ t53 := Nat.ne_of_lt (Nat.lt_of_lt_of_le A40.lt hr53)
  have ge_t53 : n0 ≤ t53 := Nat.le_trans z43 hr53
  have f58 := f44.keep K53 (ninS q41 nin0)
  have f59 := f45.keep K53
  have f60 := f46.keep K53 (ninS q42 nin0)
  have f61 := f47.keep K53
  have f62 := A40.keep K53
  have z63 : n0 ≤ T53.heap.size := Nat.le_trans z43 K53.1
  have O64 := O48.keep K53 (allS ge_a40 all0)
  refine OwnK.astore X53 hx (hb hby at_65) (pc' := 67) rfl rfl (Ls' := #[.val (.int q0), .val (.int q1), .val (.int q2), .val (.int q3), .val (.ref a1), .val (.ref a17), .val (.ref a40), .unset, .unset, .unset, .unset, .unset, .unset]) rfl ?_
  refine OwnK.new_ X53 hx hZ hown (hw _ (List.mem_of_getElem? (i := 1) rfl)) (hw _ (List.mem_of_getElem? (i := 2) rfl)) (hw _ (List.mem_of_getElem? (i := 3) rfl)) rfl (hb hby at_67) (pc' := 70) rfl (by decide) (by decide) (fun T65 h65 a65 X65 e65 g65 E65 A65 D65 => ?_)
  have q66 : a1 ≠ a65 := Nat.ne_of_lt (Nat.lt_of_lt_of_le f58.lt (Nat.le_of_eq g65.symm))
  have q67 : a17 ≠ a65 := Nat.ne_of_lt (Nat.lt_of_lt_of_le f60.lt (Nat.le_of_eq g65.symm))
  have q68 : a40 ≠ a65 := Nat.ne_of_lt (Nat.lt_of_lt_of_le Eq53.lt (Nat.le_of_eq g65.symm))
  have q69 : t53 ≠ a65 := Nat.ne_of_lt (Nat.lt_of_lt_of_le Xb53.lt (Nat.le_of_eq g65.symm))
  have ge_a65 : n0 ≤ a65 := Nat.le_trans z63 (Nat.le_of_eq g65.symm)
  have z70 : n0 ≤ h65.size := Nat.le_trans z63 E65.1
  have f71 := f58.ext E65
  have f72 := f59.ext E65
  have f73 := f60.ext E65
  have f74 := f61.ext E65
  have f75 := Eq53.ext E65
  have f76 := Xb53.ext E65
  have f77 := Hf53.ext E65
  have f78 := Hz53.ext E65
  have f79 := Cq53.ext E65
  have f80 := Vq53.ext E65
  have f81 := Bq53.ext E65
  have O82 := O64.ext E65
  have f83 : Fld Z h65 a65 "java/lang/String" "coder" "B" (.int (0 : Int32)) := D65 (Or.inr (hw _ (List.mem_of_getElem? (i := 27) rfl))) (ty := .byte) (by decide)
  have f84 : Fld Z h65 a65 "java/lang/String" "value" "[B" .null := D65 (Or.inr (hw _ (List.mem_of_getElem? (i := 29) rfl))) (ty := (.array .byte)) (by decide)
  have f85 : Fld Z h65 a65 "java/lang/String" "hash" "I" (.int (0 : Int32)) := D65 (Or.inl (hw _ (List.mem_of_getElem? (i := 100) rfl))) (ty := .int) (by decide)
  have f86 : Fld Z h65 a65 "java/lang/String" "hashIsZero" "Z" (.int (0 : Int32)) := D65 (Or.inl (hw _ (List.mem_of_getElem? (i := 102) rfl))) (ty := .boolean) (by decide)
  refine OwnK.dup X65 hx (hb hby at_70) (pc' := 71) rfl rfl ?_
  refine OwnK.aload X65 hx (hb hby at_71) (pc' := 73) rfl (v := (.ref a17)) rfl rfl ?_
  refine OwnK.callI_ X65 hx hZ hown (y := (⟨"java/lang/String", "<init>", "([C)V"⟩ : MethodName)) (a := a65) rfl (hw _ (List.mem_of_getElem? (i := 4) rfl)) (hw _ (List.mem_of_getElem? (i := 5) rfl)) (hw _ (List.mem_of_getElem? (i := 3) rfl)) (hw _ (List.mem_of_getElem? (i := 6) rfl)) rfl (by decide) (own_met1_2 l Z a0 hw h65 n0 z70 a65 a17 _ (q1 &&& (255 : Int32)) ((XT.ushr q1 (8 : Int32)) &&& (255 : Int32)) cs O82 ge_a65 f85 f86 A65 f84 f83 f73 (Ne.symm q67) (own_m255 _) (own_m255 _) hcs SS ) (by decide) (W := 1) (by decide) e65 (by rw [hml]; rfl) own_pd_17 (argsL := [(.ref a17)]) rfl (S := [(.ref a65)]) rfl (Nat.le_of_eq rfl) (hb hby at_73) (pc' := 76) rfl (by decide) (by decide) (fun T87 v87 L87 X87 hQ87 => ?_)
  obtain ⟨t87, kt87, rfl, N87q, K87, ⟨Eq87, Cq87, Vq87, Bq87⟩, hr87, Xb87, Hf87, Hz87⟩ := hQ87
  have N88 := Fr.app N54 N87q
  have q89 : a1 ≠ t87 := Nat.ne_of_lt (Nat.lt_of_lt_of_le f71.lt hr87)
  have q90 : a17 ≠ t87 := Nat.ne_of_lt (Nat.lt_of_lt_of_le f73.lt hr87)
  have q91 : a40 ≠ t87 := Nat.ne_of_lt (Nat.lt_of_lt_of_le f75.lt hr87)
  have q92 : a65 ≠ t87 := Nat.ne_of_lt (Nat.lt_of_lt_of_le A65.lt hr87)
  have q93 : t53 ≠ t87 := Nat.ne_of_lt (Nat.lt_of_lt_of_le f76.lt hr87)
  have ge_t87 : n0 ≤ t87 := Nat.le_trans z70 hr87
  have f94 := f71.keep K87 (ninS q66 nin0)
  have f95 := f72.keep K87
  have f96 := f73.keep K87 (ninS q67 nin0)
  have f97 := f74.keep K87
  have f98 := f75.keep K87
  have f99 := f76.keep K87
  have f100 := f77.keep K87 (ninS q68 nin0)
  have f101 := f78.keep K87 (ninS q68 nin0)
  have f102 := f79.keep K87 (ninS q68 nin0)
  have f103 := f80.keep K87 (ninS q68 nin0)
  have f104 := f81.keep K87 (ninS q69 nin0)
  have f105 := A65.keep K87
  have z106 : n0 ≤ T87.heap.size := Nat.le_trans z70 K87.1
  have O107 := O82.keep K87 (allS ge_a65 all0)
  refine OwnK.astore X87 hx (hb hby at_76) (pc' := 78) rfl rfl (Ls' := #[.val (.int q0), .val (.int q1), .val (.int q2), .val (.int q3), .val (.ref a1), .val (.ref a17), .val (.ref a40), .val (.ref a65), .unset, .unset, .unset, .unset, .unset]) rfl ?_
  refine OwnK.iloadN X87 hx (hb hby at_78) (pc' := 79) rfl (v := q2) rfl ?_
  refine OwnK.sipush X87 hx (hb hby at_79) (pc' := 82) rfl (v := (255 : Int32)) (by decide) ?_
  refine OwnK.iand X87 hx (hb hby at_82) (pc' := 83) rfl ?_
  refine OwnK.i2c X87 hx (hb hby at_83) (pc' := 84) rfl ?_
  refine OwnK.callS_ X87 hx hZ hown (y := (⟨"java/lang/String", "valueOf", "(C)Ljava/lang/String;"⟩ : MethodName)) (hw _ (List.mem_of_getElem? (i := 30) rfl)) (hw _ (List.mem_of_getElem? (i := 31) rfl)) (hw _ (List.mem_of_getElem? (i := 3) rfl)) (hw _ (List.mem_of_getElem? (i := 32) rfl)) (by decide) (own_met7 l Z a0 hw T87.heap n0 z106 ((q2 &&& (255 : Int32)).toUInt32.toUInt16.toUInt32.toInt32) cs O107  (own_m255c _) hcs SS ) (by decide) (W := 0) (by decide) rfl (by rw [hml]; rfl) own_pd_3 (argsL := [(.int ((q2 &&& (255 : Int32)).toUInt32.toUInt16.toUInt32.toInt32))]) rfl (S := []) rfl (Nat.le_of_eq rfl) (hb hby at_84) (pc' := 87) rfl (by decide) (by decide) (fun T108 v108 L108 X108 hQ108 => ?_)
  obtain ⟨a108, t108, kt108, rfl, N108q, K108, hr108, ht108, ⟨Eq108, Cq108, Vq108, Bq108⟩, Xb108, Hf108, Hz108⟩ := hQ108
  have N109 := Fr.app N88 N108q
  have q110 : a1 ≠ a108 := Nat.ne_of_lt (Nat.lt_of_lt_of_le f94.lt hr108)
  have q111 : a17 ≠ a108 := Nat.ne_of_lt (Nat.lt_of_lt_of_le f96.lt hr108)
  have q112 : a40 ≠ a108 := Nat.ne_of_lt (Nat.lt_of_lt_of_le f98.lt hr108)
  have q113 : a65 ≠ a108 := Nat.ne_of_lt (Nat.lt_of_lt_of_le Eq87.lt hr108)
  have q114 : t53 ≠ a108 := Nat.ne_of_lt (Nat.lt_of_lt_of_le f99.lt hr108)
  have q115 : t87 ≠ a108 := Nat.ne_of_lt (Nat.lt_of_lt_of_le Xb87.lt hr108)
  have ge_a108 : n0 ≤ a108 := Nat.le_trans z106 hr108
  have q116 : a1 ≠ t108 := Nat.ne_of_lt (Nat.lt_of_lt_of_le f94.lt ht108)
  have q117 : a17 ≠ t108 := Nat.ne_of_lt (Nat.lt_of_lt_of_le f96.lt ht108)
  have q118 : a40 ≠ t108 := Nat.ne_of_lt (Nat.lt_of_lt_of_le f98.lt ht108)
  have q119 : a65 ≠ t108 := Nat.ne_of_lt (Nat.lt_of_lt_of_le Eq87.lt ht108)
  have q120 : t53 ≠ t108 := Nat.ne_of_lt (Nat.lt_of_lt_of_le f99.lt ht108)
  have q121 : t87 ≠ t108 := Nat.ne_of_lt (Nat.lt_of_lt_of_le Xb87.lt ht108)
  have ge_t108 : n0 ≤ t108 := Nat.le_trans z106 ht108
  have f122 := f94.keep K108 nin0
  have f123 := f95.keep K108
  have f124 := f96.keep K108 nin0
  have f125 := f97.keep K108
  have f126 := f98.keep K108
  have f127 := f99.keep K108
  have f128 := f100.keep K108 nin0
  have f129 := f101.keep K108 nin0
  have f130 := f102.keep K108 nin0
  have f131 := f103.keep K108 nin0
  have f132 := f104.keep K108 nin0
  have f133 := Eq87.keep K108
  have f134 := Xb87.keep K108
  have f135 := Hf87.keep K108 nin0
  have f136 := Hz87.keep K108 nin0
  have f137 := Cq87.keep K108 nin0
  have f138 := Vq87.keep K108 nin0
  have f139 := Bq87.keep K108 nin0
  have z140 : n0 ≤ T108.heap.size := Nat.le_trans z106 K108.1
  have O141 := O107.keep K108 all0
  refine OwnK.astore X108 hx (hb hby at_87) (pc' := 89) rfl rfl (Ls' := #[.val (.int q0), .val (.int q1), .val (.int q2), .val (.int q3), .val (.ref a1), .val (.ref a17), .val (.ref a40), .val (.ref a65), .val (.ref a108), .unset, .unset, .unset, .unset]) rfl ?_
  refine OwnK.iloadN X108 hx (hb hby at_89) (pc' := 90) rfl (v := q2) rfl ?_
  refine OwnK.bipush X108 hx (hb hby at_90) (pc' := 92) rfl (v := (8 : Int32)) (by decide) ?_
  refine OwnK.iushr X108 hx (hb hby at_92) (pc' := 93) rfl ?_
  refine OwnK.sipush X108 hx (hb hby at_93) (pc' := 96) rfl (v := (255 : Int32)) (by decide) ?_
  refine OwnK.iand X108 hx (hb hby at_96) (pc' := 97) rfl ?_
  refine OwnK.i2c X108 hx (hb hby at_97) (pc' := 98) rfl ?_
  refine OwnK.callS_ X108 hx hZ hown (y := (⟨"java/lang/String", "valueOf", "(C)Ljava/lang/String;"⟩ : MethodName)) (hw _ (List.mem_of_getElem? (i := 30) rfl)) (hw _ (List.mem_of_getElem? (i := 31) rfl)) (hw _ (List.mem_of_getElem? (i := 3) rfl)) (hw _ (List.mem_of_getElem? (i := 32) rfl)) (by decide) (own_met7 l Z a0 hw T108.heap n0 z140 (((XT.ushr q2 (8 : Int32)) &&& (255 : Int32)).toUInt32.toUInt16.toUInt32.toInt32) cs O141  (own_m255c _) hcs SS ) (by decide) (W := 0) (by decide) rfl (by rw [hml]; rfl) own_pd_3 (argsL := [(.int (((XT.ushr q2 (8 : Int32)) &&& (255 : Int32)).toUInt32.toUInt16.toUInt32.toInt32))]) rfl (S := []) rfl (Nat.le_of_eq rfl) (hb hby at_98) (pc' := 101) rfl (by decide) (by decide) (fun T142 v142 L142 X142 hQ142 => ?_)
  obtain ⟨a142, t142, kt142, rfl, N142q, K142, hr142, ht142, ⟨Eq142, Cq142, Vq142, Bq142⟩, Xb142, Hf142, Hz142⟩ := hQ142
  have N143 := Fr.app N109 N142q
  have q144 : a1 ≠ a142 := Nat.ne_of_lt (Nat.lt_of_lt_of_le f122.lt hr142)
  have q145 : a108 ≠ a142 := Nat.ne_of_lt (Nat.lt_of_lt_of_le Eq108.lt hr142)
  have q146 : a17 ≠ a142 := Nat.ne_of_lt (Nat.lt_of_lt_of_le f124.lt hr142)
  have q147 : a40 ≠ a142 := Nat.ne_of_lt (Nat.lt_of_lt_of_le f126.lt hr142)
  have q148 : a65 ≠ a142 := Nat.ne_of_lt (Nat.lt_of_lt_of_le f133.lt hr142)
  have q149 : t108 ≠ a142 := Nat.ne_of_lt (Nat.lt_of_lt_of_le Xb108.lt hr142)
  have q150 : t53 ≠ a142 := Nat.ne_of_lt (Nat.lt_of_lt_of_le f127.lt hr142)
  have q151 : t87 ≠ a142 := Nat.ne_of_lt (Nat.lt_of_lt_of_le f134.lt hr142)
  have ge_a142 : n0 ≤ a142 := Nat.le_trans z140 hr142
  have q152 : a1 ≠ t142 := Nat.ne_of_lt (Nat.lt_of_lt_of_le f122.lt ht142)
  have q153 : a108 ≠ t142 := Nat.ne_of_lt (Nat.lt_of_lt_of_le Eq108.lt ht142)
  have q154 : a17 ≠ t142 := Nat.ne_of_lt (Nat.lt_of_lt_of_le f124.lt ht142)
  have q155 : a40 ≠ t142 := Nat.ne_of_lt (Nat.lt_of_lt_of_le f126.lt ht142)
  have q156 : a65 ≠ t142 := Nat.ne_of_lt (Nat.lt_of_lt_of_le f133.lt ht142)
  have q157 : t108 ≠ t142 := Nat.ne_of_lt (Nat.lt_of_lt_of_le Xb108.lt ht142)
  have q158 : t53 ≠ t142 := Nat.ne_of_lt (Nat.lt_of_lt_of_le f127.lt ht142)
  have q159 : t87 ≠ t142 := Nat.ne_of_lt (Nat.lt_of_lt_of_le f134.lt ht142)
  have ge_t142 : n0 ≤ t142 := Nat.le_trans z140 ht142
  have f160 := f122.keep K142 nin0
  have f161 := f123.keep K142
  have f162 := f124.keep K142 nin0
  have f163 := f125.keep K142
  have f164 := f126.keep K142
  have f165 := f127.keep K142
  have f166 := f128.keep K142 nin0
  have f167 := f129.keep K142 nin0
  have f168 := f130.keep K142 nin0
  have f169 := f131.keep K142 nin0
  have f170 := f132.keep K142 nin0
  have f171 := f133.keep K142
  have f172 := f134.keep K142
  have f173 := f135.keep K142 nin0
  have f174 := f136.keep K142 nin0
  have f175 := f137.keep K142 nin0
  have f176 := f138.keep K142 nin0
  have f177 := f139.keep K142 nin0
  have f178 := Eq108.keep K142
  have f179 := Xb108.keep K142
  have f180 := Cq108.keep K142 nin0
  have f181 := Vq108.keep K142 nin0
  have f182 := Bq108.keep K142 nin0
  have f183 := Hf108.keep K142 nin0
  have f184 := Hz108.keep K142 nin0
  have z185 : n0 ≤ T142.heap.size := Nat.le_trans z140 K142.1
  have O186 := O141.keep K142 all0
  refine OwnK.astore X142 hx (hb hby at_101) (pc' := 103) rfl rfl (Ls' := #[.val (.int q0), .val (.int q1), .val (.int q2), .val (.int q3), .val (.ref a1), .val (.ref a17), .val (.ref a40), .val (.ref a65), .val (.ref a108), .val (.ref a142), .unset, .unset, .unset]) rfl ?_
  have lit0 : (0 : Int32).toInt = 0 := by decide
  obtain ⟨xA, exA⟩ : ∃ z : Int32, z = (((q2 &&& (255 : Int32)).toUInt32.toUInt16.toUInt32.toInt32).toInt8.toInt32) := ⟨_, rfl⟩
  obtain ⟨xB, exB⟩ : ∃ z : Int32, z = ((((XT.ushr q2 (8 : Int32)) &&& (255 : Int32)).toUInt32.toUInt16.toUInt32.toInt32).toInt8.toInt32) := ⟨_, rfl⟩
  obtain ⟨ya0, eya0⟩ : ∃ z : Int32, z = ((q0 &&& (255 : Int32)).toInt8.toInt32) := ⟨_, rfl⟩
  obtain ⟨ya1, eya1⟩ : ∃ z : Int32, z = (((XT.ushr q0 (8 : Int32)) &&& (255 : Int32)).toInt8.toInt32) := ⟨_, rfl⟩
  obtain ⟨yb0, eyb0⟩ : ∃ z : Int32, z = ((q1 &&& (255 : Int32)).toInt8.toInt32) := ⟨_, rfl⟩
  obtain ⟨yb1, eyb1⟩ : ∃ z : Int32, z = (((XT.ushr q1 (8 : Int32)) &&& (255 : Int32)).toInt8.toInt32) := ⟨_, rfl⟩
  have U0 : own_U Z T142.heap.size T142.heap a108 a142 a40 a65 xA xB ya0 ya1 yb0 yb1 := by
    rw [exA, exB, eya0, eya1, eyb0, eyb1]
    exact ⟨⟨f178.lt, t108, _, f182.lt, ⟨f178, f180, f181, own_pad1 f182 rfl⟩, f179, 0, 0, f183, f184, fun h => absurd lit0 h, fun _ h => absurd lit0 h⟩, ⟨Eq142.lt, t142, _, Bq142.lt, ⟨Eq142, Cq142, Vq142, own_pad1 Bq142 rfl⟩, Xb142, 0, 0, Hf142, Hz142, fun h => absurd lit0 h, fun _ h => absurd lit0 h⟩, ⟨f164.lt, t53, _, f170.lt, ⟨f164, f168, f169, f170⟩, f165, 0, 0, f166, f167, fun h => absurd lit0 h, fun _ h => absurd lit0 h⟩, ⟨f171.lt, t87, _, f177.lt, ⟨f171, f175, f176, f177⟩, f172, 0, 0, f173, f174, fun h => absurd lit0 h, fun _ h => absurd lit0 h⟩, q145, (Ne.symm q112), (Ne.symm q113), (Ne.symm q147), (Ne.symm q148), q68⟩
  refine OwnK.iconst X142 hx (hb hby at_103) (pc' := 104) rfl (v := (4 : Int32)) (by decide) ?_
  refine OwnK.newR_ X142 hx hZ hown (hw _ (List.mem_of_getElem? (i := 1) rfl)) (hw _ (List.mem_of_getElem? (i := 44) rfl)) rfl (hb hby at_104) (pc' := 107) rfl (n := (4 : Int32)) (by decide) (cap := 4) (by decide) (by decide) (by decide) (by decide) (ad := "[Ljava/lang/String;") (by decide) (fun T187 h187 a187 k187 X187 e187 g187 E187 V187 Q187 O187 => ?_)
  have q188 : a108 ≠ a187 := Nat.ne_of_lt (Nat.lt_of_lt_of_le f178.lt (Nat.le_of_eq g187.symm))
  have q189 : a142 ≠ a187 := Nat.ne_of_lt (Nat.lt_of_lt_of_le Eq142.lt (Nat.le_of_eq g187.symm))
  have q190 : a40 ≠ a187 := Nat.ne_of_lt (Nat.lt_of_lt_of_le f164.lt (Nat.le_of_eq g187.symm))
  have q191 : a65 ≠ a187 := Nat.ne_of_lt (Nat.lt_of_lt_of_le f171.lt (Nat.le_of_eq g187.symm))
  have ge_a187 : n0 ≤ a187 := Nat.le_trans z185 (Nat.le_of_eq g187.symm)
  have nSa187 : T142.heap.size ≤ a187 := Nat.le_trans (Nat.le_refl _) (Nat.le_of_eq g187.symm)
  have z192 : n0 ≤ h187.size := Nat.le_trans z185 E187.1
  have f193 := f164.ext E187
  have f194 := f171.ext E187
  have f195 := f178.ext E187
  have f196 := Eq142.ext E187
  have O197 := O186.ext E187
  have Ug187 := own_Uk U0 ((Keep.refl _ []).ext E187) all0
  have f198 : Arv Z h187 a187 k187 (.object "java/lang/String") (4 : Int32) [.null, .null, .null, .null] .null := V187.pad (pad_rep [] .null 4)
  refine OwnK.astore X187 hx (hb hby at_107) (pc' := 109) rfl rfl (Ls' := #[.val (.int q0), .val (.int q1), .val (.int q2), .val (.int q3), .val (.ref a1), .val (.ref a17), .val (.ref a40), .val (.ref a65), .val (.ref a108), .val (.ref a142), .val (.ref a187), .unset, .unset]) rfl ?_
  refine OwnK.iconst X187 hx (hb hby at_109) (pc' := 110) rfl (v := (4 : Int32)) (by decide) ?_
  refine OwnK.newR_ X187 hx hZ hown (hw _ (List.mem_of_getElem? (i := 1) rfl)) (hw _ (List.mem_of_getElem? (i := 44) rfl)) e187 (hb hby at_110) (pc' := 113) rfl (n := (4 : Int32)) (by decide) (cap := 4) (by decide) (by decide) (by decide) (by decide) (ad := "[Ljava/lang/String;") (by decide) (fun T199 h199 a199 k199 X199 e199 g199 E199 V199 Q199 O199 => ?_)
  have q200 : a108 ≠ a199 := Nat.ne_of_lt (Nat.lt_of_lt_of_le f195.lt (Nat.le_of_eq g199.symm))
  have q201 : a142 ≠ a199 := Nat.ne_of_lt (Nat.lt_of_lt_of_le f196.lt (Nat.le_of_eq g199.symm))
  have q202 : a187 ≠ a199 := Nat.ne_of_lt (Nat.lt_of_lt_of_le f198.lt (Nat.le_of_eq g199.symm))
  have q203 : a40 ≠ a199 := Nat.ne_of_lt (Nat.lt_of_lt_of_le f193.lt (Nat.le_of_eq g199.symm))
  have q204 : a65 ≠ a199 := Nat.ne_of_lt (Nat.lt_of_lt_of_le f194.lt (Nat.le_of_eq g199.symm))
  have ge_a199 : n0 ≤ a199 := Nat.le_trans z192 (Nat.le_of_eq g199.symm)
  have nSa199 : T142.heap.size ≤ a199 := Nat.le_trans (Nat.le_trans (Nat.le_refl _) E187.1) (Nat.le_of_eq g199.symm)
  have z205 : n0 ≤ h199.size := Nat.le_trans z192 E199.1
  have f206 := f193.ext E199
  have f207 := f194.ext E199
  have f208 := f195.ext E199
  have f209 := f196.ext E199
  have f210 := f198.ext E199
  have f211 := Q187.ext E199
  have O212 := O197.ext E199
  have Ug199 := own_Uk Ug187 ((Keep.refl _ []).ext E199) all0
  have f213 : Arv Z h199 a199 k199 (.object "java/lang/String") (4 : Int32) [.null, .null, .null, .null] .null := V199.pad (pad_rep [] .null 4)
  refine OwnK.astore X199 hx (hb hby at_113) (pc' := 115) rfl rfl (Ls' := #[.val (.int q0), .val (.int q1), .val (.int q2), .val (.int q3), .val (.ref a1), .val (.ref a17), .val (.ref a40), .val (.ref a65), .val (.ref a108), .val (.ref a142), .val (.ref a187), .val (.ref a199), .unset]) rfl ?_
  refine OwnK.aload X199 hx (hb hby at_115) (pc' := 117) rfl (v := (.ref a187)) rfl rfl ?_
  refine OwnK.iconst X199 hx (hb hby at_117) (pc' := 118) rfl (v := (0 : Int32)) (by decide) ?_
  have J214 : ∀ g0 : Addr, g0 = a108 ∨ g0 = a142 → OwnK.Go p.tables e below (OwnK.PQ s (fun (v : Option Value) (_ : Heap) (L : List Loc) => v = some (.int (1 : Int32)) ∧ Fr n0 L) 21 82) T199 (mkF m 131 #[.val (.int q0), .val (.int q1), .val (.int q2), .val (.int q3), .val (.ref a1), .val (.ref a17), .val (.ref a40), .val (.ref a65), .val (.ref a108), .val (.ref a142), .val (.ref a187), .val (.ref a199), .unset] [(.ref g0), (.int (0 : Int32)), (.ref a187)]) := by
    intro g0 mg0
    have Eg0 := own_pk (P := fun z => Exa Z h199 z "java/lang/String") mg0 f208 f209
    have ge_g0 := own_pk (P := fun z => n0 ≤ z) mg0 ge_a108 ge_a142
    refine OwnK.aastore X199 hx hZ e199 f210 rfl rfl (OwnK.stoOf f210 O187 (Ins.self Eg0)) (i := 0) (by decide) (by first | decide | omega) (Nat.le_of_ble_eq_true rfl) (hb hby at_131) (pc' := 132) rfl (fun T215 h215 X215 e215 W215 V215 => ?_)
    have f216 := f206.wr W215
    have f217 := f207.wr W215
    have f218 := f208.wr W215
    have f219 := f209.wr W215
    have f220 := f211.wr W215
    have f221 := f213.other W215 (Ne.symm q202)
    have f222 := Q199.wr W215
    have f223 := Eg0.wr W215
    have f224 : Arv Z h215 a187 _ (.object "java/lang/String") (4 : Int32) [(.ref g0), .null, .null, .null] .null := V215
    have N225 := Fr.snoc X215 N143 ge_a187
    have O226 := O212.wr W215 ge_a187
    have z227 : n0 ≤ h215.size := Nat.le_trans z205 (Keep.of_wr W215).1
    have Ug215 := own_Uk Ug199 (Keep.of_wr W215) (allS nSa187 all0)
    refine OwnK.aload X215 hx (hb hby at_132) (pc' := 134) rfl (v := (.ref a199)) rfl rfl ?_
    refine OwnK.iconst X215 hx (hb hby at_134) (pc' := 135) rfl (v := (0 : Int32)) (by decide) ?_
    have J228 : ∀ k0 : Addr, k0 = a40 ∨ k0 = a65 → OwnK.Go p.tables e below (OwnK.PQ s (fun (v : Option Value) (_ : Heap) (L : List Loc) => v = some (.int (1 : Int32)) ∧ Fr n0 L) 21 82) T215 (mkF m 148 #[.val (.int q0), .val (.int q1), .val (.int q2), .val (.int q3), .val (.ref a1), .val (.ref a17), .val (.ref a40), .val (.ref a65), .val (.ref a108), .val (.ref a142), .val (.ref a187), .val (.ref a199), .unset] [(.ref k0), (.int (0 : Int32)), (.ref a199)]) := by
      intro k0 mk0
      have Ek0 := own_pk (P := fun z => Exa Z h215 z "java/lang/String") mk0 f216 f217
      have ge_k0 := own_pk (P := fun z => n0 ≤ z) mk0 ge_a40 ge_a65
      refine OwnK.aastore X215 hx hZ e215 f221 rfl rfl (OwnK.stoOf f221 O199 (Ins.self Ek0)) (i := 0) (by decide) (by first | decide | omega) (Nat.le_of_ble_eq_true rfl) (hb hby at_148) (pc' := 149) rfl (fun T229 h229 X229 e229 W229 V229 => ?_)
      have f230 := f216.wr W229
      have f231 := f217.wr W229
      have f232 := f218.wr W229
      have f233 := f219.wr W229
      have f234 := f224.other W229 q202
      have f235 := f220.wr W229
      have f236 := f222.wr W229
      have f237 := f223.wr W229
      have f238 := Ek0.wr W229
      have f239 : Arv Z h229 a199 _ (.object "java/lang/String") (4 : Int32) [(.ref k0), .null, .null, .null] .null := V229
      have N240 := Fr.snoc X229 N225 ge_a199
      have O241 := O226.wr W229 ge_a199
      have z242 : n0 ≤ h229.size := Nat.le_trans z227 (Keep.of_wr W229).1
      have Ug229 := own_Uk Ug215 (Keep.of_wr W229) (allS nSa199 all0)
      refine OwnK.aload X229 hx (hb hby at_149) (pc' := 151) rfl (v := (.ref a187)) rfl rfl ?_
      refine OwnK.iconst X229 hx (hb hby at_151) (pc' := 152) rfl (v := (1 : Int32)) (by decide) ?_
      have J243 : ∀ g1 : Addr, g1 = a108 ∨ g1 = a142 → OwnK.Go p.tables e below (OwnK.PQ s (fun (v : Option Value) (_ : Heap) (L : List Loc) => v = some (.int (1 : Int32)) ∧ Fr n0 L) 21 82) T229 (mkF m 165 #[.val (.int q0), .val (.int q1), .val (.int q2), .val (.int q3), .val (.ref a1), .val (.ref a17), .val (.ref a40), .val (.ref a65), .val (.ref a108), .val (.ref a142), .val (.ref a187), .val (.ref a199), .unset] [(.ref g1), (.int (1 : Int32)), (.ref a187)]) := by
        intro g1 mg1
        have Eg1 := own_pk (P := fun z => Exa Z h229 z "java/lang/String") mg1 f232 f233
        have ge_g1 := own_pk (P := fun z => n0 ≤ z) mg1 ge_a108 ge_a142
        refine OwnK.aastore X229 hx hZ e229 f234 rfl rfl (OwnK.stoOf f234 O187 (Ins.self Eg1)) (i := 1) (by decide) (by first | decide | omega) (Nat.le_of_ble_eq_true rfl) (hb hby at_165) (pc' := 166) rfl (fun T244 h244 X244 e244 W244 V244 => ?_)
        have f245 := f230.wr W244
        have f246 := f231.wr W244
        have f247 := f232.wr W244
        have f248 := f233.wr W244
        have f249 := f235.wr W244
        have f250 := f239.other W244 (Ne.symm q202)
        have f251 := f236.wr W244
        have f252 := f237.wr W244
        have f253 := f238.wr W244
        have f254 := Eg1.wr W244
        have f255 : Arv Z h244 a187 _ (.object "java/lang/String") (4 : Int32) [(.ref g0), (.ref g1), .null, .null] .null := V244
        have N256 := Fr.snoc X244 N240 ge_a187
        have O257 := O241.wr W244 ge_a187
        have z258 : n0 ≤ h244.size := Nat.le_trans z242 (Keep.of_wr W244).1
        have Ug244 := own_Uk Ug229 (Keep.of_wr W244) (allS nSa187 all0)
        refine OwnK.aload X244 hx (hb hby at_166) (pc' := 168) rfl (v := (.ref a199)) rfl rfl ?_
        refine OwnK.iconst X244 hx (hb hby at_168) (pc' := 169) rfl (v := (1 : Int32)) (by decide) ?_
        have J259 : ∀ k1 : Addr, k1 = a40 ∨ k1 = a65 → OwnK.Go p.tables e below (OwnK.PQ s (fun (v : Option Value) (_ : Heap) (L : List Loc) => v = some (.int (1 : Int32)) ∧ Fr n0 L) 21 82) T244 (mkF m 183 #[.val (.int q0), .val (.int q1), .val (.int q2), .val (.int q3), .val (.ref a1), .val (.ref a17), .val (.ref a40), .val (.ref a65), .val (.ref a108), .val (.ref a142), .val (.ref a187), .val (.ref a199), .unset] [(.ref k1), (.int (1 : Int32)), (.ref a199)]) := by
          intro k1 mk1
          have Ek1 := own_pk (P := fun z => Exa Z h244 z "java/lang/String") mk1 f245 f246
          have ge_k1 := own_pk (P := fun z => n0 ≤ z) mk1 ge_a40 ge_a65
          refine OwnK.aastore X244 hx hZ e244 f250 rfl rfl (OwnK.stoOf f250 O199 (Ins.self Ek1)) (i := 1) (by decide) (by first | decide | omega) (Nat.le_of_ble_eq_true rfl) (hb hby at_183) (pc' := 184) rfl (fun T260 h260 X260 e260 W260 V260 => ?_)
          have f261 := f245.wr W260
          have f262 := f246.wr W260
          have f263 := f247.wr W260
          have f264 := f248.wr W260
          have f265 := f255.other W260 q202
          have f266 := f249.wr W260
          have f267 := f251.wr W260
          have f268 := f252.wr W260
          have f269 := f253.wr W260
          have f270 := f254.wr W260
          have f271 := Ek1.wr W260
          have f272 : Arv Z h260 a199 _ (.object "java/lang/String") (4 : Int32) [(.ref k0), (.ref k1), .null, .null] .null := V260
          have N273 := Fr.snoc X260 N256 ge_a199
          have O274 := O257.wr W260 ge_a199
          have z275 : n0 ≤ h260.size := Nat.le_trans z258 (Keep.of_wr W260).1
          have Ug260 := own_Uk Ug244 (Keep.of_wr W260) (allS nSa199 all0)
          refine OwnK.aload X260 hx (hb hby at_184) (pc' := 186) rfl (v := (.ref a187)) rfl rfl ?_
          refine OwnK.iconst X260 hx (hb hby at_186) (pc' := 187) rfl (v := (2 : Int32)) (by decide) ?_
          have J276 : ∀ g2 : Addr, g2 = a108 ∨ g2 = a142 → OwnK.Go p.tables e below (OwnK.PQ s (fun (v : Option Value) (_ : Heap) (L : List Loc) => v = some (.int (1 : Int32)) ∧ Fr n0 L) 21 82) T260 (mkF m 201 #[.val (.int q0), .val (.int q1), .val (.int q2), .val (.int q3), .val (.ref a1), .val (.ref a17), .val (.ref a40), .val (.ref a65), .val (.ref a108), .val (.ref a142), .val (.ref a187), .val (.ref a199), .unset] [(.ref g2), (.int (2 : Int32)), (.ref a187)]) := by
            intro g2 mg2
            have Eg2 := own_pk (P := fun z => Exa Z h260 z "java/lang/String") mg2 f263 f264
            have ge_g2 := own_pk (P := fun z => n0 ≤ z) mg2 ge_a108 ge_a142
            refine OwnK.aastore X260 hx hZ e260 f265 rfl rfl (OwnK.stoOf f265 O187 (Ins.self Eg2)) (i := 2) (by decide) (by first | decide | omega) (Nat.le_of_ble_eq_true rfl) (hb hby at_201) (pc' := 202) rfl (fun T277 h277 X277 e277 W277 V277 => ?_)
            have f278 := f261.wr W277
            have f279 := f262.wr W277
            have f280 := f263.wr W277
            have f281 := f264.wr W277
            have f282 := f266.wr W277
            have f283 := f272.other W277 (Ne.symm q202)
            have f284 := f267.wr W277
            have f285 := f268.wr W277
            have f286 := f269.wr W277
            have f287 := f270.wr W277
            have f288 := f271.wr W277
            have f289 := Eg2.wr W277
            have f290 : Arv Z h277 a187 _ (.object "java/lang/String") (4 : Int32) [(.ref g0), (.ref g1), (.ref g2), .null] .null := V277
            have N291 := Fr.snoc X277 N273 ge_a187
            have O292 := O274.wr W277 ge_a187
            have z293 : n0 ≤ h277.size := Nat.le_trans z275 (Keep.of_wr W277).1
            have Ug277 := own_Uk Ug260 (Keep.of_wr W277) (allS nSa187 all0)
            refine OwnK.aload X277 hx (hb hby at_202) (pc' := 204) rfl (v := (.ref a199)) rfl rfl ?_
            refine OwnK.iconst X277 hx (hb hby at_204) (pc' := 205) rfl (v := (2 : Int32)) (by decide) ?_
            have J294 : ∀ k2 : Addr, k2 = a40 ∨ k2 = a65 → OwnK.Go p.tables e below (OwnK.PQ s (fun (v : Option Value) (_ : Heap) (L : List Loc) => v = some (.int (1 : Int32)) ∧ Fr n0 L) 21 82) T277 (mkF m 219 #[.val (.int q0), .val (.int q1), .val (.int q2), .val (.int q3), .val (.ref a1), .val (.ref a17), .val (.ref a40), .val (.ref a65), .val (.ref a108), .val (.ref a142), .val (.ref a187), .val (.ref a199), .unset] [(.ref k2), (.int (2 : Int32)), (.ref a199)]) := by
              intro k2 mk2
              have Ek2 := own_pk (P := fun z => Exa Z h277 z "java/lang/String") mk2 f278 f279
              have ge_k2 := own_pk (P := fun z => n0 ≤ z) mk2 ge_a40 ge_a65
              refine OwnK.aastore X277 hx hZ e277 f283 rfl rfl (OwnK.stoOf f283 O199 (Ins.self Ek2)) (i := 2) (by decide) (by first | decide | omega) (Nat.le_of_ble_eq_true rfl) (hb hby at_219) (pc' := 220) rfl (fun T295 h295 X295 e295 W295 V295 => ?_)
              have f296 := f278.wr W295
              have f297 := f279.wr W295
              have f298 := f280.wr W295
              have f299 := f281.wr W295
              have f300 := f290.other W295 q202
              have f301 := f282.wr W295
              have f302 := f284.wr W295
              have f303 := f285.wr W295
              have f304 := f286.wr W295
              have f305 := f287.wr W295
              have f306 := f288.wr W295
              have f307 := f289.wr W295
              have f308 := Ek2.wr W295
              have f309 : Arv Z h295 a199 _ (.object "java/lang/String") (4 : Int32) [(.ref k0), (.ref k1), (.ref k2), .null] .null := V295
              have N310 := Fr.snoc X295 N291 ge_a199
              have O311 := O292.wr W295 ge_a199
              have z312 : n0 ≤ h295.size := Nat.le_trans z293 (Keep.of_wr W295).1
              have Ug295 := own_Uk Ug277 (Keep.of_wr W295) (allS nSa199 all0)
              refine OwnK.aload X295 hx (hb hby at_220) (pc' := 222) rfl (v := (.ref a187)) rfl rfl ?_
              refine OwnK.iconst X295 hx (hb hby at_222) (pc' := 223) rfl (v := (3 : Int32)) (by decide) ?_
              have J313 : ∀ g3 : Addr, g3 = a108 ∨ g3 = a142 → OwnK.Go p.tables e below (OwnK.PQ s (fun (v : Option Value) (_ : Heap) (L : List Loc) => v = some (.int (1 : Int32)) ∧ Fr n0 L) 21 82) T295 (mkF m 237 #[.val (.int q0), .val (.int q1), .val (.int q2), .val (.int q3), .val (.ref a1), .val (.ref a17), .val (.ref a40), .val (.ref a65), .val (.ref a108), .val (.ref a142), .val (.ref a187), .val (.ref a199), .unset] [(.ref g3), (.int (3 : Int32)), (.ref a187)]) := by
                intro g3 mg3
                have Eg3 := own_pk (P := fun z => Exa Z h295 z "java/lang/String") mg3 f298 f299
                have ge_g3 := own_pk (P := fun z => n0 ≤ z) mg3 ge_a108 ge_a142
                refine OwnK.aastore X295 hx hZ e295 f300 rfl rfl (OwnK.stoOf f300 O187 (Ins.self Eg3)) (i := 3) (by decide) (by first | decide | omega) (Nat.le_of_ble_eq_true rfl) (hb hby at_237) (pc' := 238) rfl (fun T314 h314 X314 e314 W314 V314 => ?_)
                have f315 := f296.wr W314
                have f316 := f297.wr W314
                have f317 := f298.wr W314
                have f318 := f299.wr W314
                have f319 := f301.wr W314
                have f320 := f309.other W314 (Ne.symm q202)
                have f321 := f302.wr W314
                have f322 := f303.wr W314
                have f323 := f304.wr W314
                have f324 := f305.wr W314
                have f325 := f306.wr W314
                have f326 := f307.wr W314
                have f327 := f308.wr W314
                have f328 := Eg3.wr W314
                have f329 : Arv Z h314 a187 _ (.object "java/lang/String") (4 : Int32) [(.ref g0), (.ref g1), (.ref g2), (.ref g3)] .null := V314
                have N330 := Fr.snoc X314 N310 ge_a187
                have O331 := O311.wr W314 ge_a187
                have z332 : n0 ≤ h314.size := Nat.le_trans z312 (Keep.of_wr W314).1
                have Ug314 := own_Uk Ug295 (Keep.of_wr W314) (allS nSa187 all0)
                refine OwnK.aload X314 hx (hb hby at_238) (pc' := 240) rfl (v := (.ref a199)) rfl rfl ?_
                refine OwnK.iconst X314 hx (hb hby at_240) (pc' := 241) rfl (v := (3 : Int32)) (by decide) ?_
                have J333 : ∀ k3 : Addr, k3 = a40 ∨ k3 = a65 → OwnK.Go p.tables e below (OwnK.PQ s (fun (v : Option Value) (_ : Heap) (L : List Loc) => v = some (.int (1 : Int32)) ∧ Fr n0 L) 21 82) T314 (mkF m 256 #[.val (.int q0), .val (.int q1), .val (.int q2), .val (.int q3), .val (.ref a1), .val (.ref a17), .val (.ref a40), .val (.ref a65), .val (.ref a108), .val (.ref a142), .val (.ref a187), .val (.ref a199), .unset] [(.ref k3), (.int (3 : Int32)), (.ref a199)]) := by
                  intro k3 mk3
                  have Ek3 := own_pk (P := fun z => Exa Z h314 z "java/lang/String") mk3 f315 f316
                  have ge_k3 := own_pk (P := fun z => n0 ≤ z) mk3 ge_a40 ge_a65
                  refine OwnK.aastore X314 hx hZ e314 f320 rfl rfl (OwnK.stoOf f320 O199 (Ins.self Ek3)) (i := 3) (by decide) (by first | decide | omega) (Nat.le_of_ble_eq_true rfl) (hb hby at_256) (pc' := 257) rfl (fun T334 h334 X334 e334 W334 V334 => ?_)
                  have f335 := f315.wr W334
                  have f336 := f316.wr W334
                  have f337 := f317.wr W334
                  have f338 := f318.wr W334
                  have f339 := f329.other W334 q202
                  have f340 := f319.wr W334
                  have f341 := f321.wr W334
                  have f342 := f322.wr W334
                  have f343 := f323.wr W334
                  have f344 := f324.wr W334
                  have f345 := f325.wr W334
                  have f346 := f326.wr W334
                  have f347 := f327.wr W334
                  have f348 := f328.wr W334
                  have f349 := Ek3.wr W334
                  have f350 : Arv Z h334 a199 _ (.object "java/lang/String") (4 : Int32) [(.ref k0), (.ref k1), (.ref k2), (.ref k3)] .null := V334
                  have N351 := Fr.snoc X334 N330 ge_a199
                  have O352 := O331.wr W334 ge_a199
                  have z353 : n0 ≤ h334.size := Nat.le_trans z332 (Keep.of_wr W334).1
                  have Ug334 := own_Uk Ug314 (Keep.of_wr W334) (allS nSa199 all0)
                  have lgs := f339.lt
                  have lks := f350.lt
                  have hSX : T142.heap.size ≤ h334.size := (Nat.le_trans (Nat.le_trans (Nat.le_trans (Nat.le_trans (Nat.le_trans (Nat.le_trans (Nat.le_trans (Nat.le_trans (Nat.le_trans (Nat.le_trans (Nat.le_refl _) E187.1) E199.1) (Keep.of_wr W215).1) (Keep.of_wr W229).1) (Keep.of_wr W244).1) (Keep.of_wr W260).1) (Keep.of_wr W277).1) (Keep.of_wr W295).1) (Keep.of_wr W314).1) (Keep.of_wr W334).1)
                  have hnX : n0 ≤ h334.size := z353
                  have CH : own_chk (own_home (own_H1 (own_x a108 xA xB g0)) (own_H2 (own_x a40 ya0 yb0 k0) (own_x a40 ya1 yb1 k0))) (own_home (own_H1 (own_x a108 xA xB g1)) (own_H2 (own_x a40 ya0 yb0 k1) (own_x a40 ya1 yb1 k1))) (own_home (own_H1 (own_x a108 xA xB g2)) (own_H2 (own_x a40 ya0 yb0 k2) (own_x a40 ya1 yb1 k2))) (own_home (own_H1 (own_x a108 xA xB g3)) (own_H2 (own_x a40 ya0 yb0 k3) (own_x a40 ya1 yb1 k3))) (own_same1 (own_x a108 xA xB g0) (own_x a108 xA xB g1) (own_x a40 ya0 yb0 k0) (own_x a40 ya0 yb0 k1) (own_x a40 ya1 yb1 k0) (own_x a40 ya1 yb1 k1)) (own_same1 (own_x a108 xA xB g0) (own_x a108 xA xB g2) (own_x a40 ya0 yb0 k0) (own_x a40 ya0 yb0 k2) (own_x a40 ya1 yb1 k0) (own_x a40 ya1 yb1 k2)) (own_same1 (own_x a108 xA xB g0) (own_x a108 xA xB g3) (own_x a40 ya0 yb0 k0) (own_x a40 ya0 yb0 k3) (own_x a40 ya1 yb1 k0) (own_x a40 ya1 yb1 k3)) (own_same1 (own_x a108 xA xB g1) (own_x a108 xA xB g2) (own_x a40 ya0 yb0 k1) (own_x a40 ya0 yb0 k2) (own_x a40 ya1 yb1 k1) (own_x a40 ya1 yb1 k2)) (own_same1 (own_x a108 xA xB g1) (own_x a108 xA xB g3) (own_x a40 ya0 yb0 k1) (own_x a40 ya0 yb0 k3) (own_x a40 ya1 yb1 k1) (own_x a40 ya1 yb1 k3)) (own_same1 (own_x a108 xA xB g2) (own_x a108 xA xB g3) (own_x a40 ya0 yb0 k2) (own_x a40 ya0 yb0 k3) (own_x a40 ya1 yb1 k2) (own_x a40 ya1 yb1 k3)) = true := own_all (own_homeb _ _).2 (own_homeb _ _).2 (own_homeb _ _).2 (own_homeb _ _).2 (own_eqvT _ _ _ _ _ _ _ _ _ _ _ _) own_hmE own_hmE own_hmE own_hmE own_hmE own_hmE
                  simp only [own_chk, Bool.and_eq_true, decide_eq_true_eq] at CH
                  obtain ⟨⟨⟨⟨o0, o1⟩, o2⟩, o3⟩, kr⟩ := CH
                  refine OwnK.new_ X334 hx hZ hown (hw _ (List.mem_of_getElem? (i := 45) rfl)) (hw _ (List.mem_of_getElem? (i := 46) rfl)) (hw _ (List.mem_of_getElem? (i := 47) rfl)) e334 (hb hby at_257) (pc' := 260) rfl (by decide) (by decide) (fun T354 h354 a354 X354 e354 g354 E354 A354 D354 => ?_)
                  have q355 : a108 ≠ a354 := Nat.ne_of_lt (Nat.lt_of_lt_of_le f337.lt (Nat.le_of_eq g354.symm))
                  have q356 : a142 ≠ a354 := Nat.ne_of_lt (Nat.lt_of_lt_of_le f338.lt (Nat.le_of_eq g354.symm))
                  have q357 : a187 ≠ a354 := Nat.ne_of_lt (Nat.lt_of_lt_of_le f339.lt (Nat.le_of_eq g354.symm))
                  have q358 : a199 ≠ a354 := Nat.ne_of_lt (Nat.lt_of_lt_of_le f350.lt (Nat.le_of_eq g354.symm))
                  have q359 : a40 ≠ a354 := Nat.ne_of_lt (Nat.lt_of_lt_of_le f335.lt (Nat.le_of_eq g354.symm))
                  have q360 : a65 ≠ a354 := Nat.ne_of_lt (Nat.lt_of_lt_of_le f336.lt (Nat.le_of_eq g354.symm))
                  have q361 : g0 ≠ a354 := Nat.ne_of_lt (Nat.lt_of_lt_of_le f342.lt (Nat.le_of_eq g354.symm))
                  have q362 : g1 ≠ a354 := Nat.ne_of_lt (Nat.lt_of_lt_of_le f344.lt (Nat.le_of_eq g354.symm))
                  have q363 : g2 ≠ a354 := Nat.ne_of_lt (Nat.lt_of_lt_of_le f346.lt (Nat.le_of_eq g354.symm))
                  have q364 : g3 ≠ a354 := Nat.ne_of_lt (Nat.lt_of_lt_of_le f348.lt (Nat.le_of_eq g354.symm))
                  have q365 : k0 ≠ a354 := Nat.ne_of_lt (Nat.lt_of_lt_of_le f343.lt (Nat.le_of_eq g354.symm))
                  have q366 : k1 ≠ a354 := Nat.ne_of_lt (Nat.lt_of_lt_of_le f345.lt (Nat.le_of_eq g354.symm))
                  have q367 : k2 ≠ a354 := Nat.ne_of_lt (Nat.lt_of_lt_of_le f347.lt (Nat.le_of_eq g354.symm))
                  have q368 : k3 ≠ a354 := Nat.ne_of_lt (Nat.lt_of_lt_of_le f349.lt (Nat.le_of_eq g354.symm))
                  have ge_a354 : n0 ≤ a354 := Nat.le_trans z353 (Nat.le_of_eq g354.symm)
                  have nSa354 : T142.heap.size ≤ a354 := Nat.le_trans (Nat.le_trans (Nat.le_trans (Nat.le_trans (Nat.le_trans (Nat.le_trans (Nat.le_trans (Nat.le_trans (Nat.le_trans (Nat.le_trans (Nat.le_trans (Nat.le_refl _) E187.1) E199.1) (Keep.of_wr W215).1) (Keep.of_wr W229).1) (Keep.of_wr W244).1) (Keep.of_wr W260).1) (Keep.of_wr W277).1) (Keep.of_wr W295).1) (Keep.of_wr W314).1) (Keep.of_wr W334).1) (Nat.le_of_eq g354.symm)
                  have z369 : n0 ≤ h354.size := Nat.le_trans z353 E354.1
                  have f370 := f335.ext E354
                  have f371 := f336.ext E354
                  have f372 := f337.ext E354
                  have f373 := f338.ext E354
                  have f374 := f339.ext E354
                  have f375 := f340.ext E354
                  have f376 := f350.ext E354
                  have f377 := f341.ext E354
                  have f378 := f342.ext E354
                  have f379 := f343.ext E354
                  have f380 := f344.ext E354
                  have f381 := f345.ext E354
                  have f382 := f346.ext E354
                  have f383 := f347.ext E354
                  have f384 := f348.ext E354
                  have f385 := f349.ext E354
                  have O386 := O352.ext E354
                  have Ug354 := own_Uk Ug334 ((Keep.refl _ []).ext E354) all0
                  have f387 : Fld Z h354 a354 "com/example/entryway/entryway/KeyIndex" "overflow" "Ljava/util/Map;" .null := D354 (Or.inr (hw _ (List.mem_of_getElem? (i := 72) rfl))) (ty := (.object "java/util/Map")) (by decide)
                  have f388 : Fld Z h354 a354 "com/example/entryway/entryway/KeyIndex" "groups" "[Ljava/lang/String;" .null := D354 (Or.inr (hw _ (List.mem_of_getElem? (i := 75) rfl))) (ty := (.array (.object "java/lang/String"))) (by decide)
                  have f389 : Fld Z h354 a354 "com/example/entryway/entryway/KeyIndex" "keys" "[Ljava/lang/String;" .null := D354 (Or.inr (hw _ (List.mem_of_getElem? (i := 77) rfl))) (ty := (.array (.object "java/lang/String"))) (by decide)
                  have f390 : Fld Z h354 a354 "com/example/entryway/entryway/KeyIndex" "slots" "[I" .null := D354 (Or.inr (hw _ (List.mem_of_getElem? (i := 80) rfl))) (ty := (.array .int)) (by decide)
                  have f391 : Fld Z h354 a354 "com/example/entryway/entryway/KeyIndex" "mask" "I" (.int (0 : Int32)) := D354 (Or.inr (hw _ (List.mem_of_getElem? (i := 82) rfl))) (ty := .int) (by decide)
                  have f392 : Fld Z h354 a354 "com/example/entryway/entryway/KeyIndex" "count" "I" (.int (0 : Int32)) := D354 (Or.inl (hw _ (List.mem_of_getElem? (i := 89) rfl))) (ty := .int) (by decide)
                  have f393 : Fld Z h354 a354 "com/example/entryway/entryway/KeyIndex" "repeats" "[I" .null := D354 (Or.inl (hw _ (List.mem_of_getElem? (i := 130) rfl))) (ty := (.array .int)) (by decide)
                  refine OwnK.dup X354 hx (hb hby at_260) (pc' := 261) rfl rfl ?_
                  refine OwnK.iconst X354 hx (hb hby at_261) (pc' := 262) rfl (v := (4 : Int32)) (by decide) ?_
                  refine OwnK.callI_ X354 hx hZ hown (y := (⟨"com/example/entryway/entryway/KeyIndex", "<init>", "(I)V"⟩ : MethodName)) (a := a354) rfl (hw _ (List.mem_of_getElem? (i := 48) rfl)) (hw _ (List.mem_of_getElem? (i := 49) rfl)) (hw _ (List.mem_of_getElem? (i := 47) rfl)) (hw _ (List.mem_of_getElem? (i := 50) rfl)) rfl (by decide) (own_met11 l Z a0 hw h354 n0 z369 a354 h334.size (own_G g0 g1 g2 g3) (own_G k0 k1 k2 k3)  ge_a354 (Nat.le_of_eq g354.symm) E354.1 A354 f387 f388 f389 f390 f391 f392 f393 ) (by decide) (W := 1) (by decide) e354 (by rw [hml]; rfl) own_pd_7 (argsL := [(.int (4 : Int32))]) rfl (S := [(.ref a354)]) rfl (Nat.le_of_eq rfl) (hb hby at_262) (pc' := 265) rfl (by decide) (by decide) (fun T394 v394 L394 X394 hQ394 => ?_)
                  obtain ⟨as394, ag394, ak394, kS394, kG394, kK394, rfl, N394q, K394, XI394⟩ := hQ394
                  have N395 := Fr.app N351 N394q
                  have f396 := f370.keep K394
                  have f397 := f371.keep K394
                  have f398 := f372.keep K394
                  have f399 := f373.keep K394
                  have f400 := f374.keep K394 (ninS q357 nin0)
                  have f401 := f375.keep K394
                  have f402 := f376.keep K394 (ninS q358 nin0)
                  have f403 := f377.keep K394
                  have f404 := f378.keep K394
                  have f405 := f379.keep K394
                  have f406 := f380.keep K394
                  have f407 := f381.keep K394
                  have f408 := f382.keep K394
                  have f409 := f383.keep K394
                  have f410 := f384.keep K394
                  have f411 := f385.keep K394
                  have f412 := A354.keep K394
                  have z413 : n0 ≤ T394.heap.size := Nat.le_trans z369 K394.1
                  have O414 := O386.keep K394 (allS ge_a354 all0)
                  have Uk394 := own_Uk Ug354 K394 (allS nSa354 all0)
                  refine OwnK.astore X394 hx (hb hby at_265) (pc' := 267) rfl rfl (Ls' := #[.val (.int q0), .val (.int q1), .val (.int q2), .val (.int q3), .val (.ref a1), .val (.ref a17), .val (.ref a40), .val (.ref a65), .val (.ref a108), .val (.ref a142), .val (.ref a187), .val (.ref a199), .val (.ref a354)]) rfl ?_
                  refine OwnK.aload X394 hx (hb hby at_267) (pc' := 269) rfl (v := (.ref a354)) rfl rfl ?_
                  refine OwnK.aload X394 hx (hb hby at_269) (pc' := 271) rfl (v := (.ref a187)) rfl rfl ?_
                  refine OwnK.iconst X394 hx (hb hby at_271) (pc' := 272) rfl (v := (0 : Int32)) (by decide) ?_
                  refine OwnK.aaload X394 hx hZ rfl f400 rfl (by decide) (by first | decide | omega) (v := (.ref g0)) rfl (hb hby at_272) (pc' := 273) rfl ?_
                  refine OwnK.aload X394 hx (hb hby at_273) (pc' := 275) rfl (v := (.ref a199)) rfl rfl ?_
                  refine OwnK.iconst X394 hx (hb hby at_275) (pc' := 276) rfl (v := (0 : Int32)) (by decide) ?_
                  refine OwnK.aaload X394 hx hZ rfl f402 rfl (by decide) (by first | decide | omega) (v := (.ref k0)) rfl (hb hby at_276) (pc' := 277) rfl ?_
                  refine OwnK.callV_ X394 hx hZ hown (y := (⟨"com/example/entryway/entryway/KeyIndex", "add", "(Ljava/lang/String;Ljava/lang/String;)I"⟩ : MethodName)) (z := (⟨"com/example/entryway/entryway/KeyIndex", "add", "(Ljava/lang/String;Ljava/lang/String;)I"⟩ : MethodName)) (a := a354) (hw _ (List.mem_of_getElem? (i := 83) rfl)) (hw _ (List.mem_of_getElem? (i := 84) rfl)) (notFace_of_selects (args := #[]) (mvT hZ (hw _ (List.mem_of_getElem? (i := 86) rfl)))) (hw _ (List.mem_of_getElem? (i := 86) rfl)) (hw _ (List.mem_of_getElem? (i := 85) rfl)) (hw _ (List.mem_of_getElem? (i := 87) rfl)) (hw _ (List.mem_of_getElem? (i := 47) rfl)) (by decide) f412 (own_met14 l Z a0 hw T394.heap n0 z413 a354 g0 k0 T142.heap.size h334.size as394 ag394 ak394 a354 kS394 kG394 kK394 (.null) 0 own_z8 own_z4 ([.null, .null, .null, .null]) ([.null, .null, .null, .null]) (own_G g0 g1 g2 g3) (own_G k0 k1 k2 k3) (own_q1 false) a108 a142 a40 a65 xA xB ya0 ya1 yb0 yb1 cs O414 ge_g0 ge_k0 Uk394 XI394 mg0 mk0 (fun j _ => own_Gm mg0 mg1 mg2 mg3 j) (fun j _ => own_Gm mk0 mk1 mk2 mk3 j) (fun j hj => absurd hj (Nat.not_lt_zero j)) o0 hSX (by decide) hcs SS rfl rfl hnX (Nat.le_trans E354.1 K394.1) ) (by decide) (W := 0) (by decide) rfl (by rw [hml]; rfl) own_pd_12 (argsL := [(.ref g0), (.ref k0)]) rfl (S := []) rfl (Nat.le_of_eq rfl) (hb hby at_277) (pc' := 280) rfl (by decide) (by decide) (fun T415 v415 L415 X415 hQ415 => ?_)
                  obtain ⟨rb415, rw415, gl415, kl415, r415, rfl, N415q, K415, U415, XQ415⟩ := hQ415
                  have N416 := Fr.app N395 N415q
                  have f417 := f396.keep K415
                  have f418 := f397.keep K415
                  have f419 := f398.keep K415
                  have f420 := f399.keep K415
                  have f421 := f400.keep K415 (ninS (Nat.ne_of_lt (Nat.lt_of_lt_of_le lgs (own_Xra XI394))) (ninS (Nat.ne_of_lt (Nat.lt_of_lt_of_le lgs XI394.1.2.1)) (ninS (Nat.ne_of_lt (Nat.lt_of_lt_of_le lgs XI394.1.2.2.1)) (ninS (Nat.ne_of_lt (Nat.lt_of_lt_of_le lgs XI394.1.2.2.2)) (ninS (Nat.ne_of_lt (Nat.lt_of_lt_of_le lgs (own_Xra XI394))) (ninS (Nat.ne_of_gt (Nat.lt_of_lt_of_le (own_Ug Uk394 mg0).1 nSa187)) (ninS (Nat.ne_of_gt (Nat.lt_of_lt_of_le (own_Uy Uk394 mk0).1 nSa187)) nin0)))))))
                  have f422 := f401.keep K415
                  have f423 := f402.keep K415 (ninS (Nat.ne_of_lt (Nat.lt_of_lt_of_le lks (own_Xra XI394))) (ninS (Nat.ne_of_lt (Nat.lt_of_lt_of_le lks XI394.1.2.1)) (ninS (Nat.ne_of_lt (Nat.lt_of_lt_of_le lks XI394.1.2.2.1)) (ninS (Nat.ne_of_lt (Nat.lt_of_lt_of_le lks XI394.1.2.2.2)) (ninS (Nat.ne_of_lt (Nat.lt_of_lt_of_le lks (own_Xra XI394))) (ninS (Nat.ne_of_gt (Nat.lt_of_lt_of_le (own_Ug Uk394 mg0).1 nSa199)) (ninS (Nat.ne_of_gt (Nat.lt_of_lt_of_le (own_Uy Uk394 mk0).1 nSa199)) nin0)))))))
                  have f424 := f403.keep K415
                  have f425 := f404.keep K415
                  have f426 := f405.keep K415
                  have f427 := f406.keep K415
                  have f428 := f407.keep K415
                  have f429 := f408.keep K415
                  have f430 := f409.keep K415
                  have f431 := f410.keep K415
                  have f432 := f411.keep K415
                  have f433 := f412.keep K415
                  have z434 : n0 ≤ T415.heap.size := Nat.le_trans z413 K415.1
                  have O435 := O414.keep K415 (allS (Nat.le_trans hnX (own_Xra XI394)) (allS (Nat.le_trans hnX XI394.1.2.1) (allS (Nat.le_trans hnX XI394.1.2.2.1) (allS (Nat.le_trans hnX XI394.1.2.2.2) (allS (Nat.le_trans hnX (own_Xra XI394)) (allS ge_g0 (allS ge_k0 all0)))))))
                  have XI415 : own_X Z h334.size T415.heap a354 as394 ag394 ak394 rb415 kS394 kG394 kK394 rw415 (Int32.ofNat 1) 1 (own_s1 (own_home (own_H1 (own_x a108 xA xB g0)) (own_H2 (own_x a40 ya0 yb0 k0) (own_x a40 ya1 yb1 k0)))).1 (own_s1 (own_home (own_H1 (own_x a108 xA xB g0)) (own_H2 (own_x a40 ya0 yb0 k0) (own_x a40 ya1 yb1 k0)))).2 gl415 kl415 (own_G g0 g1 g2 g3) (own_G k0 k1 k2 k3) := XQ415
                  refine OwnK.pop X415 hx (hb hby at_280) (pc' := 281) rfl rfl ?_
                  refine OwnK.aload X415 hx (hb hby at_281) (pc' := 283) rfl (v := (.ref a354)) rfl rfl ?_
                  refine OwnK.aload X415 hx (hb hby at_283) (pc' := 285) rfl (v := (.ref a187)) rfl rfl ?_
                  refine OwnK.iconst X415 hx (hb hby at_285) (pc' := 286) rfl (v := (1 : Int32)) (by decide) ?_
                  refine OwnK.aaload X415 hx hZ rfl f421 rfl (by decide) (by first | decide | omega) (v := (.ref g1)) rfl (hb hby at_286) (pc' := 287) rfl ?_
                  refine OwnK.aload X415 hx (hb hby at_287) (pc' := 289) rfl (v := (.ref a199)) rfl rfl ?_
                  refine OwnK.iconst X415 hx (hb hby at_289) (pc' := 290) rfl (v := (1 : Int32)) (by decide) ?_
                  refine OwnK.aaload X415 hx hZ rfl f423 rfl (by decide) (by first | decide | omega) (v := (.ref k1)) rfl (hb hby at_290) (pc' := 291) rfl ?_
                  refine OwnK.callV_ X415 hx hZ hown (y := (⟨"com/example/entryway/entryway/KeyIndex", "add", "(Ljava/lang/String;Ljava/lang/String;)I"⟩ : MethodName)) (z := (⟨"com/example/entryway/entryway/KeyIndex", "add", "(Ljava/lang/String;Ljava/lang/String;)I"⟩ : MethodName)) (a := a354) (hw _ (List.mem_of_getElem? (i := 83) rfl)) (hw _ (List.mem_of_getElem? (i := 84) rfl)) (notFace_of_selects (args := #[]) (mvT hZ (hw _ (List.mem_of_getElem? (i := 86) rfl)))) (hw _ (List.mem_of_getElem? (i := 86) rfl)) (hw _ (List.mem_of_getElem? (i := 85) rfl)) (hw _ (List.mem_of_getElem? (i := 87) rfl)) (hw _ (List.mem_of_getElem? (i := 47) rfl)) (by decide) f433 (own_met14 l Z a0 hw T415.heap n0 z434 a354 g1 k1 T142.heap.size h334.size as394 ag394 ak394 rb415 kS394 kG394 kK394 rw415 1 (own_s1 (own_home (own_H1 (own_x a108 xA xB g0)) (own_H2 (own_x a40 ya0 yb0 k0) (own_x a40 ya1 yb1 k0)))).1 (own_s1 (own_home (own_H1 (own_x a108 xA xB g0)) (own_H2 (own_x a40 ya0 yb0 k0) (own_x a40 ya1 yb1 k0)))).2 gl415 kl415 (own_G g0 g1 g2 g3) (own_G k0 k1 k2 k3) (own_q1 (own_same1 (own_x a108 xA xB g0) (own_x a108 xA xB g1) (own_x a40 ya0 yb0 k0) (own_x a40 ya0 yb0 k1) (own_x a40 ya1 yb1 k0) (own_x a40 ya1 yb1 k1))) a108 a142 a40 a65 xA xB ya0 ya1 yb0 yb1 cs O435 ge_g1 ge_k1 U415 XI415 mg1 mk1 (fun j _ => own_Gm mg0 mg1 mg2 mg3 j) (fun j _ => own_Gm mk0 mk1 mk2 mk3 j) (fun j hj => by rcases (show j = 0 ∨ j = 0 by omega) with rfl | rfl <;> rfl) o1 hSX (by decide) hcs SS rfl rfl hnX (Nat.le_trans (Nat.le_trans E354.1 K394.1) K415.1) ) (by decide) (W := 0) (by decide) rfl (by rw [hml]; rfl) own_pd_12 (argsL := [(.ref g1), (.ref k1)]) rfl (S := []) rfl (Nat.le_of_eq rfl) (hb hby at_291) (pc' := 294) rfl (by decide) (by decide) (fun T436 v436 L436 X436 hQ436 => ?_)
                  obtain ⟨rb436, rw436, gl436, kl436, r436, rfl, N436q, K436, U436, XQ436⟩ := hQ436
                  have N437 := Fr.app N416 N436q
                  have f438 := f417.keep K436
                  have f439 := f418.keep K436
                  have f440 := f419.keep K436
                  have f441 := f420.keep K436
                  have f442 := f421.keep K436 (ninS (Nat.ne_of_lt (Nat.lt_of_lt_of_le lgs XI415.1.1)) (ninS (Nat.ne_of_lt (Nat.lt_of_lt_of_le lgs XI415.1.2.1)) (ninS (Nat.ne_of_lt (Nat.lt_of_lt_of_le lgs XI415.1.2.2.1)) (ninS (Nat.ne_of_lt (Nat.lt_of_lt_of_le lgs XI415.1.2.2.2)) (ninS (Nat.ne_of_lt (Nat.lt_of_lt_of_le lgs (own_Xra XI415))) (ninS (Nat.ne_of_gt (Nat.lt_of_lt_of_le (own_Ug U415 mg1).1 nSa187)) (ninS (Nat.ne_of_gt (Nat.lt_of_lt_of_le (own_Uy U415 mk1).1 nSa187)) nin0)))))))
                  have f443 := f422.keep K436
                  have f444 := f423.keep K436 (ninS (Nat.ne_of_lt (Nat.lt_of_lt_of_le lks XI415.1.1)) (ninS (Nat.ne_of_lt (Nat.lt_of_lt_of_le lks XI415.1.2.1)) (ninS (Nat.ne_of_lt (Nat.lt_of_lt_of_le lks XI415.1.2.2.1)) (ninS (Nat.ne_of_lt (Nat.lt_of_lt_of_le lks XI415.1.2.2.2)) (ninS (Nat.ne_of_lt (Nat.lt_of_lt_of_le lks (own_Xra XI415))) (ninS (Nat.ne_of_gt (Nat.lt_of_lt_of_le (own_Ug U415 mg1).1 nSa199)) (ninS (Nat.ne_of_gt (Nat.lt_of_lt_of_le (own_Uy U415 mk1).1 nSa199)) nin0)))))))
                  have f445 := f424.keep K436
                  have f446 := f425.keep K436
                  have f447 := f426.keep K436
                  have f448 := f427.keep K436
                  have f449 := f428.keep K436
                  have f450 := f429.keep K436
                  have f451 := f430.keep K436
                  have f452 := f431.keep K436
                  have f453 := f432.keep K436
                  have f454 := f433.keep K436
                  have z455 : n0 ≤ T436.heap.size := Nat.le_trans z434 K436.1
                  have O456 := O435.keep K436 (allS (Nat.le_trans hnX XI415.1.1) (allS (Nat.le_trans hnX XI415.1.2.1) (allS (Nat.le_trans hnX XI415.1.2.2.1) (allS (Nat.le_trans hnX XI415.1.2.2.2) (allS (Nat.le_trans hnX (own_Xra XI415)) (allS ge_g1 (allS ge_k1 all0)))))))
                  have XI436 : own_X Z h334.size T436.heap a354 as394 ag394 ak394 rb436 kS394 kG394 kK394 rw436 (Int32.ofNat 2) 2 (own_s2 (own_home (own_H1 (own_x a108 xA xB g0)) (own_H2 (own_x a40 ya0 yb0 k0) (own_x a40 ya1 yb1 k0))) (own_home (own_H1 (own_x a108 xA xB g1)) (own_H2 (own_x a40 ya0 yb0 k1) (own_x a40 ya1 yb1 k1))) (own_same1 (own_x a108 xA xB g0) (own_x a108 xA xB g1) (own_x a40 ya0 yb0 k0) (own_x a40 ya0 yb0 k1) (own_x a40 ya1 yb1 k0) (own_x a40 ya1 yb1 k1))).1 (own_s2 (own_home (own_H1 (own_x a108 xA xB g0)) (own_H2 (own_x a40 ya0 yb0 k0) (own_x a40 ya1 yb1 k0))) (own_home (own_H1 (own_x a108 xA xB g1)) (own_H2 (own_x a40 ya0 yb0 k1) (own_x a40 ya1 yb1 k1))) (own_same1 (own_x a108 xA xB g0) (own_x a108 xA xB g1) (own_x a40 ya0 yb0 k0) (own_x a40 ya0 yb0 k1) (own_x a40 ya1 yb1 k0) (own_x a40 ya1 yb1 k1))).2 gl436 kl436 (own_G g0 g1 g2 g3) (own_G k0 k1 k2 k3) := XQ436
                  refine OwnK.pop X436 hx (hb hby at_294) (pc' := 295) rfl rfl ?_
                  refine OwnK.aload X436 hx (hb hby at_295) (pc' := 297) rfl (v := (.ref a354)) rfl rfl ?_
                  refine OwnK.aload X436 hx (hb hby at_297) (pc' := 299) rfl (v := (.ref a187)) rfl rfl ?_
                  refine OwnK.iconst X436 hx (hb hby at_299) (pc' := 300) rfl (v := (2 : Int32)) (by decide) ?_
                  refine OwnK.aaload X436 hx hZ rfl f442 rfl (by decide) (by first | decide | omega) (v := (.ref g2)) rfl (hb hby at_300) (pc' := 301) rfl ?_
                  refine OwnK.aload X436 hx (hb hby at_301) (pc' := 303) rfl (v := (.ref a199)) rfl rfl ?_
                  refine OwnK.iconst X436 hx (hb hby at_303) (pc' := 304) rfl (v := (2 : Int32)) (by decide) ?_
                  refine OwnK.aaload X436 hx hZ rfl f444 rfl (by decide) (by first | decide | omega) (v := (.ref k2)) rfl (hb hby at_304) (pc' := 305) rfl ?_
                  refine OwnK.callV_ X436 hx hZ hown (y := (⟨"com/example/entryway/entryway/KeyIndex", "add", "(Ljava/lang/String;Ljava/lang/String;)I"⟩ : MethodName)) (z := (⟨"com/example/entryway/entryway/KeyIndex", "add", "(Ljava/lang/String;Ljava/lang/String;)I"⟩ : MethodName)) (a := a354) (hw _ (List.mem_of_getElem? (i := 83) rfl)) (hw _ (List.mem_of_getElem? (i := 84) rfl)) (notFace_of_selects (args := #[]) (mvT hZ (hw _ (List.mem_of_getElem? (i := 86) rfl)))) (hw _ (List.mem_of_getElem? (i := 86) rfl)) (hw _ (List.mem_of_getElem? (i := 85) rfl)) (hw _ (List.mem_of_getElem? (i := 87) rfl)) (hw _ (List.mem_of_getElem? (i := 47) rfl)) (by decide) f454 (own_met14 l Z a0 hw T436.heap n0 z455 a354 g2 k2 T142.heap.size h334.size as394 ag394 ak394 rb436 kS394 kG394 kK394 rw436 2 (own_s2 (own_home (own_H1 (own_x a108 xA xB g0)) (own_H2 (own_x a40 ya0 yb0 k0) (own_x a40 ya1 yb1 k0))) (own_home (own_H1 (own_x a108 xA xB g1)) (own_H2 (own_x a40 ya0 yb0 k1) (own_x a40 ya1 yb1 k1))) (own_same1 (own_x a108 xA xB g0) (own_x a108 xA xB g1) (own_x a40 ya0 yb0 k0) (own_x a40 ya0 yb0 k1) (own_x a40 ya1 yb1 k0) (own_x a40 ya1 yb1 k1))).1 (own_s2 (own_home (own_H1 (own_x a108 xA xB g0)) (own_H2 (own_x a40 ya0 yb0 k0) (own_x a40 ya1 yb1 k0))) (own_home (own_H1 (own_x a108 xA xB g1)) (own_H2 (own_x a40 ya0 yb0 k1) (own_x a40 ya1 yb1 k1))) (own_same1 (own_x a108 xA xB g0) (own_x a108 xA xB g1) (own_x a40 ya0 yb0 k0) (own_x a40 ya0 yb0 k1) (own_x a40 ya1 yb1 k0) (own_x a40 ya1 yb1 k1))).2 gl436 kl436 (own_G g0 g1 g2 g3) (own_G k0 k1 k2 k3) (own_q2 (own_same1 (own_x a108 xA xB g0) (own_x a108 xA xB g2) (own_x a40 ya0 yb0 k0) (own_x a40 ya0 yb0 k2) (own_x a40 ya1 yb1 k0) (own_x a40 ya1 yb1 k2)) (own_same1 (own_x a108 xA xB g1) (own_x a108 xA xB g2) (own_x a40 ya0 yb0 k1) (own_x a40 ya0 yb0 k2) (own_x a40 ya1 yb1 k1) (own_x a40 ya1 yb1 k2))) a108 a142 a40 a65 xA xB ya0 ya1 yb0 yb1 cs O456 ge_g2 ge_k2 U436 XI436 mg2 mk2 (fun j _ => own_Gm mg0 mg1 mg2 mg3 j) (fun j _ => own_Gm mk0 mk1 mk2 mk3 j) (fun j hj => by rcases (show j = 0 ∨ j = 1 by omega) with rfl | rfl <;> rfl) o2 hSX (by decide) hcs SS rfl rfl hnX (Nat.le_trans (Nat.le_trans (Nat.le_trans E354.1 K394.1) K415.1) K436.1) ) (by decide) (W := 0) (by decide) rfl (by rw [hml]; rfl) own_pd_12 (argsL := [(.ref g2), (.ref k2)]) rfl (S := []) rfl (Nat.le_of_eq rfl) (hb hby at_305) (pc' := 308) rfl (by decide) (by decide) (fun T457 v457 L457 X457 hQ457 => ?_)
                  obtain ⟨rb457, rw457, gl457, kl457, r457, rfl, N457q, K457, U457, XQ457⟩ := hQ457
                  have N458 := Fr.app N437 N457q
                  have f459 := f438.keep K457
                  have f460 := f439.keep K457
                  have f461 := f440.keep K457
                  have f462 := f441.keep K457
                  have f463 := f442.keep K457 (ninS (Nat.ne_of_lt (Nat.lt_of_lt_of_le lgs XI436.1.1)) (ninS (Nat.ne_of_lt (Nat.lt_of_lt_of_le lgs XI436.1.2.1)) (ninS (Nat.ne_of_lt (Nat.lt_of_lt_of_le lgs XI436.1.2.2.1)) (ninS (Nat.ne_of_lt (Nat.lt_of_lt_of_le lgs XI436.1.2.2.2)) (ninS (Nat.ne_of_lt (Nat.lt_of_lt_of_le lgs (own_Xra XI436))) (ninS (Nat.ne_of_gt (Nat.lt_of_lt_of_le (own_Ug U436 mg2).1 nSa187)) (ninS (Nat.ne_of_gt (Nat.lt_of_lt_of_le (own_Uy U436 mk2).1 nSa187)) nin0)))))))
                  have f464 := f443.keep K457
                  have f465 := f444.keep K457 (ninS (Nat.ne_of_lt (Nat.lt_of_lt_of_le lks XI436.1.1)) (ninS (Nat.ne_of_lt (Nat.lt_of_lt_of_le lks XI436.1.2.1)) (ninS (Nat.ne_of_lt (Nat.lt_of_lt_of_le lks XI436.1.2.2.1)) (ninS (Nat.ne_of_lt (Nat.lt_of_lt_of_le lks XI436.1.2.2.2)) (ninS (Nat.ne_of_lt (Nat.lt_of_lt_of_le lks (own_Xra XI436))) (ninS (Nat.ne_of_gt (Nat.lt_of_lt_of_le (own_Ug U436 mg2).1 nSa199)) (ninS (Nat.ne_of_gt (Nat.lt_of_lt_of_le (own_Uy U436 mk2).1 nSa199)) nin0)))))))
                  have f466 := f445.keep K457
                  have f467 := f446.keep K457
                  have f468 := f447.keep K457
                  have f469 := f448.keep K457
                  have f470 := f449.keep K457
                  have f471 := f450.keep K457
                  have f472 := f451.keep K457
                  have f473 := f452.keep K457
                  have f474 := f453.keep K457
                  have f475 := f454.keep K457
                  have z476 : n0 ≤ T457.heap.size := Nat.le_trans z455 K457.1
                  have O477 := O456.keep K457 (allS (Nat.le_trans hnX XI436.1.1) (allS (Nat.le_trans hnX XI436.1.2.1) (allS (Nat.le_trans hnX XI436.1.2.2.1) (allS (Nat.le_trans hnX XI436.1.2.2.2) (allS (Nat.le_trans hnX (own_Xra XI436)) (allS ge_g2 (allS ge_k2 all0)))))))
                  have XI457 : own_X Z h334.size T457.heap a354 as394 ag394 ak394 rb457 kS394 kG394 kK394 rw457 (Int32.ofNat 3) 3 (own_s3 (own_home (own_H1 (own_x a108 xA xB g0)) (own_H2 (own_x a40 ya0 yb0 k0) (own_x a40 ya1 yb1 k0))) (own_home (own_H1 (own_x a108 xA xB g1)) (own_H2 (own_x a40 ya0 yb0 k1) (own_x a40 ya1 yb1 k1))) (own_home (own_H1 (own_x a108 xA xB g2)) (own_H2 (own_x a40 ya0 yb0 k2) (own_x a40 ya1 yb1 k2))) (own_same1 (own_x a108 xA xB g0) (own_x a108 xA xB g1) (own_x a40 ya0 yb0 k0) (own_x a40 ya0 yb0 k1) (own_x a40 ya1 yb1 k0) (own_x a40 ya1 yb1 k1)) (own_same1 (own_x a108 xA xB g0) (own_x a108 xA xB g2) (own_x a40 ya0 yb0 k0) (own_x a40 ya0 yb0 k2) (own_x a40 ya1 yb1 k0) (own_x a40 ya1 yb1 k2)) (own_same1 (own_x a108 xA xB g1) (own_x a108 xA xB g2) (own_x a40 ya0 yb0 k1) (own_x a40 ya0 yb0 k2) (own_x a40 ya1 yb1 k1) (own_x a40 ya1 yb1 k2))).1 (own_s3 (own_home (own_H1 (own_x a108 xA xB g0)) (own_H2 (own_x a40 ya0 yb0 k0) (own_x a40 ya1 yb1 k0))) (own_home (own_H1 (own_x a108 xA xB g1)) (own_H2 (own_x a40 ya0 yb0 k1) (own_x a40 ya1 yb1 k1))) (own_home (own_H1 (own_x a108 xA xB g2)) (own_H2 (own_x a40 ya0 yb0 k2) (own_x a40 ya1 yb1 k2))) (own_same1 (own_x a108 xA xB g0) (own_x a108 xA xB g1) (own_x a40 ya0 yb0 k0) (own_x a40 ya0 yb0 k1) (own_x a40 ya1 yb1 k0) (own_x a40 ya1 yb1 k1)) (own_same1 (own_x a108 xA xB g0) (own_x a108 xA xB g2) (own_x a40 ya0 yb0 k0) (own_x a40 ya0 yb0 k2) (own_x a40 ya1 yb1 k0) (own_x a40 ya1 yb1 k2)) (own_same1 (own_x a108 xA xB g1) (own_x a108 xA xB g2) (own_x a40 ya0 yb0 k1) (own_x a40 ya0 yb0 k2) (own_x a40 ya1 yb1 k1) (own_x a40 ya1 yb1 k2))).2 gl457 kl457 (own_G g0 g1 g2 g3) (own_G k0 k1 k2 k3) := XQ457
                  refine OwnK.pop X457 hx (hb hby at_308) (pc' := 309) rfl rfl ?_
                  refine OwnK.aload X457 hx (hb hby at_309) (pc' := 311) rfl (v := (.ref a354)) rfl rfl ?_
                  refine OwnK.aload X457 hx (hb hby at_311) (pc' := 313) rfl (v := (.ref a187)) rfl rfl ?_
                  refine OwnK.iconst X457 hx (hb hby at_313) (pc' := 314) rfl (v := (3 : Int32)) (by decide) ?_
                  refine OwnK.aaload X457 hx hZ rfl f463 rfl (by decide) (by first | decide | omega) (v := (.ref g3)) rfl (hb hby at_314) (pc' := 315) rfl ?_
                  refine OwnK.aload X457 hx (hb hby at_315) (pc' := 317) rfl (v := (.ref a199)) rfl rfl ?_
                  refine OwnK.iconst X457 hx (hb hby at_317) (pc' := 318) rfl (v := (3 : Int32)) (by decide) ?_
                  refine OwnK.aaload X457 hx hZ rfl f465 rfl (by decide) (by first | decide | omega) (v := (.ref k3)) rfl (hb hby at_318) (pc' := 319) rfl ?_
                  refine OwnK.callV_ X457 hx hZ hown (y := (⟨"com/example/entryway/entryway/KeyIndex", "add", "(Ljava/lang/String;Ljava/lang/String;)I"⟩ : MethodName)) (z := (⟨"com/example/entryway/entryway/KeyIndex", "add", "(Ljava/lang/String;Ljava/lang/String;)I"⟩ : MethodName)) (a := a354) (hw _ (List.mem_of_getElem? (i := 83) rfl)) (hw _ (List.mem_of_getElem? (i := 84) rfl)) (notFace_of_selects (args := #[]) (mvT hZ (hw _ (List.mem_of_getElem? (i := 86) rfl)))) (hw _ (List.mem_of_getElem? (i := 86) rfl)) (hw _ (List.mem_of_getElem? (i := 85) rfl)) (hw _ (List.mem_of_getElem? (i := 87) rfl)) (hw _ (List.mem_of_getElem? (i := 47) rfl)) (by decide) f475 (own_met14 l Z a0 hw T457.heap n0 z476 a354 g3 k3 T142.heap.size h334.size as394 ag394 ak394 rb457 kS394 kG394 kK394 rw457 3 (own_s3 (own_home (own_H1 (own_x a108 xA xB g0)) (own_H2 (own_x a40 ya0 yb0 k0) (own_x a40 ya1 yb1 k0))) (own_home (own_H1 (own_x a108 xA xB g1)) (own_H2 (own_x a40 ya0 yb0 k1) (own_x a40 ya1 yb1 k1))) (own_home (own_H1 (own_x a108 xA xB g2)) (own_H2 (own_x a40 ya0 yb0 k2) (own_x a40 ya1 yb1 k2))) (own_same1 (own_x a108 xA xB g0) (own_x a108 xA xB g1) (own_x a40 ya0 yb0 k0) (own_x a40 ya0 yb0 k1) (own_x a40 ya1 yb1 k0) (own_x a40 ya1 yb1 k1)) (own_same1 (own_x a108 xA xB g0) (own_x a108 xA xB g2) (own_x a40 ya0 yb0 k0) (own_x a40 ya0 yb0 k2) (own_x a40 ya1 yb1 k0) (own_x a40 ya1 yb1 k2)) (own_same1 (own_x a108 xA xB g1) (own_x a108 xA xB g2) (own_x a40 ya0 yb0 k1) (own_x a40 ya0 yb0 k2) (own_x a40 ya1 yb1 k1) (own_x a40 ya1 yb1 k2))).1 (own_s3 (own_home (own_H1 (own_x a108 xA xB g0)) (own_H2 (own_x a40 ya0 yb0 k0) (own_x a40 ya1 yb1 k0))) (own_home (own_H1 (own_x a108 xA xB g1)) (own_H2 (own_x a40 ya0 yb0 k1) (own_x a40 ya1 yb1 k1))) (own_home (own_H1 (own_x a108 xA xB g2)) (own_H2 (own_x a40 ya0 yb0 k2) (own_x a40 ya1 yb1 k2))) (own_same1 (own_x a108 xA xB g0) (own_x a108 xA xB g1) (own_x a40 ya0 yb0 k0) (own_x a40 ya0 yb0 k1) (own_x a40 ya1 yb1 k0) (own_x a40 ya1 yb1 k1)) (own_same1 (own_x a108 xA xB g0) (own_x a108 xA xB g2) (own_x a40 ya0 yb0 k0) (own_x a40 ya0 yb0 k2) (own_x a40 ya1 yb1 k0) (own_x a40 ya1 yb1 k2)) (own_same1 (own_x a108 xA xB g1) (own_x a108 xA xB g2) (own_x a40 ya0 yb0 k1) (own_x a40 ya0 yb0 k2) (own_x a40 ya1 yb1 k1) (own_x a40 ya1 yb1 k2))).2 gl457 kl457 (own_G g0 g1 g2 g3) (own_G k0 k1 k2 k3) (own_q3 (own_same1 (own_x a108 xA xB g0) (own_x a108 xA xB g3) (own_x a40 ya0 yb0 k0) (own_x a40 ya0 yb0 k3) (own_x a40 ya1 yb1 k0) (own_x a40 ya1 yb1 k3)) (own_same1 (own_x a108 xA xB g1) (own_x a108 xA xB g3) (own_x a40 ya0 yb0 k1) (own_x a40 ya0 yb0 k3) (own_x a40 ya1 yb1 k1) (own_x a40 ya1 yb1 k3)) (own_same1 (own_x a108 xA xB g2) (own_x a108 xA xB g3) (own_x a40 ya0 yb0 k2) (own_x a40 ya0 yb0 k3) (own_x a40 ya1 yb1 k2) (own_x a40 ya1 yb1 k3))) a108 a142 a40 a65 xA xB ya0 ya1 yb0 yb1 cs O477 ge_g3 ge_k3 U457 XI457 mg3 mk3 (fun j _ => own_Gm mg0 mg1 mg2 mg3 j) (fun j _ => own_Gm mk0 mk1 mk2 mk3 j) (fun j hj => by rcases (show j = 0 ∨ j = 1 ∨ j = 2 by omega) with rfl | rfl | rfl <;> rfl) o3 hSX (by decide) hcs SS rfl rfl hnX (Nat.le_trans (Nat.le_trans (Nat.le_trans (Nat.le_trans E354.1 K394.1) K415.1) K436.1) K457.1) ) (by decide) (W := 0) (by decide) rfl (by rw [hml]; rfl) own_pd_12 (argsL := [(.ref g3), (.ref k3)]) rfl (S := []) rfl (Nat.le_of_eq rfl) (hb hby at_319) (pc' := 322) rfl (by decide) (by decide) (fun T478 v478 L478 X478 hQ478 => ?_)
                  obtain ⟨rb478, rw478, gl478, kl478, r478, rfl, N478q, K478, U478, XQ478⟩ := hQ478
                  have N479 := Fr.app N458 N478q
                  have f480 := f459.keep K478
                  have f481 := f460.keep K478
                  have f482 := f461.keep K478
                  have f483 := f462.keep K478
                  have f484 := f463.keep K478 (ninS (Nat.ne_of_lt (Nat.lt_of_lt_of_le lgs XI457.1.1)) (ninS (Nat.ne_of_lt (Nat.lt_of_lt_of_le lgs XI457.1.2.1)) (ninS (Nat.ne_of_lt (Nat.lt_of_lt_of_le lgs XI457.1.2.2.1)) (ninS (Nat.ne_of_lt (Nat.lt_of_lt_of_le lgs XI457.1.2.2.2)) (ninS (Nat.ne_of_lt (Nat.lt_of_lt_of_le lgs (own_Xra XI457))) (ninS (Nat.ne_of_gt (Nat.lt_of_lt_of_le (own_Ug U457 mg3).1 nSa187)) (ninS (Nat.ne_of_gt (Nat.lt_of_lt_of_le (own_Uy U457 mk3).1 nSa187)) nin0)))))))
                  have f485 := f464.keep K478
                  have f486 := f465.keep K478 (ninS (Nat.ne_of_lt (Nat.lt_of_lt_of_le lks XI457.1.1)) (ninS (Nat.ne_of_lt (Nat.lt_of_lt_of_le lks XI457.1.2.1)) (ninS (Nat.ne_of_lt (Nat.lt_of_lt_of_le lks XI457.1.2.2.1)) (ninS (Nat.ne_of_lt (Nat.lt_of_lt_of_le lks XI457.1.2.2.2)) (ninS (Nat.ne_of_lt (Nat.lt_of_lt_of_le lks (own_Xra XI457))) (ninS (Nat.ne_of_gt (Nat.lt_of_lt_of_le (own_Ug U457 mg3).1 nSa199)) (ninS (Nat.ne_of_gt (Nat.lt_of_lt_of_le (own_Uy U457 mk3).1 nSa199)) nin0)))))))
                  have f487 := f466.keep K478
                  have f488 := f467.keep K478
                  have f489 := f468.keep K478
                  have f490 := f469.keep K478
                  have f491 := f470.keep K478
                  have f492 := f471.keep K478
                  have f493 := f472.keep K478
                  have f494 := f473.keep K478
                  have f495 := f474.keep K478
                  have f496 := f475.keep K478
                  have z497 : n0 ≤ T478.heap.size := Nat.le_trans z476 K478.1
                  have O498 := O477.keep K478 (allS (Nat.le_trans hnX XI457.1.1) (allS (Nat.le_trans hnX XI457.1.2.1) (allS (Nat.le_trans hnX XI457.1.2.2.1) (allS (Nat.le_trans hnX XI457.1.2.2.2) (allS (Nat.le_trans hnX (own_Xra XI457)) (allS ge_g3 (allS ge_k3 all0)))))))
                  have XI478 : own_X Z h334.size T478.heap a354 as394 ag394 ak394 rb478 kS394 kG394 kK394 rw478 (Int32.ofNat 4) 4 (own_s4 (own_home (own_H1 (own_x a108 xA xB g0)) (own_H2 (own_x a40 ya0 yb0 k0) (own_x a40 ya1 yb1 k0))) (own_home (own_H1 (own_x a108 xA xB g1)) (own_H2 (own_x a40 ya0 yb0 k1) (own_x a40 ya1 yb1 k1))) (own_home (own_H1 (own_x a108 xA xB g2)) (own_H2 (own_x a40 ya0 yb0 k2) (own_x a40 ya1 yb1 k2))) (own_home (own_H1 (own_x a108 xA xB g3)) (own_H2 (own_x a40 ya0 yb0 k3) (own_x a40 ya1 yb1 k3))) (own_same1 (own_x a108 xA xB g0) (own_x a108 xA xB g1) (own_x a40 ya0 yb0 k0) (own_x a40 ya0 yb0 k1) (own_x a40 ya1 yb1 k0) (own_x a40 ya1 yb1 k1)) (own_same1 (own_x a108 xA xB g0) (own_x a108 xA xB g2) (own_x a40 ya0 yb0 k0) (own_x a40 ya0 yb0 k2) (own_x a40 ya1 yb1 k0) (own_x a40 ya1 yb1 k2)) (own_same1 (own_x a108 xA xB g0) (own_x a108 xA xB g3) (own_x a40 ya0 yb0 k0) (own_x a40 ya0 yb0 k3) (own_x a40 ya1 yb1 k0) (own_x a40 ya1 yb1 k3)) (own_same1 (own_x a108 xA xB g1) (own_x a108 xA xB g2) (own_x a40 ya0 yb0 k1) (own_x a40 ya0 yb0 k2) (own_x a40 ya1 yb1 k1) (own_x a40 ya1 yb1 k2)) (own_same1 (own_x a108 xA xB g1) (own_x a108 xA xB g3) (own_x a40 ya0 yb0 k1) (own_x a40 ya0 yb0 k3) (own_x a40 ya1 yb1 k1) (own_x a40 ya1 yb1 k3)) (own_same1 (own_x a108 xA xB g2) (own_x a108 xA xB g3) (own_x a40 ya0 yb0 k2) (own_x a40 ya0 yb0 k3) (own_x a40 ya1 yb1 k2) (own_x a40 ya1 yb1 k3))).1 (own_s4 (own_home (own_H1 (own_x a108 xA xB g0)) (own_H2 (own_x a40 ya0 yb0 k0) (own_x a40 ya1 yb1 k0))) (own_home (own_H1 (own_x a108 xA xB g1)) (own_H2 (own_x a40 ya0 yb0 k1) (own_x a40 ya1 yb1 k1))) (own_home (own_H1 (own_x a108 xA xB g2)) (own_H2 (own_x a40 ya0 yb0 k2) (own_x a40 ya1 yb1 k2))) (own_home (own_H1 (own_x a108 xA xB g3)) (own_H2 (own_x a40 ya0 yb0 k3) (own_x a40 ya1 yb1 k3))) (own_same1 (own_x a108 xA xB g0) (own_x a108 xA xB g1) (own_x a40 ya0 yb0 k0) (own_x a40 ya0 yb0 k1) (own_x a40 ya1 yb1 k0) (own_x a40 ya1 yb1 k1)) (own_same1 (own_x a108 xA xB g0) (own_x a108 xA xB g2) (own_x a40 ya0 yb0 k0) (own_x a40 ya0 yb0 k2) (own_x a40 ya1 yb1 k0) (own_x a40 ya1 yb1 k2)) (own_same1 (own_x a108 xA xB g0) (own_x a108 xA xB g3) (own_x a40 ya0 yb0 k0) (own_x a40 ya0 yb0 k3) (own_x a40 ya1 yb1 k0) (own_x a40 ya1 yb1 k3)) (own_same1 (own_x a108 xA xB g1) (own_x a108 xA xB g2) (own_x a40 ya0 yb0 k1) (own_x a40 ya0 yb0 k2) (own_x a40 ya1 yb1 k1) (own_x a40 ya1 yb1 k2)) (own_same1 (own_x a108 xA xB g1) (own_x a108 xA xB g3) (own_x a40 ya0 yb0 k1) (own_x a40 ya0 yb0 k3) (own_x a40 ya1 yb1 k1) (own_x a40 ya1 yb1 k3)) (own_same1 (own_x a108 xA xB g2) (own_x a108 xA xB g3) (own_x a40 ya0 yb0 k2) (own_x a40 ya0 yb0 k3) (own_x a40 ya1 yb1 k2) (own_x a40 ya1 yb1 k3))).2 gl478 kl478 (own_G g0 g1 g2 g3) (own_G k0 k1 k2 k3) := XQ478
                  refine OwnK.pop X478 hx (hb hby at_322) (pc' := 323) rfl rfl ?_
                  refine OwnK.aload X478 hx (hb hby at_323) (pc' := 325) rfl (v := (.ref a354)) rfl rfl ?_
                  refine OwnK.iconst X478 hx (hb hby at_325) (pc' := 326) rfl (v := (0 : Int32)) (by decide) ?_
                  refine OwnK.callV_ X478 hx hZ hown (y := (⟨"com/example/entryway/entryway/KeyIndex", "firstOf", "(I)I"⟩ : MethodName)) (z := (⟨"com/example/entryway/entryway/KeyIndex", "firstOf", "(I)I"⟩ : MethodName)) (a := a354) (hw _ (List.mem_of_getElem? (i := 131) rfl)) (hw _ (List.mem_of_getElem? (i := 132) rfl)) (notFace_of_selects (args := #[]) (mvT hZ (hw _ (List.mem_of_getElem? (i := 134) rfl)))) (hw _ (List.mem_of_getElem? (i := 134) rfl)) (hw _ (List.mem_of_getElem? (i := 133) rfl)) (hw _ (List.mem_of_getElem? (i := 135) rfl)) (hw _ (List.mem_of_getElem? (i := 47) rfl)) (by decide) f496 (own_met23 l Z a0 hw T478.heap a354 (0 : Int32) h334.size as394 ag394 ak394 rb478 kS394 kG394 kK394 rw478 (Int32.ofNat 4) 4 (own_s4 (own_home (own_H1 (own_x a108 xA xB g0)) (own_H2 (own_x a40 ya0 yb0 k0) (own_x a40 ya1 yb1 k0))) (own_home (own_H1 (own_x a108 xA xB g1)) (own_H2 (own_x a40 ya0 yb0 k1) (own_x a40 ya1 yb1 k1))) (own_home (own_H1 (own_x a108 xA xB g2)) (own_H2 (own_x a40 ya0 yb0 k2) (own_x a40 ya1 yb1 k2))) (own_home (own_H1 (own_x a108 xA xB g3)) (own_H2 (own_x a40 ya0 yb0 k3) (own_x a40 ya1 yb1 k3))) (own_same1 (own_x a108 xA xB g0) (own_x a108 xA xB g1) (own_x a40 ya0 yb0 k0) (own_x a40 ya0 yb0 k1) (own_x a40 ya1 yb1 k0) (own_x a40 ya1 yb1 k1)) (own_same1 (own_x a108 xA xB g0) (own_x a108 xA xB g2) (own_x a40 ya0 yb0 k0) (own_x a40 ya0 yb0 k2) (own_x a40 ya1 yb1 k0) (own_x a40 ya1 yb1 k2)) (own_same1 (own_x a108 xA xB g0) (own_x a108 xA xB g3) (own_x a40 ya0 yb0 k0) (own_x a40 ya0 yb0 k3) (own_x a40 ya1 yb1 k0) (own_x a40 ya1 yb1 k3)) (own_same1 (own_x a108 xA xB g1) (own_x a108 xA xB g2) (own_x a40 ya0 yb0 k1) (own_x a40 ya0 yb0 k2) (own_x a40 ya1 yb1 k1) (own_x a40 ya1 yb1 k2)) (own_same1 (own_x a108 xA xB g1) (own_x a108 xA xB g3) (own_x a40 ya0 yb0 k1) (own_x a40 ya0 yb0 k3) (own_x a40 ya1 yb1 k1) (own_x a40 ya1 yb1 k3)) (own_same1 (own_x a108 xA xB g2) (own_x a108 xA xB g3) (own_x a40 ya0 yb0 k2) (own_x a40 ya0 yb0 k3) (own_x a40 ya1 yb1 k2) (own_x a40 ya1 yb1 k3))).1 (own_s4 (own_home (own_H1 (own_x a108 xA xB g0)) (own_H2 (own_x a40 ya0 yb0 k0) (own_x a40 ya1 yb1 k0))) (own_home (own_H1 (own_x a108 xA xB g1)) (own_H2 (own_x a40 ya0 yb0 k1) (own_x a40 ya1 yb1 k1))) (own_home (own_H1 (own_x a108 xA xB g2)) (own_H2 (own_x a40 ya0 yb0 k2) (own_x a40 ya1 yb1 k2))) (own_home (own_H1 (own_x a108 xA xB g3)) (own_H2 (own_x a40 ya0 yb0 k3) (own_x a40 ya1 yb1 k3))) (own_same1 (own_x a108 xA xB g0) (own_x a108 xA xB g1) (own_x a40 ya0 yb0 k0) (own_x a40 ya0 yb0 k1) (own_x a40 ya1 yb1 k0) (own_x a40 ya1 yb1 k1)) (own_same1 (own_x a108 xA xB g0) (own_x a108 xA xB g2) (own_x a40 ya0 yb0 k0) (own_x a40 ya0 yb0 k2) (own_x a40 ya1 yb1 k0) (own_x a40 ya1 yb1 k2)) (own_same1 (own_x a108 xA xB g0) (own_x a108 xA xB g3) (own_x a40 ya0 yb0 k0) (own_x a40 ya0 yb0 k3) (own_x a40 ya1 yb1 k0) (own_x a40 ya1 yb1 k3)) (own_same1 (own_x a108 xA xB g1) (own_x a108 xA xB g2) (own_x a40 ya0 yb0 k1) (own_x a40 ya0 yb0 k2) (own_x a40 ya1 yb1 k1) (own_x a40 ya1 yb1 k2)) (own_same1 (own_x a108 xA xB g1) (own_x a108 xA xB g3) (own_x a40 ya0 yb0 k1) (own_x a40 ya0 yb0 k3) (own_x a40 ya1 yb1 k1) (own_x a40 ya1 yb1 k3)) (own_same1 (own_x a108 xA xB g2) (own_x a108 xA xB g3) (own_x a40 ya0 yb0 k2) (own_x a40 ya0 yb0 k3) (own_x a40 ya1 yb1 k2) (own_x a40 ya1 yb1 k3))).2 gl478 kl478 (own_G g0 g1 g2 g3) (own_G k0 k1 k2 k3) 0 XI478 (by decide) (by decide) ) (by decide) (W := 0) (by decide) rfl (by rw [hml]; rfl) own_pd_6 (argsL := [(.int (0 : Int32))]) rfl (S := []) rfl (Nat.le_of_eq rfl) (hb hby at_326) (pc' := 329) rfl (by decide) (by decide) (fun T499 v499 L499 X499 hQ499 => ?_)
                  obtain ⟨rfl, e499, rfl⟩ := hQ499
                  have N500 := Fr.app N479 (Fr.nil n0)
                  refine OwnK.aload X499 hx (hb hby at_329) (pc' := 331) rfl (v := (.ref a187)) rfl rfl ?_
                  refine OwnK.aload X499 hx (hb hby at_331) (pc' := 333) rfl (v := (.ref a199)) rfl rfl ?_
                  refine OwnK.iconst X499 hx (hb hby at_333) (pc' := 334) rfl (v := (0 : Int32)) (by decide) ?_
                  refine OwnK.callS_ X499 hx hZ hown (y := (⟨"com/example/entryway/entryway/KeyIndexFirstOfPinLaw", "ref", "([Ljava/lang/String;[Ljava/lang/String;I)I"⟩ : MethodName)) (hw _ (List.mem_of_getElem? (i := 136) rfl)) (hw _ (List.mem_of_getElem? (i := 137) rfl)) (hw _ (List.mem_of_getElem? (i := 138) rfl)) (hw _ (List.mem_of_getElem? (i := 139) rfl)) (by decide) (own_met24_0 l Z a0 hw T478.heap a187 a199 n0 T142.heap.size _ _ g0 g1 g2 g3 k0 k1 k2 k3 a108 a142 a40 a65 xA xB ya0 ya1 yb0 yb1 cs O498 U478 f484 f486 mg0 mg1 mg2 mg3 mk0 mk1 mk2 mk3 hcs SS ) (by decide) (W := 1) (by decide) e499 (by rw [hml]; rfl) own_pd_21 (argsL := [(.ref a187), (.ref a199), (.int (0 : Int32))]) rfl (S := [(.int (own_fst ((own_s4 (own_home (own_H1 (own_x a108 xA xB g0)) (own_H2 (own_x a40 ya0 yb0 k0) (own_x a40 ya1 yb1 k0))) (own_home (own_H1 (own_x a108 xA xB g1)) (own_H2 (own_x a40 ya0 yb0 k1) (own_x a40 ya1 yb1 k1))) (own_home (own_H1 (own_x a108 xA xB g2)) (own_H2 (own_x a40 ya0 yb0 k2) (own_x a40 ya1 yb1 k2))) (own_home (own_H1 (own_x a108 xA xB g3)) (own_H2 (own_x a40 ya0 yb0 k3) (own_x a40 ya1 yb1 k3))) (own_same1 (own_x a108 xA xB g0) (own_x a108 xA xB g1) (own_x a40 ya0 yb0 k0) (own_x a40 ya0 yb0 k1) (own_x a40 ya1 yb1 k0) (own_x a40 ya1 yb1 k1)) (own_same1 (own_x a108 xA xB g0) (own_x a108 xA xB g2) (own_x a40 ya0 yb0 k0) (own_x a40 ya0 yb0 k2) (own_x a40 ya1 yb1 k0) (own_x a40 ya1 yb1 k2)) (own_same1 (own_x a108 xA xB g0) (own_x a108 xA xB g3) (own_x a40 ya0 yb0 k0) (own_x a40 ya0 yb0 k3) (own_x a40 ya1 yb1 k0) (own_x a40 ya1 yb1 k3)) (own_same1 (own_x a108 xA xB g1) (own_x a108 xA xB g2) (own_x a40 ya0 yb0 k1) (own_x a40 ya0 yb0 k2) (own_x a40 ya1 yb1 k1) (own_x a40 ya1 yb1 k2)) (own_same1 (own_x a108 xA xB g1) (own_x a108 xA xB g3) (own_x a40 ya0 yb0 k1) (own_x a40 ya0 yb0 k3) (own_x a40 ya1 yb1 k1) (own_x a40 ya1 yb1 k3)) (own_same1 (own_x a108 xA xB g2) (own_x a108 xA xB g3) (own_x a40 ya0 yb0 k2) (own_x a40 ya0 yb0 k3) (own_x a40 ya1 yb1 k2) (own_x a40 ya1 yb1 k3))).2) 0))]) rfl (Nat.le_of_eq rfl) (hb hby at_334) (pc' := 337) rfl (by decide) (by decide) (fun T501 v501 L501 X501 hQ501 => ?_)
                  obtain ⟨rfl, e501, rfl⟩ := hQ501
                  have N502 := Fr.app N500 (Fr.nil n0)
                  refine OwnK.icmp_ne X501 hx (hb hby at_337) (by decide) (pcT := 395) (by decide) (pc' := 340) rfl (fun (hc337 : ¬ (own_fst ((own_s4 (own_home (own_H1 (own_x a108 xA xB g0)) (own_H2 (own_x a40 ya0 yb0 k0) (own_x a40 ya1 yb1 k0))) (own_home (own_H1 (own_x a108 xA xB g1)) (own_H2 (own_x a40 ya0 yb0 k1) (own_x a40 ya1 yb1 k1))) (own_home (own_H1 (own_x a108 xA xB g2)) (own_H2 (own_x a40 ya0 yb0 k2) (own_x a40 ya1 yb1 k2))) (own_home (own_H1 (own_x a108 xA xB g3)) (own_H2 (own_x a40 ya0 yb0 k3) (own_x a40 ya1 yb1 k3))) (own_same1 (own_x a108 xA xB g0) (own_x a108 xA xB g1) (own_x a40 ya0 yb0 k0) (own_x a40 ya0 yb0 k1) (own_x a40 ya1 yb1 k0) (own_x a40 ya1 yb1 k1)) (own_same1 (own_x a108 xA xB g0) (own_x a108 xA xB g2) (own_x a40 ya0 yb0 k0) (own_x a40 ya0 yb0 k2) (own_x a40 ya1 yb1 k0) (own_x a40 ya1 yb1 k2)) (own_same1 (own_x a108 xA xB g0) (own_x a108 xA xB g3) (own_x a40 ya0 yb0 k0) (own_x a40 ya0 yb0 k3) (own_x a40 ya1 yb1 k0) (own_x a40 ya1 yb1 k3)) (own_same1 (own_x a108 xA xB g1) (own_x a108 xA xB g2) (own_x a40 ya0 yb0 k1) (own_x a40 ya0 yb0 k2) (own_x a40 ya1 yb1 k1) (own_x a40 ya1 yb1 k2)) (own_same1 (own_x a108 xA xB g1) (own_x a108 xA xB g3) (own_x a40 ya0 yb0 k1) (own_x a40 ya0 yb0 k3) (own_x a40 ya1 yb1 k1) (own_x a40 ya1 yb1 k3)) (own_same1 (own_x a108 xA xB g2) (own_x a108 xA xB g3) (own_x a40 ya0 yb0 k2) (own_x a40 ya0 yb0 k3) (own_x a40 ya1 yb1 k2) (own_x a40 ya1 yb1 k3))).2) 0).toInt = (own_rf (own_same1 (own_x a108 xA xB g0) (own_x a108 xA xB g0) (own_x a40 ya0 yb0 k0) (own_x a40 ya0 yb0 k0) (own_x a40 ya1 yb1 k0) (own_x a40 ya1 yb1 k0)) false false).toInt) => absurd (congrArg Int32.toInt (show (own_fst ((own_s4 (own_home (own_H1 (own_x a108 xA xB g0)) (own_H2 (own_x a40 ya0 yb0 k0) (own_x a40 ya1 yb1 k0))) (own_home (own_H1 (own_x a108 xA xB g1)) (own_H2 (own_x a40 ya0 yb0 k1) (own_x a40 ya1 yb1 k1))) (own_home (own_H1 (own_x a108 xA xB g2)) (own_H2 (own_x a40 ya0 yb0 k2) (own_x a40 ya1 yb1 k2))) (own_home (own_H1 (own_x a108 xA xB g3)) (own_H2 (own_x a40 ya0 yb0 k3) (own_x a40 ya1 yb1 k3))) (own_same1 (own_x a108 xA xB g0) (own_x a108 xA xB g1) (own_x a40 ya0 yb0 k0) (own_x a40 ya0 yb0 k1) (own_x a40 ya1 yb1 k0) (own_x a40 ya1 yb1 k1)) (own_same1 (own_x a108 xA xB g0) (own_x a108 xA xB g2) (own_x a40 ya0 yb0 k0) (own_x a40 ya0 yb0 k2) (own_x a40 ya1 yb1 k0) (own_x a40 ya1 yb1 k2)) (own_same1 (own_x a108 xA xB g0) (own_x a108 xA xB g3) (own_x a40 ya0 yb0 k0) (own_x a40 ya0 yb0 k3) (own_x a40 ya1 yb1 k0) (own_x a40 ya1 yb1 k3)) (own_same1 (own_x a108 xA xB g1) (own_x a108 xA xB g2) (own_x a40 ya0 yb0 k1) (own_x a40 ya0 yb0 k2) (own_x a40 ya1 yb1 k1) (own_x a40 ya1 yb1 k2)) (own_same1 (own_x a108 xA xB g1) (own_x a108 xA xB g3) (own_x a40 ya0 yb0 k1) (own_x a40 ya0 yb0 k3) (own_x a40 ya1 yb1 k1) (own_x a40 ya1 yb1 k3)) (own_same1 (own_x a108 xA xB g2) (own_x a108 xA xB g3) (own_x a40 ya0 yb0 k2) (own_x a40 ya0 yb0 k3) (own_x a40 ya1 yb1 k2) (own_x a40 ya1 yb1 k3))).2) 0) = (own_rf (own_same1 (own_x a108 xA xB g0) (own_x a108 xA xB g0) (own_x a40 ya0 yb0 k0) (own_x a40 ya0 yb0 k0) (own_x a40 ya1 yb1 k0) (own_x a40 ya1 yb1 k0)) false false) by rw [own_selfs]; exact (own_fin kr).1)) hc337) (fun hc337 => ?_)
                  refine OwnK.aload X501 hx (hb hby at_340) (pc' := 342) rfl (v := (.ref a354)) rfl rfl ?_
                  refine OwnK.iconst X501 hx (hb hby at_342) (pc' := 343) rfl (v := (1 : Int32)) (by decide) ?_
                  refine OwnK.callV_ X501 hx hZ hown (y := (⟨"com/example/entryway/entryway/KeyIndex", "firstOf", "(I)I"⟩ : MethodName)) (z := (⟨"com/example/entryway/entryway/KeyIndex", "firstOf", "(I)I"⟩ : MethodName)) (a := a354) (hw _ (List.mem_of_getElem? (i := 131) rfl)) (hw _ (List.mem_of_getElem? (i := 132) rfl)) (notFace_of_selects (args := #[]) (mvT hZ (hw _ (List.mem_of_getElem? (i := 134) rfl)))) (hw _ (List.mem_of_getElem? (i := 134) rfl)) (hw _ (List.mem_of_getElem? (i := 133) rfl)) (hw _ (List.mem_of_getElem? (i := 135) rfl)) (hw _ (List.mem_of_getElem? (i := 47) rfl)) (by decide) f496 (own_met23 l Z a0 hw T478.heap a354 (1 : Int32) h334.size as394 ag394 ak394 rb478 kS394 kG394 kK394 rw478 (Int32.ofNat 4) 4 (own_s4 (own_home (own_H1 (own_x a108 xA xB g0)) (own_H2 (own_x a40 ya0 yb0 k0) (own_x a40 ya1 yb1 k0))) (own_home (own_H1 (own_x a108 xA xB g1)) (own_H2 (own_x a40 ya0 yb0 k1) (own_x a40 ya1 yb1 k1))) (own_home (own_H1 (own_x a108 xA xB g2)) (own_H2 (own_x a40 ya0 yb0 k2) (own_x a40 ya1 yb1 k2))) (own_home (own_H1 (own_x a108 xA xB g3)) (own_H2 (own_x a40 ya0 yb0 k3) (own_x a40 ya1 yb1 k3))) (own_same1 (own_x a108 xA xB g0) (own_x a108 xA xB g1) (own_x a40 ya0 yb0 k0) (own_x a40 ya0 yb0 k1) (own_x a40 ya1 yb1 k0) (own_x a40 ya1 yb1 k1)) (own_same1 (own_x a108 xA xB g0) (own_x a108 xA xB g2) (own_x a40 ya0 yb0 k0) (own_x a40 ya0 yb0 k2) (own_x a40 ya1 yb1 k0) (own_x a40 ya1 yb1 k2)) (own_same1 (own_x a108 xA xB g0) (own_x a108 xA xB g3) (own_x a40 ya0 yb0 k0) (own_x a40 ya0 yb0 k3) (own_x a40 ya1 yb1 k0) (own_x a40 ya1 yb1 k3)) (own_same1 (own_x a108 xA xB g1) (own_x a108 xA xB g2) (own_x a40 ya0 yb0 k1) (own_x a40 ya0 yb0 k2) (own_x a40 ya1 yb1 k1) (own_x a40 ya1 yb1 k2)) (own_same1 (own_x a108 xA xB g1) (own_x a108 xA xB g3) (own_x a40 ya0 yb0 k1) (own_x a40 ya0 yb0 k3) (own_x a40 ya1 yb1 k1) (own_x a40 ya1 yb1 k3)) (own_same1 (own_x a108 xA xB g2) (own_x a108 xA xB g3) (own_x a40 ya0 yb0 k2) (own_x a40 ya0 yb0 k3) (own_x a40 ya1 yb1 k2) (own_x a40 ya1 yb1 k3))).1 (own_s4 (own_home (own_H1 (own_x a108 xA xB g0)) (own_H2 (own_x a40 ya0 yb0 k0) (own_x a40 ya1 yb1 k0))) (own_home (own_H1 (own_x a108 xA xB g1)) (own_H2 (own_x a40 ya0 yb0 k1) (own_x a40 ya1 yb1 k1))) (own_home (own_H1 (own_x a108 xA xB g2)) (own_H2 (own_x a40 ya0 yb0 k2) (own_x a40 ya1 yb1 k2))) (own_home (own_H1 (own_x a108 xA xB g3)) (own_H2 (own_x a40 ya0 yb0 k3) (own_x a40 ya1 yb1 k3))) (own_same1 (own_x a108 xA xB g0) (own_x a108 xA xB g1) (own_x a40 ya0 yb0 k0) (own_x a40 ya0 yb0 k1) (own_x a40 ya1 yb1 k0) (own_x a40 ya1 yb1 k1)) (own_same1 (own_x a108 xA xB g0) (own_x a108 xA xB g2) (own_x a40 ya0 yb0 k0) (own_x a40 ya0 yb0 k2) (own_x a40 ya1 yb1 k0) (own_x a40 ya1 yb1 k2)) (own_same1 (own_x a108 xA xB g0) (own_x a108 xA xB g3) (own_x a40 ya0 yb0 k0) (own_x a40 ya0 yb0 k3) (own_x a40 ya1 yb1 k0) (own_x a40 ya1 yb1 k3)) (own_same1 (own_x a108 xA xB g1) (own_x a108 xA xB g2) (own_x a40 ya0 yb0 k1) (own_x a40 ya0 yb0 k2) (own_x a40 ya1 yb1 k1) (own_x a40 ya1 yb1 k2)) (own_same1 (own_x a108 xA xB g1) (own_x a108 xA xB g3) (own_x a40 ya0 yb0 k1) (own_x a40 ya0 yb0 k3) (own_x a40 ya1 yb1 k1) (own_x a40 ya1 yb1 k3)) (own_same1 (own_x a108 xA xB g2) (own_x a108 xA xB g3) (own_x a40 ya0 yb0 k2) (own_x a40 ya0 yb0 k3) (own_x a40 ya1 yb1 k2) (own_x a40 ya1 yb1 k3))).2 gl478 kl478 (own_G g0 g1 g2 g3) (own_G k0 k1 k2 k3) 1 XI478 (by decide) (by decide) ) (by decide) (W := 0) (by decide) e501 (by rw [hml]; rfl) own_pd_6 (argsL := [(.int (1 : Int32))]) rfl (S := []) rfl (Nat.le_of_eq rfl) (hb hby at_343) (pc' := 346) rfl (by decide) (by decide) (fun T503 v503 L503 X503 hQ503 => ?_)
                  obtain ⟨rfl, e503, rfl⟩ := hQ503
                  have N504 := Fr.app N502 (Fr.nil n0)
                  refine OwnK.aload X503 hx (hb hby at_346) (pc' := 348) rfl (v := (.ref a187)) rfl rfl ?_
                  refine OwnK.aload X503 hx (hb hby at_348) (pc' := 350) rfl (v := (.ref a199)) rfl rfl ?_
                  refine OwnK.iconst X503 hx (hb hby at_350) (pc' := 351) rfl (v := (1 : Int32)) (by decide) ?_
                  refine OwnK.callS_ X503 hx hZ hown (y := (⟨"com/example/entryway/entryway/KeyIndexFirstOfPinLaw", "ref", "([Ljava/lang/String;[Ljava/lang/String;I)I"⟩ : MethodName)) (hw _ (List.mem_of_getElem? (i := 136) rfl)) (hw _ (List.mem_of_getElem? (i := 137) rfl)) (hw _ (List.mem_of_getElem? (i := 138) rfl)) (hw _ (List.mem_of_getElem? (i := 139) rfl)) (by decide) (own_met24_1 l Z a0 hw T478.heap a187 a199 n0 T142.heap.size _ _ g0 g1 g2 g3 k0 k1 k2 k3 a108 a142 a40 a65 xA xB ya0 ya1 yb0 yb1 cs O498 U478 f484 f486 mg0 mg1 mg2 mg3 mk0 mk1 mk2 mk3 hcs SS ) (by decide) (W := 1) (by decide) e503 (by rw [hml]; rfl) own_pd_21 (argsL := [(.ref a187), (.ref a199), (.int (1 : Int32))]) rfl (S := [(.int (own_fst ((own_s4 (own_home (own_H1 (own_x a108 xA xB g0)) (own_H2 (own_x a40 ya0 yb0 k0) (own_x a40 ya1 yb1 k0))) (own_home (own_H1 (own_x a108 xA xB g1)) (own_H2 (own_x a40 ya0 yb0 k1) (own_x a40 ya1 yb1 k1))) (own_home (own_H1 (own_x a108 xA xB g2)) (own_H2 (own_x a40 ya0 yb0 k2) (own_x a40 ya1 yb1 k2))) (own_home (own_H1 (own_x a108 xA xB g3)) (own_H2 (own_x a40 ya0 yb0 k3) (own_x a40 ya1 yb1 k3))) (own_same1 (own_x a108 xA xB g0) (own_x a108 xA xB g1) (own_x a40 ya0 yb0 k0) (own_x a40 ya0 yb0 k1) (own_x a40 ya1 yb1 k0) (own_x a40 ya1 yb1 k1)) (own_same1 (own_x a108 xA xB g0) (own_x a108 xA xB g2) (own_x a40 ya0 yb0 k0) (own_x a40 ya0 yb0 k2) (own_x a40 ya1 yb1 k0) (own_x a40 ya1 yb1 k2)) (own_same1 (own_x a108 xA xB g0) (own_x a108 xA xB g3) (own_x a40 ya0 yb0 k0) (own_x a40 ya0 yb0 k3) (own_x a40 ya1 yb1 k0) (own_x a40 ya1 yb1 k3)) (own_same1 (own_x a108 xA xB g1) (own_x a108 xA xB g2) (own_x a40 ya0 yb0 k1) (own_x a40 ya0 yb0 k2) (own_x a40 ya1 yb1 k1) (own_x a40 ya1 yb1 k2)) (own_same1 (own_x a108 xA xB g1) (own_x a108 xA xB g3) (own_x a40 ya0 yb0 k1) (own_x a40 ya0 yb0 k3) (own_x a40 ya1 yb1 k1) (own_x a40 ya1 yb1 k3)) (own_same1 (own_x a108 xA xB g2) (own_x a108 xA xB g3) (own_x a40 ya0 yb0 k2) (own_x a40 ya0 yb0 k3) (own_x a40 ya1 yb1 k2) (own_x a40 ya1 yb1 k3))).2) 1))]) rfl (Nat.le_of_eq rfl) (hb hby at_351) (pc' := 354) rfl (by decide) (by decide) (fun T505 v505 L505 X505 hQ505 => ?_)
                  obtain ⟨rfl, e505, rfl⟩ := hQ505
                  have N506 := Fr.app N504 (Fr.nil n0)
                  refine OwnK.icmp_ne X505 hx (hb hby at_354) (by decide) (pcT := 395) (by decide) (pc' := 357) rfl (fun (hc354 : ¬ (own_fst ((own_s4 (own_home (own_H1 (own_x a108 xA xB g0)) (own_H2 (own_x a40 ya0 yb0 k0) (own_x a40 ya1 yb1 k0))) (own_home (own_H1 (own_x a108 xA xB g1)) (own_H2 (own_x a40 ya0 yb0 k1) (own_x a40 ya1 yb1 k1))) (own_home (own_H1 (own_x a108 xA xB g2)) (own_H2 (own_x a40 ya0 yb0 k2) (own_x a40 ya1 yb1 k2))) (own_home (own_H1 (own_x a108 xA xB g3)) (own_H2 (own_x a40 ya0 yb0 k3) (own_x a40 ya1 yb1 k3))) (own_same1 (own_x a108 xA xB g0) (own_x a108 xA xB g1) (own_x a40 ya0 yb0 k0) (own_x a40 ya0 yb0 k1) (own_x a40 ya1 yb1 k0) (own_x a40 ya1 yb1 k1)) (own_same1 (own_x a108 xA xB g0) (own_x a108 xA xB g2) (own_x a40 ya0 yb0 k0) (own_x a40 ya0 yb0 k2) (own_x a40 ya1 yb1 k0) (own_x a40 ya1 yb1 k2)) (own_same1 (own_x a108 xA xB g0) (own_x a108 xA xB g3) (own_x a40 ya0 yb0 k0) (own_x a40 ya0 yb0 k3) (own_x a40 ya1 yb1 k0) (own_x a40 ya1 yb1 k3)) (own_same1 (own_x a108 xA xB g1) (own_x a108 xA xB g2) (own_x a40 ya0 yb0 k1) (own_x a40 ya0 yb0 k2) (own_x a40 ya1 yb1 k1) (own_x a40 ya1 yb1 k2)) (own_same1 (own_x a108 xA xB g1) (own_x a108 xA xB g3) (own_x a40 ya0 yb0 k1) (own_x a40 ya0 yb0 k3) (own_x a40 ya1 yb1 k1) (own_x a40 ya1 yb1 k3)) (own_same1 (own_x a108 xA xB g2) (own_x a108 xA xB g3) (own_x a40 ya0 yb0 k2) (own_x a40 ya0 yb0 k3) (own_x a40 ya1 yb1 k2) (own_x a40 ya1 yb1 k3))).2) 1).toInt = (own_rf (own_same1 (own_x a108 xA xB g0) (own_x a108 xA xB g1) (own_x a40 ya0 yb0 k0) (own_x a40 ya0 yb0 k1) (own_x a40 ya1 yb1 k0) (own_x a40 ya1 yb1 k1)) (own_same1 (own_x a108 xA xB g1) (own_x a108 xA xB g1) (own_x a40 ya0 yb0 k1) (own_x a40 ya0 yb0 k1) (own_x a40 ya1 yb1 k1) (own_x a40 ya1 yb1 k1)) false).toInt) => absurd (congrArg Int32.toInt (show (own_fst ((own_s4 (own_home (own_H1 (own_x a108 xA xB g0)) (own_H2 (own_x a40 ya0 yb0 k0) (own_x a40 ya1 yb1 k0))) (own_home (own_H1 (own_x a108 xA xB g1)) (own_H2 (own_x a40 ya0 yb0 k1) (own_x a40 ya1 yb1 k1))) (own_home (own_H1 (own_x a108 xA xB g2)) (own_H2 (own_x a40 ya0 yb0 k2) (own_x a40 ya1 yb1 k2))) (own_home (own_H1 (own_x a108 xA xB g3)) (own_H2 (own_x a40 ya0 yb0 k3) (own_x a40 ya1 yb1 k3))) (own_same1 (own_x a108 xA xB g0) (own_x a108 xA xB g1) (own_x a40 ya0 yb0 k0) (own_x a40 ya0 yb0 k1) (own_x a40 ya1 yb1 k0) (own_x a40 ya1 yb1 k1)) (own_same1 (own_x a108 xA xB g0) (own_x a108 xA xB g2) (own_x a40 ya0 yb0 k0) (own_x a40 ya0 yb0 k2) (own_x a40 ya1 yb1 k0) (own_x a40 ya1 yb1 k2)) (own_same1 (own_x a108 xA xB g0) (own_x a108 xA xB g3) (own_x a40 ya0 yb0 k0) (own_x a40 ya0 yb0 k3) (own_x a40 ya1 yb1 k0) (own_x a40 ya1 yb1 k3)) (own_same1 (own_x a108 xA xB g1) (own_x a108 xA xB g2) (own_x a40 ya0 yb0 k1) (own_x a40 ya0 yb0 k2) (own_x a40 ya1 yb1 k1) (own_x a40 ya1 yb1 k2)) (own_same1 (own_x a108 xA xB g1) (own_x a108 xA xB g3) (own_x a40 ya0 yb0 k1) (own_x a40 ya0 yb0 k3) (own_x a40 ya1 yb1 k1) (own_x a40 ya1 yb1 k3)) (own_same1 (own_x a108 xA xB g2) (own_x a108 xA xB g3) (own_x a40 ya0 yb0 k2) (own_x a40 ya0 yb0 k3) (own_x a40 ya1 yb1 k2) (own_x a40 ya1 yb1 k3))).2) 1) = (own_rf (own_same1 (own_x a108 xA xB g0) (own_x a108 xA xB g1) (own_x a40 ya0 yb0 k0) (own_x a40 ya0 yb0 k1) (own_x a40 ya1 yb1 k0) (own_x a40 ya1 yb1 k1)) (own_same1 (own_x a108 xA xB g1) (own_x a108 xA xB g1) (own_x a40 ya0 yb0 k1) (own_x a40 ya0 yb0 k1) (own_x a40 ya1 yb1 k1) (own_x a40 ya1 yb1 k1)) false) by rw [own_selfs]; exact (own_fin kr).2.1)) hc354) (fun hc354 => ?_)
                  refine OwnK.aload X505 hx (hb hby at_357) (pc' := 359) rfl (v := (.ref a354)) rfl rfl ?_
                  refine OwnK.iconst X505 hx (hb hby at_359) (pc' := 360) rfl (v := (2 : Int32)) (by decide) ?_
                  refine OwnK.callV_ X505 hx hZ hown (y := (⟨"com/example/entryway/entryway/KeyIndex", "firstOf", "(I)I"⟩ : MethodName)) (z := (⟨"com/example/entryway/entryway/KeyIndex", "firstOf", "(I)I"⟩ : MethodName)) (a := a354) (hw _ (List.mem_of_getElem? (i := 131) rfl)) (hw _ (List.mem_of_getElem? (i := 132) rfl)) (notFace_of_selects (args := #[]) (mvT hZ (hw _ (List.mem_of_getElem? (i := 134) rfl)))) (hw _ (List.mem_of_getElem? (i := 134) rfl)) (hw _ (List.mem_of_getElem? (i := 133) rfl)) (hw _ (List.mem_of_getElem? (i := 135) rfl)) (hw _ (List.mem_of_getElem? (i := 47) rfl)) (by decide) f496 (own_met23 l Z a0 hw T478.heap a354 (2 : Int32) h334.size as394 ag394 ak394 rb478 kS394 kG394 kK394 rw478 (Int32.ofNat 4) 4 (own_s4 (own_home (own_H1 (own_x a108 xA xB g0)) (own_H2 (own_x a40 ya0 yb0 k0) (own_x a40 ya1 yb1 k0))) (own_home (own_H1 (own_x a108 xA xB g1)) (own_H2 (own_x a40 ya0 yb0 k1) (own_x a40 ya1 yb1 k1))) (own_home (own_H1 (own_x a108 xA xB g2)) (own_H2 (own_x a40 ya0 yb0 k2) (own_x a40 ya1 yb1 k2))) (own_home (own_H1 (own_x a108 xA xB g3)) (own_H2 (own_x a40 ya0 yb0 k3) (own_x a40 ya1 yb1 k3))) (own_same1 (own_x a108 xA xB g0) (own_x a108 xA xB g1) (own_x a40 ya0 yb0 k0) (own_x a40 ya0 yb0 k1) (own_x a40 ya1 yb1 k0) (own_x a40 ya1 yb1 k1)) (own_same1 (own_x a108 xA xB g0) (own_x a108 xA xB g2) (own_x a40 ya0 yb0 k0) (own_x a40 ya0 yb0 k2) (own_x a40 ya1 yb1 k0) (own_x a40 ya1 yb1 k2)) (own_same1 (own_x a108 xA xB g0) (own_x a108 xA xB g3) (own_x a40 ya0 yb0 k0) (own_x a40 ya0 yb0 k3) (own_x a40 ya1 yb1 k0) (own_x a40 ya1 yb1 k3)) (own_same1 (own_x a108 xA xB g1) (own_x a108 xA xB g2) (own_x a40 ya0 yb0 k1) (own_x a40 ya0 yb0 k2) (own_x a40 ya1 yb1 k1) (own_x a40 ya1 yb1 k2)) (own_same1 (own_x a108 xA xB g1) (own_x a108 xA xB g3) (own_x a40 ya0 yb0 k1) (own_x a40 ya0 yb0 k3) (own_x a40 ya1 yb1 k1) (own_x a40 ya1 yb1 k3)) (own_same1 (own_x a108 xA xB g2) (own_x a108 xA xB g3) (own_x a40 ya0 yb0 k2) (own_x a40 ya0 yb0 k3) (own_x a40 ya1 yb1 k2) (own_x a40 ya1 yb1 k3))).1 (own_s4 (own_home (own_H1 (own_x a108 xA xB g0)) (own_H2 (own_x a40 ya0 yb0 k0) (own_x a40 ya1 yb1 k0))) (own_home (own_H1 (own_x a108 xA xB g1)) (own_H2 (own_x a40 ya0 yb0 k1) (own_x a40 ya1 yb1 k1))) (own_home (own_H1 (own_x a108 xA xB g2)) (own_H2 (own_x a40 ya0 yb0 k2) (own_x a40 ya1 yb1 k2))) (own_home (own_H1 (own_x a108 xA xB g3)) (own_H2 (own_x a40 ya0 yb0 k3) (own_x a40 ya1 yb1 k3))) (own_same1 (own_x a108 xA xB g0) (own_x a108 xA xB g1) (own_x a40 ya0 yb0 k0) (own_x a40 ya0 yb0 k1) (own_x a40 ya1 yb1 k0) (own_x a40 ya1 yb1 k1)) (own_same1 (own_x a108 xA xB g0) (own_x a108 xA xB g2) (own_x a40 ya0 yb0 k0) (own_x a40 ya0 yb0 k2) (own_x a40 ya1 yb1 k0) (own_x a40 ya1 yb1 k2)) (own_same1 (own_x a108 xA xB g0) (own_x a108 xA xB g3) (own_x a40 ya0 yb0 k0) (own_x a40 ya0 yb0 k3) (own_x a40 ya1 yb1 k0) (own_x a40 ya1 yb1 k3)) (own_same1 (own_x a108 xA xB g1) (own_x a108 xA xB g2) (own_x a40 ya0 yb0 k1) (own_x a40 ya0 yb0 k2) (own_x a40 ya1 yb1 k1) (own_x a40 ya1 yb1 k2)) (own_same1 (own_x a108 xA xB g1) (own_x a108 xA xB g3) (own_x a40 ya0 yb0 k1) (own_x a40 ya0 yb0 k3) (own_x a40 ya1 yb1 k1) (own_x a40 ya1 yb1 k3)) (own_same1 (own_x a108 xA xB g2) (own_x a108 xA xB g3) (own_x a40 ya0 yb0 k2) (own_x a40 ya0 yb0 k3) (own_x a40 ya1 yb1 k2) (own_x a40 ya1 yb1 k3))).2 gl478 kl478 (own_G g0 g1 g2 g3) (own_G k0 k1 k2 k3) 2 XI478 (by decide) (by decide) ) (by decide) (W := 0) (by decide) e505 (by rw [hml]; rfl) own_pd_6 (argsL := [(.int (2 : Int32))]) rfl (S := []) rfl (Nat.le_of_eq rfl) (hb hby at_360) (pc' := 363) rfl (by decide) (by decide) (fun T507 v507 L507 X507 hQ507 => ?_)
                  obtain ⟨rfl, e507, rfl⟩ := hQ507
                  have N508 := Fr.app N506 (Fr.nil n0)
                  refine OwnK.aload X507 hx (hb hby at_363) (pc' := 365) rfl (v := (.ref a187)) rfl rfl ?_
                  refine OwnK.aload X507 hx (hb hby at_365) (pc' := 367) rfl (v := (.ref a199)) rfl rfl ?_
                  refine OwnK.iconst X507 hx (hb hby at_367) (pc' := 368) rfl (v := (2 : Int32)) (by decide) ?_
                  refine OwnK.callS_ X507 hx hZ hown (y := (⟨"com/example/entryway/entryway/KeyIndexFirstOfPinLaw", "ref", "([Ljava/lang/String;[Ljava/lang/String;I)I"⟩ : MethodName)) (hw _ (List.mem_of_getElem? (i := 136) rfl)) (hw _ (List.mem_of_getElem? (i := 137) rfl)) (hw _ (List.mem_of_getElem? (i := 138) rfl)) (hw _ (List.mem_of_getElem? (i := 139) rfl)) (by decide) (own_met24_2 l Z a0 hw T478.heap a187 a199 n0 T142.heap.size _ _ g0 g1 g2 g3 k0 k1 k2 k3 a108 a142 a40 a65 xA xB ya0 ya1 yb0 yb1 cs O498 U478 f484 f486 mg0 mg1 mg2 mg3 mk0 mk1 mk2 mk3 hcs SS ) (by decide) (W := 1) (by decide) e507 (by rw [hml]; rfl) own_pd_21 (argsL := [(.ref a187), (.ref a199), (.int (2 : Int32))]) rfl (S := [(.int (own_fst ((own_s4 (own_home (own_H1 (own_x a108 xA xB g0)) (own_H2 (own_x a40 ya0 yb0 k0) (own_x a40 ya1 yb1 k0))) (own_home (own_H1 (own_x a108 xA xB g1)) (own_H2 (own_x a40 ya0 yb0 k1) (own_x a40 ya1 yb1 k1))) (own_home (own_H1 (own_x a108 xA xB g2)) (own_H2 (own_x a40 ya0 yb0 k2) (own_x a40 ya1 yb1 k2))) (own_home (own_H1 (own_x a108 xA xB g3)) (own_H2 (own_x a40 ya0 yb0 k3) (own_x a40 ya1 yb1 k3))) (own_same1 (own_x a108 xA xB g0) (own_x a108 xA xB g1) (own_x a40 ya0 yb0 k0) (own_x a40 ya0 yb0 k1) (own_x a40 ya1 yb1 k0) (own_x a40 ya1 yb1 k1)) (own_same1 (own_x a108 xA xB g0) (own_x a108 xA xB g2) (own_x a40 ya0 yb0 k0) (own_x a40 ya0 yb0 k2) (own_x a40 ya1 yb1 k0) (own_x a40 ya1 yb1 k2)) (own_same1 (own_x a108 xA xB g0) (own_x a108 xA xB g3) (own_x a40 ya0 yb0 k0) (own_x a40 ya0 yb0 k3) (own_x a40 ya1 yb1 k0) (own_x a40 ya1 yb1 k3)) (own_same1 (own_x a108 xA xB g1) (own_x a108 xA xB g2) (own_x a40 ya0 yb0 k1) (own_x a40 ya0 yb0 k2) (own_x a40 ya1 yb1 k1) (own_x a40 ya1 yb1 k2)) (own_same1 (own_x a108 xA xB g1) (own_x a108 xA xB g3) (own_x a40 ya0 yb0 k1) (own_x a40 ya0 yb0 k3) (own_x a40 ya1 yb1 k1) (own_x a40 ya1 yb1 k3)) (own_same1 (own_x a108 xA xB g2) (own_x a108 xA xB g3) (own_x a40 ya0 yb0 k2) (own_x a40 ya0 yb0 k3) (own_x a40 ya1 yb1 k2) (own_x a40 ya1 yb1 k3))).2) 2))]) rfl (Nat.le_of_eq rfl) (hb hby at_368) (pc' := 371) rfl (by decide) (by decide) (fun T509 v509 L509 X509 hQ509 => ?_)
                  obtain ⟨rfl, e509, rfl⟩ := hQ509
                  have N510 := Fr.app N508 (Fr.nil n0)
                  refine OwnK.icmp_ne X509 hx (hb hby at_371) (by decide) (pcT := 395) (by decide) (pc' := 374) rfl (fun (hc371 : ¬ (own_fst ((own_s4 (own_home (own_H1 (own_x a108 xA xB g0)) (own_H2 (own_x a40 ya0 yb0 k0) (own_x a40 ya1 yb1 k0))) (own_home (own_H1 (own_x a108 xA xB g1)) (own_H2 (own_x a40 ya0 yb0 k1) (own_x a40 ya1 yb1 k1))) (own_home (own_H1 (own_x a108 xA xB g2)) (own_H2 (own_x a40 ya0 yb0 k2) (own_x a40 ya1 yb1 k2))) (own_home (own_H1 (own_x a108 xA xB g3)) (own_H2 (own_x a40 ya0 yb0 k3) (own_x a40 ya1 yb1 k3))) (own_same1 (own_x a108 xA xB g0) (own_x a108 xA xB g1) (own_x a40 ya0 yb0 k0) (own_x a40 ya0 yb0 k1) (own_x a40 ya1 yb1 k0) (own_x a40 ya1 yb1 k1)) (own_same1 (own_x a108 xA xB g0) (own_x a108 xA xB g2) (own_x a40 ya0 yb0 k0) (own_x a40 ya0 yb0 k2) (own_x a40 ya1 yb1 k0) (own_x a40 ya1 yb1 k2)) (own_same1 (own_x a108 xA xB g0) (own_x a108 xA xB g3) (own_x a40 ya0 yb0 k0) (own_x a40 ya0 yb0 k3) (own_x a40 ya1 yb1 k0) (own_x a40 ya1 yb1 k3)) (own_same1 (own_x a108 xA xB g1) (own_x a108 xA xB g2) (own_x a40 ya0 yb0 k1) (own_x a40 ya0 yb0 k2) (own_x a40 ya1 yb1 k1) (own_x a40 ya1 yb1 k2)) (own_same1 (own_x a108 xA xB g1) (own_x a108 xA xB g3) (own_x a40 ya0 yb0 k1) (own_x a40 ya0 yb0 k3) (own_x a40 ya1 yb1 k1) (own_x a40 ya1 yb1 k3)) (own_same1 (own_x a108 xA xB g2) (own_x a108 xA xB g3) (own_x a40 ya0 yb0 k2) (own_x a40 ya0 yb0 k3) (own_x a40 ya1 yb1 k2) (own_x a40 ya1 yb1 k3))).2) 2).toInt = (own_rf (own_same1 (own_x a108 xA xB g0) (own_x a108 xA xB g2) (own_x a40 ya0 yb0 k0) (own_x a40 ya0 yb0 k2) (own_x a40 ya1 yb1 k0) (own_x a40 ya1 yb1 k2)) (own_same1 (own_x a108 xA xB g1) (own_x a108 xA xB g2) (own_x a40 ya0 yb0 k1) (own_x a40 ya0 yb0 k2) (own_x a40 ya1 yb1 k1) (own_x a40 ya1 yb1 k2)) (own_same1 (own_x a108 xA xB g2) (own_x a108 xA xB g2) (own_x a40 ya0 yb0 k2) (own_x a40 ya0 yb0 k2) (own_x a40 ya1 yb1 k2) (own_x a40 ya1 yb1 k2))).toInt) => absurd (congrArg Int32.toInt (show (own_fst ((own_s4 (own_home (own_H1 (own_x a108 xA xB g0)) (own_H2 (own_x a40 ya0 yb0 k0) (own_x a40 ya1 yb1 k0))) (own_home (own_H1 (own_x a108 xA xB g1)) (own_H2 (own_x a40 ya0 yb0 k1) (own_x a40 ya1 yb1 k1))) (own_home (own_H1 (own_x a108 xA xB g2)) (own_H2 (own_x a40 ya0 yb0 k2) (own_x a40 ya1 yb1 k2))) (own_home (own_H1 (own_x a108 xA xB g3)) (own_H2 (own_x a40 ya0 yb0 k3) (own_x a40 ya1 yb1 k3))) (own_same1 (own_x a108 xA xB g0) (own_x a108 xA xB g1) (own_x a40 ya0 yb0 k0) (own_x a40 ya0 yb0 k1) (own_x a40 ya1 yb1 k0) (own_x a40 ya1 yb1 k1)) (own_same1 (own_x a108 xA xB g0) (own_x a108 xA xB g2) (own_x a40 ya0 yb0 k0) (own_x a40 ya0 yb0 k2) (own_x a40 ya1 yb1 k0) (own_x a40 ya1 yb1 k2)) (own_same1 (own_x a108 xA xB g0) (own_x a108 xA xB g3) (own_x a40 ya0 yb0 k0) (own_x a40 ya0 yb0 k3) (own_x a40 ya1 yb1 k0) (own_x a40 ya1 yb1 k3)) (own_same1 (own_x a108 xA xB g1) (own_x a108 xA xB g2) (own_x a40 ya0 yb0 k1) (own_x a40 ya0 yb0 k2) (own_x a40 ya1 yb1 k1) (own_x a40 ya1 yb1 k2)) (own_same1 (own_x a108 xA xB g1) (own_x a108 xA xB g3) (own_x a40 ya0 yb0 k1) (own_x a40 ya0 yb0 k3) (own_x a40 ya1 yb1 k1) (own_x a40 ya1 yb1 k3)) (own_same1 (own_x a108 xA xB g2) (own_x a108 xA xB g3) (own_x a40 ya0 yb0 k2) (own_x a40 ya0 yb0 k3) (own_x a40 ya1 yb1 k2) (own_x a40 ya1 yb1 k3))).2) 2) = (own_rf (own_same1 (own_x a108 xA xB g0) (own_x a108 xA xB g2) (own_x a40 ya0 yb0 k0) (own_x a40 ya0 yb0 k2) (own_x a40 ya1 yb1 k0) (own_x a40 ya1 yb1 k2)) (own_same1 (own_x a108 xA xB g1) (own_x a108 xA xB g2) (own_x a40 ya0 yb0 k1) (own_x a40 ya0 yb0 k2) (own_x a40 ya1 yb1 k1) (own_x a40 ya1 yb1 k2)) (own_same1 (own_x a108 xA xB g2) (own_x a108 xA xB g2) (own_x a40 ya0 yb0 k2) (own_x a40 ya0 yb0 k2) (own_x a40 ya1 yb1 k2) (own_x a40 ya1 yb1 k2))) by rw [own_selfs]; exact (own_fin kr).2.2.1)) hc371) (fun hc371 => ?_)
                  refine OwnK.aload X509 hx (hb hby at_374) (pc' := 376) rfl (v := (.ref a354)) rfl rfl ?_
                  refine OwnK.iconst X509 hx (hb hby at_376) (pc' := 377) rfl (v := (3 : Int32)) (by decide) ?_
                  refine OwnK.callV_ X509 hx hZ hown (y := (⟨"com/example/entryway/entryway/KeyIndex", "firstOf", "(I)I"⟩ : MethodName)) (z := (⟨"com/example/entryway/entryway/KeyIndex", "firstOf", "(I)I"⟩ : MethodName)) (a := a354) (hw _ (List.mem_of_getElem? (i := 131) rfl)) (hw _ (List.mem_of_getElem? (i := 132) rfl)) (notFace_of_selects (args := #[]) (mvT hZ (hw _ (List.mem_of_getElem? (i := 134) rfl)))) (hw _ (List.mem_of_getElem? (i := 134) rfl)) (hw _ (List.mem_of_getElem? (i := 133) rfl)) (hw _ (List.mem_of_getElem? (i := 135) rfl)) (hw _ (List.mem_of_getElem? (i := 47) rfl)) (by decide) f496 (own_met23 l Z a0 hw T478.heap a354 (3 : Int32) h334.size as394 ag394 ak394 rb478 kS394 kG394 kK394 rw478 (Int32.ofNat 4) 4 (own_s4 (own_home (own_H1 (own_x a108 xA xB g0)) (own_H2 (own_x a40 ya0 yb0 k0) (own_x a40 ya1 yb1 k0))) (own_home (own_H1 (own_x a108 xA xB g1)) (own_H2 (own_x a40 ya0 yb0 k1) (own_x a40 ya1 yb1 k1))) (own_home (own_H1 (own_x a108 xA xB g2)) (own_H2 (own_x a40 ya0 yb0 k2) (own_x a40 ya1 yb1 k2))) (own_home (own_H1 (own_x a108 xA xB g3)) (own_H2 (own_x a40 ya0 yb0 k3) (own_x a40 ya1 yb1 k3))) (own_same1 (own_x a108 xA xB g0) (own_x a108 xA xB g1) (own_x a40 ya0 yb0 k0) (own_x a40 ya0 yb0 k1) (own_x a40 ya1 yb1 k0) (own_x a40 ya1 yb1 k1)) (own_same1 (own_x a108 xA xB g0) (own_x a108 xA xB g2) (own_x a40 ya0 yb0 k0) (own_x a40 ya0 yb0 k2) (own_x a40 ya1 yb1 k0) (own_x a40 ya1 yb1 k2)) (own_same1 (own_x a108 xA xB g0) (own_x a108 xA xB g3) (own_x a40 ya0 yb0 k0) (own_x a40 ya0 yb0 k3) (own_x a40 ya1 yb1 k0) (own_x a40 ya1 yb1 k3)) (own_same1 (own_x a108 xA xB g1) (own_x a108 xA xB g2) (own_x a40 ya0 yb0 k1) (own_x a40 ya0 yb0 k2) (own_x a40 ya1 yb1 k1) (own_x a40 ya1 yb1 k2)) (own_same1 (own_x a108 xA xB g1) (own_x a108 xA xB g3) (own_x a40 ya0 yb0 k1) (own_x a40 ya0 yb0 k3) (own_x a40 ya1 yb1 k1) (own_x a40 ya1 yb1 k3)) (own_same1 (own_x a108 xA xB g2) (own_x a108 xA xB g3) (own_x a40 ya0 yb0 k2) (own_x a40 ya0 yb0 k3) (own_x a40 ya1 yb1 k2) (own_x a40 ya1 yb1 k3))).1 (own_s4 (own_home (own_H1 (own_x a108 xA xB g0)) (own_H2 (own_x a40 ya0 yb0 k0) (own_x a40 ya1 yb1 k0))) (own_home (own_H1 (own_x a108 xA xB g1)) (own_H2 (own_x a40 ya0 yb0 k1) (own_x a40 ya1 yb1 k1))) (own_home (own_H1 (own_x a108 xA xB g2)) (own_H2 (own_x a40 ya0 yb0 k2) (own_x a40 ya1 yb1 k2))) (own_home (own_H1 (own_x a108 xA xB g3)) (own_H2 (own_x a40 ya0 yb0 k3) (own_x a40 ya1 yb1 k3))) (own_same1 (own_x a108 xA xB g0) (own_x a108 xA xB g1) (own_x a40 ya0 yb0 k0) (own_x a40 ya0 yb0 k1) (own_x a40 ya1 yb1 k0) (own_x a40 ya1 yb1 k1)) (own_same1 (own_x a108 xA xB g0) (own_x a108 xA xB g2) (own_x a40 ya0 yb0 k0) (own_x a40 ya0 yb0 k2) (own_x a40 ya1 yb1 k0) (own_x a40 ya1 yb1 k2)) (own_same1 (own_x a108 xA xB g0) (own_x a108 xA xB g3) (own_x a40 ya0 yb0 k0) (own_x a40 ya0 yb0 k3) (own_x a40 ya1 yb1 k0) (own_x a40 ya1 yb1 k3)) (own_same1 (own_x a108 xA xB g1) (own_x a108 xA xB g2) (own_x a40 ya0 yb0 k1) (own_x a40 ya0 yb0 k2) (own_x a40 ya1 yb1 k1) (own_x a40 ya1 yb1 k2)) (own_same1 (own_x a108 xA xB g1) (own_x a108 xA xB g3) (own_x a40 ya0 yb0 k1) (own_x a40 ya0 yb0 k3) (own_x a40 ya1 yb1 k1) (own_x a40 ya1 yb1 k3)) (own_same1 (own_x a108 xA xB g2) (own_x a108 xA xB g3) (own_x a40 ya0 yb0 k2) (own_x a40 ya0 yb0 k3) (own_x a40 ya1 yb1 k2) (own_x a40 ya1 yb1 k3))).2 gl478 kl478 (own_G g0 g1 g2 g3) (own_G k0 k1 k2 k3) 3 XI478 (by decide) (by decide) ) (by decide) (W := 0) (by decide) e509 (by rw [hml]; rfl) own_pd_6 (argsL := [(.int (3 : Int32))]) rfl (S := []) rfl (Nat.le_of_eq rfl) (hb hby at_377) (pc' := 380) rfl (by decide) (by decide) (fun T511 v511 L511 X511 hQ511 => ?_)
                  obtain ⟨rfl, e511, rfl⟩ := hQ511
                  have N512 := Fr.app N510 (Fr.nil n0)
                  refine OwnK.aload X511 hx (hb hby at_380) (pc' := 382) rfl (v := (.ref a187)) rfl rfl ?_
                  refine OwnK.aload X511 hx (hb hby at_382) (pc' := 384) rfl (v := (.ref a199)) rfl rfl ?_
                  refine OwnK.iconst X511 hx (hb hby at_384) (pc' := 385) rfl (v := (3 : Int32)) (by decide) ?_
                  refine OwnK.callS_ X511 hx hZ hown (y := (⟨"com/example/entryway/entryway/KeyIndexFirstOfPinLaw", "ref", "([Ljava/lang/String;[Ljava/lang/String;I)I"⟩ : MethodName)) (hw _ (List.mem_of_getElem? (i := 136) rfl)) (hw _ (List.mem_of_getElem? (i := 137) rfl)) (hw _ (List.mem_of_getElem? (i := 138) rfl)) (hw _ (List.mem_of_getElem? (i := 139) rfl)) (by decide) (own_met24_3 l Z a0 hw T478.heap a187 a199 n0 T142.heap.size _ _ g0 g1 g2 g3 k0 k1 k2 k3 a108 a142 a40 a65 xA xB ya0 ya1 yb0 yb1 cs O498 U478 f484 f486 mg0 mg1 mg2 mg3 mk0 mk1 mk2 mk3 hcs SS ) (by decide) (W := 1) (by decide) e511 (by rw [hml]; rfl) own_pd_21 (argsL := [(.ref a187), (.ref a199), (.int (3 : Int32))]) rfl (S := [(.int (own_fst ((own_s4 (own_home (own_H1 (own_x a108 xA xB g0)) (own_H2 (own_x a40 ya0 yb0 k0) (own_x a40 ya1 yb1 k0))) (own_home (own_H1 (own_x a108 xA xB g1)) (own_H2 (own_x a40 ya0 yb0 k1) (own_x a40 ya1 yb1 k1))) (own_home (own_H1 (own_x a108 xA xB g2)) (own_H2 (own_x a40 ya0 yb0 k2) (own_x a40 ya1 yb1 k2))) (own_home (own_H1 (own_x a108 xA xB g3)) (own_H2 (own_x a40 ya0 yb0 k3) (own_x a40 ya1 yb1 k3))) (own_same1 (own_x a108 xA xB g0) (own_x a108 xA xB g1) (own_x a40 ya0 yb0 k0) (own_x a40 ya0 yb0 k1) (own_x a40 ya1 yb1 k0) (own_x a40 ya1 yb1 k1)) (own_same1 (own_x a108 xA xB g0) (own_x a108 xA xB g2) (own_x a40 ya0 yb0 k0) (own_x a40 ya0 yb0 k2) (own_x a40 ya1 yb1 k0) (own_x a40 ya1 yb1 k2)) (own_same1 (own_x a108 xA xB g0) (own_x a108 xA xB g3) (own_x a40 ya0 yb0 k0) (own_x a40 ya0 yb0 k3) (own_x a40 ya1 yb1 k0) (own_x a40 ya1 yb1 k3)) (own_same1 (own_x a108 xA xB g1) (own_x a108 xA xB g2) (own_x a40 ya0 yb0 k1) (own_x a40 ya0 yb0 k2) (own_x a40 ya1 yb1 k1) (own_x a40 ya1 yb1 k2)) (own_same1 (own_x a108 xA xB g1) (own_x a108 xA xB g3) (own_x a40 ya0 yb0 k1) (own_x a40 ya0 yb0 k3) (own_x a40 ya1 yb1 k1) (own_x a40 ya1 yb1 k3)) (own_same1 (own_x a108 xA xB g2) (own_x a108 xA xB g3) (own_x a40 ya0 yb0 k2) (own_x a40 ya0 yb0 k3) (own_x a40 ya1 yb1 k2) (own_x a40 ya1 yb1 k3))).2) 3))]) rfl (Nat.le_of_eq rfl) (hb hby at_385) (pc' := 388) rfl (by decide) (by decide) (fun T513 v513 L513 X513 hQ513 => ?_)
                  obtain ⟨rfl, e513, rfl⟩ := hQ513
                  have N514 := Fr.app N512 (Fr.nil n0)
                  refine OwnK.icmp_ne X513 hx (hb hby at_388) (by decide) (pcT := 395) (by decide) (pc' := 391) rfl (fun (hc388 : ¬ (own_fst ((own_s4 (own_home (own_H1 (own_x a108 xA xB g0)) (own_H2 (own_x a40 ya0 yb0 k0) (own_x a40 ya1 yb1 k0))) (own_home (own_H1 (own_x a108 xA xB g1)) (own_H2 (own_x a40 ya0 yb0 k1) (own_x a40 ya1 yb1 k1))) (own_home (own_H1 (own_x a108 xA xB g2)) (own_H2 (own_x a40 ya0 yb0 k2) (own_x a40 ya1 yb1 k2))) (own_home (own_H1 (own_x a108 xA xB g3)) (own_H2 (own_x a40 ya0 yb0 k3) (own_x a40 ya1 yb1 k3))) (own_same1 (own_x a108 xA xB g0) (own_x a108 xA xB g1) (own_x a40 ya0 yb0 k0) (own_x a40 ya0 yb0 k1) (own_x a40 ya1 yb1 k0) (own_x a40 ya1 yb1 k1)) (own_same1 (own_x a108 xA xB g0) (own_x a108 xA xB g2) (own_x a40 ya0 yb0 k0) (own_x a40 ya0 yb0 k2) (own_x a40 ya1 yb1 k0) (own_x a40 ya1 yb1 k2)) (own_same1 (own_x a108 xA xB g0) (own_x a108 xA xB g3) (own_x a40 ya0 yb0 k0) (own_x a40 ya0 yb0 k3) (own_x a40 ya1 yb1 k0) (own_x a40 ya1 yb1 k3)) (own_same1 (own_x a108 xA xB g1) (own_x a108 xA xB g2) (own_x a40 ya0 yb0 k1) (own_x a40 ya0 yb0 k2) (own_x a40 ya1 yb1 k1) (own_x a40 ya1 yb1 k2)) (own_same1 (own_x a108 xA xB g1) (own_x a108 xA xB g3) (own_x a40 ya0 yb0 k1) (own_x a40 ya0 yb0 k3) (own_x a40 ya1 yb1 k1) (own_x a40 ya1 yb1 k3)) (own_same1 (own_x a108 xA xB g2) (own_x a108 xA xB g3) (own_x a40 ya0 yb0 k2) (own_x a40 ya0 yb0 k3) (own_x a40 ya1 yb1 k2) (own_x a40 ya1 yb1 k3))).2) 3).toInt = (own_rf (own_same1 (own_x a108 xA xB g0) (own_x a108 xA xB g3) (own_x a40 ya0 yb0 k0) (own_x a40 ya0 yb0 k3) (own_x a40 ya1 yb1 k0) (own_x a40 ya1 yb1 k3)) (own_same1 (own_x a108 xA xB g1) (own_x a108 xA xB g3) (own_x a40 ya0 yb0 k1) (own_x a40 ya0 yb0 k3) (own_x a40 ya1 yb1 k1) (own_x a40 ya1 yb1 k3)) (own_same1 (own_x a108 xA xB g2) (own_x a108 xA xB g3) (own_x a40 ya0 yb0 k2) (own_x a40 ya0 yb0 k3) (own_x a40 ya1 yb1 k2) (own_x a40 ya1 yb1 k3))).toInt) => absurd (congrArg Int32.toInt (show (own_fst ((own_s4 (own_home (own_H1 (own_x a108 xA xB g0)) (own_H2 (own_x a40 ya0 yb0 k0) (own_x a40 ya1 yb1 k0))) (own_home (own_H1 (own_x a108 xA xB g1)) (own_H2 (own_x a40 ya0 yb0 k1) (own_x a40 ya1 yb1 k1))) (own_home (own_H1 (own_x a108 xA xB g2)) (own_H2 (own_x a40 ya0 yb0 k2) (own_x a40 ya1 yb1 k2))) (own_home (own_H1 (own_x a108 xA xB g3)) (own_H2 (own_x a40 ya0 yb0 k3) (own_x a40 ya1 yb1 k3))) (own_same1 (own_x a108 xA xB g0) (own_x a108 xA xB g1) (own_x a40 ya0 yb0 k0) (own_x a40 ya0 yb0 k1) (own_x a40 ya1 yb1 k0) (own_x a40 ya1 yb1 k1)) (own_same1 (own_x a108 xA xB g0) (own_x a108 xA xB g2) (own_x a40 ya0 yb0 k0) (own_x a40 ya0 yb0 k2) (own_x a40 ya1 yb1 k0) (own_x a40 ya1 yb1 k2)) (own_same1 (own_x a108 xA xB g0) (own_x a108 xA xB g3) (own_x a40 ya0 yb0 k0) (own_x a40 ya0 yb0 k3) (own_x a40 ya1 yb1 k0) (own_x a40 ya1 yb1 k3)) (own_same1 (own_x a108 xA xB g1) (own_x a108 xA xB g2) (own_x a40 ya0 yb0 k1) (own_x a40 ya0 yb0 k2) (own_x a40 ya1 yb1 k1) (own_x a40 ya1 yb1 k2)) (own_same1 (own_x a108 xA xB g1) (own_x a108 xA xB g3) (own_x a40 ya0 yb0 k1) (own_x a40 ya0 yb0 k3) (own_x a40 ya1 yb1 k1) (own_x a40 ya1 yb1 k3)) (own_same1 (own_x a108 xA xB g2) (own_x a108 xA xB g3) (own_x a40 ya0 yb0 k2) (own_x a40 ya0 yb0 k3) (own_x a40 ya1 yb1 k2) (own_x a40 ya1 yb1 k3))).2) 3) = (own_rf (own_same1 (own_x a108 xA xB g0) (own_x a108 xA xB g3) (own_x a40 ya0 yb0 k0) (own_x a40 ya0 yb0 k3) (own_x a40 ya1 yb1 k0) (own_x a40 ya1 yb1 k3)) (own_same1 (own_x a108 xA xB g1) (own_x a108 xA xB g3) (own_x a40 ya0 yb0 k1) (own_x a40 ya0 yb0 k3) (own_x a40 ya1 yb1 k1) (own_x a40 ya1 yb1 k3)) (own_same1 (own_x a108 xA xB g2) (own_x a108 xA xB g3) (own_x a40 ya0 yb0 k2) (own_x a40 ya0 yb0 k3) (own_x a40 ya1 yb1 k2) (own_x a40 ya1 yb1 k3))) by exact (own_fin kr).2.2.2)) hc388) (fun hc388 => ?_)
                  refine OwnK.iconst X513 hx (hb hby at_391) (pc' := 392) rfl (v := (1 : Int32)) (by decide) ?_
                  refine OwnK.goto_ X513 hx (hb hby at_392) (by decide) (pc' := 396) (by decide) ?_
                  refine OwnK.retN_ X513 hx hret (by simp) hlk (hb hby at_396) (by decide) (by decide) ?_
                  exact ⟨by rw [own_nar1], N514⟩
                refine OwnK.iloadN X314 hx (hb hby at_241) (pc' := 242) rfl (v := q3) rfl ?_
                refine OwnK.sipush X314 hx (hb hby at_242) (pc' := 245) rfl (v := (128 : Int32)) (by decide) ?_
                refine OwnK.iand X314 hx (hb hby at_245) (pc' := 246) rfl ?_
                refine OwnK.if_eq X314 hx (hb hby at_246) (by decide) (pcT := 254) (by decide) (pc' := 249) rfl (fun (hc515 : (q3 &&& (128 : Int32)).toInt = 0) => ?_) (fun (hc515 : ¬ (q3 &&& (128 : Int32)).toInt = 0) => ?_)
                · refine OwnK.aload X314 hx (hb hby at_254) (pc' := 256) rfl (v := (.ref a40)) rfl rfl ?_
                  exact J333 _ (Or.inl rfl)
                · refine OwnK.aload X314 hx (hb hby at_249) (pc' := 251) rfl (v := (.ref a65)) rfl rfl ?_
                  refine OwnK.goto_ X314 hx (hb hby at_251) (by decide) (pc' := 256) (by decide) ?_
                  exact J333 _ (Or.inr rfl)
              refine OwnK.iloadN X295 hx (hb hby at_223) (pc' := 224) rfl (v := q3) rfl ?_
              refine OwnK.bipush X295 hx (hb hby at_224) (pc' := 226) rfl (v := (64 : Int32)) (by decide) ?_
              refine OwnK.iand X295 hx (hb hby at_226) (pc' := 227) rfl ?_
              refine OwnK.if_eq X295 hx (hb hby at_227) (by decide) (pcT := 235) (by decide) (pc' := 230) rfl (fun (hc516 : (q3 &&& (64 : Int32)).toInt = 0) => ?_) (fun (hc516 : ¬ (q3 &&& (64 : Int32)).toInt = 0) => ?_)
              · refine OwnK.aload X295 hx (hb hby at_235) (pc' := 237) rfl (v := (.ref a108)) rfl rfl ?_
                exact J313 _ (Or.inl rfl)
              · refine OwnK.aload X295 hx (hb hby at_230) (pc' := 232) rfl (v := (.ref a142)) rfl rfl ?_
                refine OwnK.goto_ X295 hx (hb hby at_232) (by decide) (pc' := 237) (by decide) ?_
                exact J313 _ (Or.inr rfl)
            refine OwnK.iloadN X277 hx (hb hby at_205) (pc' := 206) rfl (v := q3) rfl ?_
            refine OwnK.bipush X277 hx (hb hby at_206) (pc' := 208) rfl (v := (32 : Int32)) (by decide) ?_
            refine OwnK.iand X277 hx (hb hby at_208) (pc' := 209) rfl ?_
            refine OwnK.if_eq X277 hx (hb hby at_209) (by decide) (pcT := 217) (by decide) (pc' := 212) rfl (fun (hc517 : (q3 &&& (32 : Int32)).toInt = 0) => ?_) (fun (hc517 : ¬ (q3 &&& (32 : Int32)).toInt = 0) => ?_)
            · refine OwnK.aload X277 hx (hb hby at_217) (pc' := 219) rfl (v := (.ref a40)) rfl rfl ?_
              exact J294 _ (Or.inl rfl)
            · refine OwnK.aload X277 hx (hb hby at_212) (pc' := 214) rfl (v := (.ref a65)) rfl rfl ?_
              refine OwnK.goto_ X277 hx (hb hby at_214) (by decide) (pc' := 219) (by decide) ?_
              exact J294 _ (Or.inr rfl)
          refine OwnK.iloadN X260 hx (hb hby at_187) (pc' := 188) rfl (v := q3) rfl ?_
          refine OwnK.bipush X260 hx (hb hby at_188) (pc' := 190) rfl (v := (16 : Int32)) (by decide) ?_
          refine OwnK.iand X260 hx (hb hby at_190) (pc' := 191) rfl ?_
          refine OwnK.if_eq X260 hx (hb hby at_191) (by decide) (pcT := 199) (by decide) (pc' := 194) rfl (fun (hc518 : (q3 &&& (16 : Int32)).toInt = 0) => ?_) (fun (hc518 : ¬ (q3 &&& (16 : Int32)).toInt = 0) => ?_)
          · refine OwnK.aload X260 hx (hb hby at_199) (pc' := 201) rfl (v := (.ref a108)) rfl rfl ?_
            exact J276 _ (Or.inl rfl)
          · refine OwnK.aload X260 hx (hb hby at_194) (pc' := 196) rfl (v := (.ref a142)) rfl rfl ?_
            refine OwnK.goto_ X260 hx (hb hby at_196) (by decide) (pc' := 201) (by decide) ?_
            exact J276 _ (Or.inr rfl)
        refine OwnK.iloadN X244 hx (hb hby at_169) (pc' := 170) rfl (v := q3) rfl ?_
        refine OwnK.bipush X244 hx (hb hby at_170) (pc' := 172) rfl (v := (8 : Int32)) (by decide) ?_
        refine OwnK.iand X244 hx (hb hby at_172) (pc' := 173) rfl ?_
        refine OwnK.if_eq X244 hx (hb hby at_173) (by decide) (pcT := 181) (by decide) (pc' := 176) rfl (fun (hc519 : (q3 &&& (8 : Int32)).toInt = 0) => ?_) (fun (hc519 : ¬ (q3 &&& (8 : Int32)).toInt = 0) => ?_)
        · refine OwnK.aload X244 hx (hb hby at_181) (pc' := 183) rfl (v := (.ref a40)) rfl rfl ?_
          exact J259 _ (Or.inl rfl)
        · refine OwnK.aload X244 hx (hb hby at_176) (pc' := 178) rfl (v := (.ref a65)) rfl rfl ?_
          refine OwnK.goto_ X244 hx (hb hby at_178) (by decide) (pc' := 183) (by decide) ?_
          exact J259 _ (Or.inr rfl)
      refine OwnK.iloadN X229 hx (hb hby at_152) (pc' := 153) rfl (v := q3) rfl ?_
      refine OwnK.iconst X229 hx (hb hby at_153) (pc' := 154) rfl (v := (4 : Int32)) (by decide) ?_
      refine OwnK.iand X229 hx (hb hby at_154) (pc' := 155) rfl ?_
      refine OwnK.if_eq X229 hx (hb hby at_155) (by decide) (pcT := 163) (by decide) (pc' := 158) rfl (fun (hc520 : (q3 &&& (4 : Int32)).toInt = 0) => ?_) (fun (hc520 : ¬ (q3 &&& (4 : Int32)).toInt = 0) => ?_)
      · refine OwnK.aload X229 hx (hb hby at_163) (pc' := 165) rfl (v := (.ref a108)) rfl rfl ?_
        exact J243 _ (Or.inl rfl)
      · refine OwnK.aload X229 hx (hb hby at_158) (pc' := 160) rfl (v := (.ref a142)) rfl rfl ?_
        refine OwnK.goto_ X229 hx (hb hby at_160) (by decide) (pc' := 165) (by decide) ?_
        exact J243 _ (Or.inr rfl)
    refine OwnK.iloadN X215 hx (hb hby at_135) (pc' := 136) rfl (v := q3) rfl ?_
    refine OwnK.iconst X215 hx (hb hby at_136) (pc' := 137) rfl (v := (2 : Int32)) (by decide) ?_
    refine OwnK.iand X215 hx (hb hby at_137) (pc' := 138) rfl ?_
    refine OwnK.if_eq X215 hx (hb hby at_138) (by decide) (pcT := 146) (by decide) (pc' := 141) rfl (fun (hc521 : (q3 &&& (2 : Int32)).toInt = 0) => ?_) (fun (hc521 : ¬ (q3 &&& (2 : Int32)).toInt = 0) => ?_)
    · refine OwnK.aload X215 hx (hb hby at_146) (pc' := 148) rfl (v := (.ref a40)) rfl rfl ?_
      exact J228 _ (Or.inl rfl)
    · refine OwnK.aload X215 hx (hb hby at_141) (pc' := 143) rfl (v := (.ref a65)) rfl rfl ?_
      refine OwnK.goto_ X215 hx (hb hby at_143) (by decide) (pc' := 148) (by decide) ?_
      exact J228 _ (Or.inr rfl)
  refine OwnK.iloadN X199 hx (hb hby at_118) (pc' := 119) rfl (v := q3) rfl ?_
  refine OwnK.iconst X199 hx (hb hby at_119) (pc' := 120) rfl (v := (1 : Int32)) (by decide) ?_
  refine OwnK.iand X199 hx (hb hby at_120) (pc' := 121) rfl ?_
  refine OwnK.if_eq X199 hx (hb hby at_121) (by decide) (pcT := 129) (by decide) (pc' := 124) rfl (fun (hc522 : (q3 &&& (1 : Int32)).toInt = 0) => ?_) (fun (hc522 : ¬ (q3 &&& (1 : Int32)).toInt = 0) => ?_)
  · refine OwnK.aload X199 hx (hb hby at_129) (pc' := 131) rfl (v := (.ref a108)) rfl rfl ?_
    exact J214 _ (Or.inl rfl)
  · refine OwnK.aload X199 hx (hb hby at_124) (pc' := 126) rfl (v := (.ref a142)) rfl rfl ?_
    refine OwnK.goto_ X199 hx (hb hby at_126) (by decide) (pc' := 131) (by decide) ?_
    exact J214 _ (Or.inr rfl)
set_option maxRecDepth 65536 in
set_option maxHeartbeats 40000000 in
theorem comes_1 {Post : Tables → Env → Array Value → State → Outcome → State → Prop} (hpost : ∀ tb e args s v u, (limb_1_1.after args s (.returned v) u = true ∧ limb_1_2.after args s (.returned v) u = true ∧ True) → FrameEnd s (.returned v) u (Jvm.fieldLocs frame_1_writes args s ++ Jvm.arrayLocs frame_1_arrays args s ++ Jvm.staticLocs frame_1_statics s) 48 256 → Post tb e args s (.returned v) u) :
    ArmFor flags0 classFile x code maxLocals ret World_1 tables_1 room_1 Calls_1 rest_1 Pre_1 Post := by
  intro l hfl _ _ p e ha hc hk s m args below hf hA hF happ hP
  obtain ⟨hcalls, hrest, hpre⟩ := hP
  obtain ⟨-, -, -, hnamed, -, -, -, hat⟩ := (Spec.applies_iff hf).mp happ
  obtain ⟨hg, hn⟩ := and_e (Cond.before_iff.mp (show (Jvm.Cond.and given_1 narrow_1).before args s = true from hpre))
  obtain ⟨hcnt, hg0⟩ := and_e hg
  obtain ⟨ha0, hg1⟩ := and_e hg0
  obtain ⟨ha1, hg2⟩ := and_e hg1
  obtain ⟨ha2, hg3⟩ := and_e hg2
  have ha3 := hg3
  obtain ⟨w0, w1, w2, w3, rfl⟩ : ∃ w0 w1 w2 w3 : Value, args = #[w0, w1, w2, w3] := by
    have hs : args.size = 4 := by simpa [Cond.value, given_1] using hcnt
    obtain ⟨L⟩ := args
    match L, hs with
    | [w0, w1, w2, w3], _ => exact ⟨w0, w1, w2, w3, rfl⟩
  have hw := fun d (hd : d ∈ tables_1) => atoms_spec (ws := Jvm.Cond.code x code maxLocals ret :: tables_1) hat d (List.mem_cons_of_mem _ hd)
  obtain ⟨hsets, hown0⟩ := atoms_of _ (rest_1_c_eq ▸ (show rest_1_c.before _ s = true from hrest))
  have hfit : Fit s := fun {y c} hc i hi => by
    obtain ⟨ha, rfl⟩ := Array.getElem?_eq_some_iff.mp hc
    have q := List.all_eq_true.mp ((Array.all_eq_true_iff_forall_mem.mp hF) _ (Array.getElem_mem ha)) i (List.mem_range.mpr hi)
    simpa [Array.getElem?_eq_getElem hi] using q
  obtain ⟨i0, e0⟩ := is_v ha0
  obtain rfl : w0 = (.int i0) := Option.some.inj e0
  obtain ⟨i1, e1⟩ := is_v ha1
  obtain rfl : w1 = (.int i1) := Option.some.inj e1
  obtain ⟨i2, e2⟩ := is_v ha2
  obtain rfl : w2 = (.int i2) := Option.some.inj e2
  obtain ⟨i3, e3⟩ := is_v ha3
  obtain rfl : w3 = (.int i3) := Option.some.inj e3
  obtain ⟨cs, exc⟩ := is_v (Cond.before_iff.mp (hsets _ (List.mem_of_getElem? (i := 1) rfl)))
  have SS := Sta.start exc (Or.inl (hsets _ (List.mem_of_getElem? (i := 0) rfl)))
  have hcs : ¬ cs.toInt = 0 := own_cs exc (hsets _ (List.mem_of_getElem? (i := 2) rfl))
  obtain ⟨n, o, h1, h2, h3, _, L, rfl, ⟨rfl, N⟩, hq⟩ := own_law l s _ hw tables_1 s.heap s.heap.size (Nat.le_refl _) i0 i1 i2 i3 cs (Old.start s) hcs SS p e ha hc hk s m _ below hf ((Spec.applies_iff_loose hf).mp happ).1 ⟨rfl, State.Warmed39.refl s, rfl⟩ trivial
  refine ⟨n, _, h1, h2, h3, hpost _ _ _ _ _ _ ⟨Cond.after_iff.mpr rfl, Cond.after_iff.mpr (eq_i res_at (Term.int_eval (1)) rfl), trivial⟩ ⟨hq.1, hq.2.1, (hq.2.2.sift fun y hy => Or.inr (N y hy)).mono (by decide) (by decide)⟩⟩
theorem main_1_1 : Claimed_1_1 := comes_1 fun _ _ _ _ _ _ h hF => ⟨h.1, hF⟩
theorem main_1_2 : Claimed_1_2 := comes_1 fun _ _ _ _ _ _ h hF => ⟨h.2.1, hF⟩
end Jvm.Pilot.@@N@@
namespace Jvm.Pilot.@@N@@
open Jvm Jvm.ClassFile Sem Op Lib Jvm.Free Jvm.Stand Jvm.Pilot.@@N@@.Jvm.D
/-! MADE BY PROGRAM (witnessworld.py) out of the Statement's table words and the real class files: 27 classes; the members and pool entries that the words name. The judged class is class 1, her method 1. -/
namespace start1
open Jvm.ClassFile
def u (s : String) : CpInfo := .utf8 (stringToUtf16 s)
/-- a pool by its gaps: so many unusable entries, then the entry; so many at the end -/
def gap : Nat → List CpInfo → List CpInfo
  | 0, r => r
  | n + 1, r => .unusable :: gap n r
def poolList (es : List (Nat × CpInfo)) (last : Nat) : List CpInfo := es.foldr (fun e r => gap e.1 (e.2 :: r)) (gap last [])
def pool (es : List (Nat × CpInfo)) (last : Nat) : Array CpInfo := ⟨poolList es last⟩
def fileOf (pool : Array CpInfo) (this : Nat) (attrs : Array Attribute := #[]) (ms : Array MethodInfo := #[]) (fl : Nat := 33) (sup : Nat := 0) (ifs : Array Nat := #[]) (fds : Array FieldInfo := #[]) : ClassFile where
  minorVersion := 0
  majorVersion := 65
  constantPool := pool
  accessFlags := fl
  thisClass := this
  superClass := sup
  interfaces := ifs
  fields := fds
  methods := ms
  attributes := attrs
def plain (name : String) (sup : Option ClassId) : Class where
  name := name
  kind := .ordinary
  loader := none
  accessFlags := 33
  super := sup
  interfaces := #[]
  cf := none
  fields := #[]
  methods := #[]
  instanceTypes := #[]
  staticTypes := #[]
  resolved := #[]
  callSites := []
  init := .initialized
  statics := none
  mirror := none

def pool0 : Array CpInfo := pool [(5, u "<init>"), (0, u "()V"), (1, .class_ 10), (1, u "java/lang/Object")] 113

def k0c0 : Code := { maxStack := 0, maxLocals := 1, code := object_method_1_code, exceptionTable := #[], attributes := #[] }
def k0m0 : Method := { name := "<init>", desc := "()V", sig := { parameters := [], returnType := none }, accessFlags := 1, code := some k0c0 }
/-- java/lang/Object -/
def k0 : Class := { plain "java/lang/Object" none with
  accessFlags := 33
  interfaces := #[]
  cf := some (fileOf pool0 8 #[] #[{ accessFlags := 1, nameIndex := 5, descriptorIndex := 6, attributes := #[] }] 33 0 #[] #[])
  fields := #[]
  methods := #[k0m0]
  instanceTypes := #[]
  staticTypes := #[]
  resolved := Array.replicate 124 none
  statics := none }

def pool1 : Array CpInfo := pool [(2, .class_ 4), (1, u "java/lang/Object"), (0, u "<init>"), (0, u "()V"), (0, .class_ 8), (0, u "java/lang/String"), (0, .methodref 7 10), (0, .nameAndType 5 11), (0, u "([C)V"), (0, .methodref 7 13), (0, .nameAndType 14 15), (0, u "valueOf"), (0, u "(C)Ljava/lang/String;"), (0, .class_ 17), (0, u "com/example/entryway/entryway/KeyIndex"), (0, .methodref 16 19), (0, .nameAndType 5 20), (0, u "(I)V"), (0, .methodref 16 22), (0, .nameAndType 23 24), (0, u "add"), (0, u "(Ljava/lang/String;Ljava/lang/String;)I"), (0, .methodref 16 26), (0, .nameAndType 27 28), (0, u "firstOf"), (0, u "(I)I"), (0, .methodref 30 31), (0, .class_ 32), (0, .nameAndType 33 34), (0, u "com/example/entryway/entryway/KeyIndexFirstOfPinLaw"), (0, u "ref"), (0, u "([Ljava/lang/String;[Ljava/lang/String;I)I"), (0, .methodref 7 36), (0, .nameAndType 37 38), (0, u "equals"), (0, u "(Ljava/lang/Object;)Z"), (0, .methodref 30 40), (0, .nameAndType 41 42), (0, u "same"), (0, u "([Ljava/lang/String;[Ljava/lang/String;II)Z"), (2, u "law"), (0, u "(IIII)Z")] 7

def k1m0 : Method := { name := "<init>", desc := "()V", sig := { parameters := [], returnType := none }, accessFlags := 1, code := none }
def k1c1 : Code := { maxStack := 4, maxLocals := 13, code := code, exceptionTable := #[], attributes := #[] }
def k1m1 : Method := { name := "law", desc := "(IIII)Z", sig := { parameters := [.int, .int, .int, .int], returnType := some .boolean }, accessFlags := 9, code := some k1c1 }
def k1c2 : Code := { maxStack := 3, maxLocals := 4, code := method_3_code, exceptionTable := #[], attributes := #[] }
def k1m2 : Method := { name := "same", desc := "([Ljava/lang/String;[Ljava/lang/String;II)Z", sig := { parameters := [(.array (.object "java/lang/String")), (.array (.object "java/lang/String")), .int, .int], returnType := some .boolean }, accessFlags := 10, code := some k1c2 }
def k1c3 : Code := { maxStack := 4, maxLocals := 3, code := method_4_code, exceptionTable := #[], attributes := #[] }
def k1m3 : Method := { name := "ref", desc := "([Ljava/lang/String;[Ljava/lang/String;I)I", sig := { parameters := [(.array (.object "java/lang/String")), (.array (.object "java/lang/String")), .int], returnType := some .int }, accessFlags := 10, code := some k1c3 }
/-- com/example/entryway/entryway/KeyIndexFirstOfPinLaw -/
def k1 : Class := { plain "com/example/entryway/entryway/KeyIndexFirstOfPinLaw" (some 0) with
  accessFlags := 49
  interfaces := #[]
  cf := some (fileOf pool1 30 #[] #[{ accessFlags := 1, nameIndex := 5, descriptorIndex := 6, attributes := #[] }, { accessFlags := 9, nameIndex := 45, descriptorIndex := 46, attributes := #[] }, { accessFlags := 10, nameIndex := 41, descriptorIndex := 42, attributes := #[] }, { accessFlags := 10, nameIndex := 33, descriptorIndex := 34, attributes := #[] }] 49 2 #[] #[])
  fields := #[]
  methods := #[k1m0, k1m1, k1m2, k1m3]
  instanceTypes := #[]
  staticTypes := #[]
  resolved := Array.replicate 54 none
  statics := none }

def pool2 : Array CpInfo := pool [(1, .class_ 2), (0, u "java/io/Serializable"), (0, .class_ 4), (0, u "java/lang/Object")] 2

/-- java/io/Serializable -/
def k2 : Class := { plain "java/io/Serializable" (some 0) with
  accessFlags := 1537
  interfaces := #[]
  cf := some (fileOf pool2 1 #[] #[] 1537 3 #[] #[])
  fields := #[]
  methods := #[]
  instanceTypes := #[]
  staticTypes := #[]
  resolved := Array.replicate 7 none
  statics := none }

def pool3 : Array CpInfo := pool [(1, .class_ 2), (0, u "java/lang/Comparable"), (0, .class_ 4), (0, u "java/lang/Object")] 7

/-- java/lang/Comparable -/
def k3 : Class := { plain "java/lang/Comparable" (some 0) with
  accessFlags := 1537
  interfaces := #[]
  cf := some (fileOf pool3 1 #[] #[] 1537 3 #[] #[])
  fields := #[]
  methods := #[]
  instanceTypes := #[]
  staticTypes := #[]
  resolved := Array.replicate 12 none
  statics := none }

def pool4 : Array CpInfo := pool [(2, .class_ 4), (1, u "java/lang/CharSequence"), (42, .class_ 48), (0, u "java/lang/CharSequence$1CodePointIterator"), (10, .class_ 60), (0, u "java/lang/CharSequence$1CharIterator"), (5, .class_ 67), (0, u "java/lang/Object")] 63

/-- java/lang/CharSequence -/
def k4 : Class := { plain "java/lang/CharSequence" (some 0) with
  accessFlags := 1537
  interfaces := #[]
  cf := some (fileOf pool4 2 #[.nestMembers #[47, 59]] #[] 1537 66 #[] #[])
  fields := #[]
  methods := #[]
  instanceTypes := #[]
  staticTypes := #[]
  resolved := Array.replicate 131 none
  statics := none }

def pool5 : Array CpInfo := pool [(1, .class_ 2), (0, u "java/lang/constant/Constable"), (0, .class_ 4), (0, u "java/lang/Object")] 6

/-- java/lang/constant/Constable -/
def k5 : Class := { plain "java/lang/constant/Constable" (some 0) with
  accessFlags := 1537
  interfaces := #[]
  cf := some (fileOf pool5 1 #[] #[] 1537 3 #[] #[])
  fields := #[]
  methods := #[]
  instanceTypes := #[]
  staticTypes := #[]
  resolved := Array.replicate 11 none
  statics := none }

def pool6 : Array CpInfo := pool [(1, .class_ 2), (0, u "java/lang/constant/ConstantDesc"), (0, .class_ 4), (0, u "java/lang/Object")] 32

/-- java/lang/constant/ConstantDesc -/
def k6 : Class := { plain "java/lang/constant/ConstantDesc" (some 0) with
  accessFlags := 1537
  interfaces := #[]
  cf := some (fileOf pool6 1 #[] #[] 1537 3 #[] #[])
  fields := #[]
  methods := #[]
  instanceTypes := #[]
  staticTypes := #[]
  resolved := Array.replicate 37 none
  statics := none }

def pool7 : Array CpInfo := pool [(1, .methodref 2 3), (0, .class_ 4), (0, .nameAndType 5 6), (0, u "java/lang/Object"), (0, u "<init>"), (0, u "()V"), (2, .fieldref 10 11), (0, .class_ 12), (0, .nameAndType 13 14), (0, u "java/lang/String"), (0, u "value"), (0, u "[B"), (0, .fieldref 10 16), (0, .nameAndType 17 18), (0, u "coder"), (0, u "B"), (0, .fieldref 10 20), (0, .nameAndType 21 22), (0, u "hash"), (0, u "I"), (0, .fieldref 10 24), (0, .nameAndType 25 26), (0, u "hashIsZero"), (0, u "Z"), (0, .methodref 10 28), (0, .nameAndType 5 29), (0, u "([CIILjava/lang/Void;)V"), (8, .fieldref 10 39), (0, .nameAndType 40 26), (0, u "COMPACT_STRINGS"), (1, .class_ 44), (1, u "java/lang/StringUTF16"), (0, u "compress"), (1, .methodref 42 48), (0, .nameAndType 49 50), (0, u "coderFromArrayLen"), (0, u "([BI)B"), (2, u "toBytes"), (53, .class_ 109), (1, u "java/lang/StringLatin1"), (32, u "()Z"), (34, .methodref 42 178), (0, .nameAndType 45 179), (0, u "([CII)[B"), (29, .methodref 10 210), (0, .nameAndType 5 211), (0, u "([BB)V"), (122, u "()I"), (34, u "(C)Z"), (122, .methodref 10 493), (0, .nameAndType 494 142), (0, u "isLatin1"), (46, .methodref 107 542), (0, .nameAndType 543 544), (0, u "equals"), (0, u "([B[B)Z"), (28, u "(Ljava/lang/Object;)Z"), (1, .class_ 576), (0, u "java/lang/CharSequence"), (22, u "CASE_INSENSITIVE_ORDER"), (0, u "Ljava/util/Comparator;"), (27, .methodref 107 629), (0, .nameAndType 630 631), (0, u "hashCode"), (0, u "([B)I"), (150, u "valueOf"), (0, u "(C)Ljava/lang/String;"), (226, u "([C)V"), (4, .methodref 107 1016), (0, .nameAndType 1017 369), (0, u "canEncode"), (0, .methodref 107 1019), (0, .nameAndType 53 1020), (0, u "(C)[B"), (80, u "serialPersistentFields"), (0, u "[Ljava/io/ObjectStreamField;"), (0, .class_ 1104), (0, u "java/lang/String$CaseInsensitiveComparator"), (1, .class_ 1107), (0, u "java/io/Serializable"), (0, .class_ 1109), (0, u "java/lang/Comparable"), (0, .class_ 1111), (0, u "java/lang/constant/Constable"), (0, .class_ 1113), (0, u "java/lang/constant/ConstantDesc"), (2, u "serialVersionUID"), (0, u "J"), (3, u "REPL"), (0, u "C"), (2, u "LATIN1"), (1, u "UTF16")] 323

def k7m0 : Method := { name := "<init>", desc := "()V", sig := { parameters := [], returnType := none }, accessFlags := 1, code := none }
def k7c1 : Code := { maxStack := 5, maxLocals := 2, code := jdk_42_method_3_code, exceptionTable := #[], attributes := #[] }
def k7m1 : Method := { name := "<init>", desc := "([C)V", sig := { parameters := [(.array .char)], returnType := none }, accessFlags := 1, code := some k7c1 }
def k7c2 : Code := { maxStack := 2, maxLocals := 3, code := jdk_42_method_66_code, exceptionTable := #[], attributes := #[] }
def k7m2 : Method := { name := "equals", desc := "(Ljava/lang/Object;)Z", sig := { parameters := [(.object "java/lang/Object")], returnType := some .boolean }, accessFlags := 1, code := some k7c2 }
def k7c3 : Code := { maxStack := 2, maxLocals := 2, code := jdk_42_method_78_code, exceptionTable := #[], attributes := #[] }
def k7m3 : Method := { name := "hashCode", desc := "()I", sig := { parameters := [], returnType := some .int }, accessFlags := 1, code := some k7c3 }
def k7c4 : Code := { maxStack := 4, maxLocals := 1, code := jdk_42_method_139_code, exceptionTable := #[], attributes := #[] }
def k7m4 : Method := { name := "valueOf", desc := "(C)Ljava/lang/String;", sig := { parameters := [.char], returnType := some (.object "java/lang/String") }, accessFlags := 9, code := some k7c4 }
def k7c5 : Code := { maxStack := 4, maxLocals := 6, code := jdk_42_method_149_code, exceptionTable := #[], attributes := #[] }
def k7m5 : Method := { name := "<init>", desc := "([CIILjava/lang/Void;)V", sig := { parameters := [(.array .char), .int, .int, (.object "java/lang/Void")], returnType := none }, accessFlags := 2, code := some k7c5 }
def k7c6 : Code := { maxStack := 2, maxLocals := 3, code := jdk_42_method_151_code, exceptionTable := #[], attributes := #[] }
def k7m6 : Method := { name := "<init>", desc := "([BB)V", sig := { parameters := [(.array .byte), .byte], returnType := none }, accessFlags := 0, code := some k7c6 }
def k7c7 : Code := { maxStack := 1, maxLocals := 1, code := jdk_42_method_154_code, exceptionTable := #[], attributes := #[] }
def k7m7 : Method := { name := "isLatin1", desc := "()Z", sig := { parameters := [], returnType := some .boolean }, accessFlags := 0, code := some k7c7 }
/-- java/lang/String -/
def k7 : Class := { plain "java/lang/String" (some 0) with
  accessFlags := 49
  interfaces := #[2, 3, 4, 5, 6]
  cf := some (fileOf pool7 10 #[.nestMembers #[1103]] #[{ accessFlags := 1, nameIndex := 5, descriptorIndex := 6, attributes := #[] }, { accessFlags := 1, nameIndex := 5, descriptorIndex := 1010, attributes := #[] }, { accessFlags := 1, nameIndex := 543, descriptorIndex := 573, attributes := #[] }, { accessFlags := 1, nameIndex := 630, descriptorIndex := 334, attributes := #[] }, { accessFlags := 9, nameIndex := 782, descriptorIndex := 783, attributes := #[] }, { accessFlags := 2, nameIndex := 5, descriptorIndex := 29, attributes := #[] }, { accessFlags := 0, nameIndex := 5, descriptorIndex := 211, attributes := #[] }, { accessFlags := 0, nameIndex := 494, descriptorIndex := 142, attributes := #[] }] 49 2 #[1106, 1108, 575, 1110, 1112] #[{ accessFlags := 18, nameIndex := 13, descriptorIndex := 14, attributes := #[] }, { accessFlags := 18, nameIndex := 17, descriptorIndex := 18, attributes := #[] }, { accessFlags := 2, nameIndex := 21, descriptorIndex := 22, attributes := #[] }, { accessFlags := 2, nameIndex := 25, descriptorIndex := 26, attributes := #[] }, { accessFlags := 26, nameIndex := 1116, descriptorIndex := 1117, attributes := #[] }, { accessFlags := 24, nameIndex := 40, descriptorIndex := 26, attributes := #[] }, { accessFlags := 26, nameIndex := 1101, descriptorIndex := 1102, attributes := #[] }, { accessFlags := 26, nameIndex := 1121, descriptorIndex := 1122, attributes := #[] }, { accessFlags := 25, nameIndex := 599, descriptorIndex := 600, attributes := #[] }, { accessFlags := 24, nameIndex := 1125, descriptorIndex := 18, attributes := #[] }, { accessFlags := 24, nameIndex := 1127, descriptorIndex := 18, attributes := #[] }])
  fields := #[{ name := "value", type := (.array .byte), accessFlags := 18, slot := 0, constantValue := 0 }, { name := "coder", type := .byte, accessFlags := 18, slot := 1, constantValue := 0 }, { name := "hash", type := .int, accessFlags := 2, slot := 2, constantValue := 0 }, { name := "hashIsZero", type := .boolean, accessFlags := 2, slot := 3, constantValue := 0 }, { name := "serialVersionUID", type := .long, accessFlags := 26, slot := 0, constantValue := 0 }, { name := "COMPACT_STRINGS", type := .boolean, accessFlags := 24, slot := 1, constantValue := 0 }, { name := "serialPersistentFields", type := (.array (.object "java/io/ObjectStreamField")), accessFlags := 26, slot := 2, constantValue := 0 }, { name := "REPL", type := .char, accessFlags := 26, slot := 3, constantValue := 0 }, { name := "CASE_INSENSITIVE_ORDER", type := (.object "java/util/Comparator"), accessFlags := 25, slot := 4, constantValue := 0 }, { name := "LATIN1", type := .byte, accessFlags := 24, slot := 5, constantValue := 0 }, { name := "UTF16", type := .byte, accessFlags := 24, slot := 6, constantValue := 0 }]
  methods := #[k7m0, k7m1, k7m2, k7m3, k7m4, k7m5, k7m6, k7m7]
  instanceTypes := #[(.array .byte), .byte, .int, .boolean]
  staticTypes := #[.long, .boolean, (.array (.object "java/io/ObjectStreamField")), .char, (.object "java/util/Comparator"), .byte, .byte]
  resolved := Array.replicate 1451 none
  statics := some 0 }

def pool8 : Array CpInfo := pool [(6, .class_ 8), (1, u "java/lang/Object"), (0, u "<init>"), (0, u "()V"), (1, .class_ 14), (1, u "java/lang/StringUTF16"), (31, u "$assertionsDisabled"), (0, u "Z"), (13, u "HI_BYTE_SHIFT"), (0, u "I"), (2, u "LO_BYTE_SHIFT"), (49, .methodref 12 116), (0, .nameAndType 117 118), (0, u "compress"), (0, u "([CI[BII)I"), (3, u "([CII)[B"), (138, u "coderFromArrayLen"), (0, u "([BI)B"), (106, .class_ 371), (1, u "java/lang/StringUTF16$LinesSpliterator"), (58, u "MAX_LENGTH"), (196, .class_ 628), (0, u "java/lang/StringUTF16$CodePointsSpliterator"), (0, .class_ 630), (0, u "java/lang/StringUTF16$CharsSpliterator")] 4

def k8m0 : Method := { name := "<init>", desc := "()V", sig := { parameters := [], returnType := none }, accessFlags := 0, code := none }
def k8c1 : Code := { maxStack := 2, maxLocals := 2, code := jdk_52_method_15_code, exceptionTable := #[], attributes := #[] }
def k8m1 : Method := { name := "coderFromArrayLen", desc := "([BI)B", sig := { parameters := [(.array .byte), .int], returnType := some .byte }, accessFlags := 8, code := some k8c1 }
def k8c2 : Code := { maxStack := 5, maxLocals := 6, code := jdk_52_method_16_code, exceptionTable := #[], attributes := #[] }
def k8m2 : Method := { name := "compress", desc := "([CII)[B", sig := { parameters := [(.array .char), .int, .int], returnType := some (.array .byte) }, accessFlags := 9, code := some k8c2 }
def k8c3 : Code := { maxStack := 3, maxLocals := 7, code := jdk_52_method_21_code, exceptionTable := #[], attributes := #[] }
def k8m3 : Method := { name := "compress", desc := "([CI[BII)I", sig := { parameters := [(.array .char), .int, (.array .byte), .int, .int], returnType := some .int }, accessFlags := 9, code := some k8c3 }
/-- java/lang/StringUTF16 -/
def k8 : Class := { plain "java/lang/StringUTF16" (some 0) with
  accessFlags := 48
  interfaces := #[]
  cf := some (fileOf pool8 12 #[.nestMembers #[627, 629, 369]] #[{ accessFlags := 0, nameIndex := 9, descriptorIndex := 10, attributes := #[] }, { accessFlags := 8, nameIndex := 261, descriptorIndex := 262, attributes := #[] }, { accessFlags := 9, nameIndex := 117, descriptorIndex := 122, attributes := #[] }, { accessFlags := 9, nameIndex := 117, descriptorIndex := 118, attributes := #[] }] 48 6 #[] #[{ accessFlags := 26, nameIndex := 61, descriptorIndex := 62, attributes := #[] }, { accessFlags := 26, nameIndex := 65, descriptorIndex := 62, attributes := #[] }, { accessFlags := 24, nameIndex := 430, descriptorIndex := 62, attributes := #[] }, { accessFlags := 4120, nameIndex := 46, descriptorIndex := 47, attributes := #[] }])
  fields := #[{ name := "HI_BYTE_SHIFT", type := .int, accessFlags := 26, slot := 0, constantValue := 0 }, { name := "LO_BYTE_SHIFT", type := .int, accessFlags := 26, slot := 1, constantValue := 0 }, { name := "MAX_LENGTH", type := .int, accessFlags := 24, slot := 2, constantValue := 0 }, { name := "$assertionsDisabled", type := .boolean, accessFlags := 4120, slot := 3, constantValue := 0 }]
  methods := #[k8m0, k8m1, k8m2, k8m3]
  instanceTypes := #[]
  staticTypes := #[.int, .int, .int, .boolean]
  resolved := Array.replicate 635 none
  statics := none }

def pool9 : Array CpInfo := pool [(4, .class_ 6), (1, u "java/lang/Object"), (0, u "<init>"), (0, u "()V"), (5, .class_ 16), (1, u "java/lang/StringLatin1"), (28, .class_ 47), (1, u "jdk/internal/util/ArraysSupport"), (9, u "([B)I"), (26, .methodref 45 85), (0, .nameAndType 86 87), (0, u "vectorizedHashCode"), (0, u "(Ljava/lang/Object;IIII)I"), (2, u "canEncode"), (14, u "(C)Z"), (15, u "$assertionsDisabled"), (0, u "Z"), (98, .class_ 223), (1, u "java/lang/StringLatin1$LinesSpliterator"), (57, u "equals"), (0, u "([B[B)Z"), (15, u "hashCode"), (81, u "toBytes"), (1, u "(C)[B"), (7, .class_ 391), (0, u "java/lang/StringLatin1$CharsSpliterator")] 3

def k9m0 : Method := { name := "<init>", desc := "()V", sig := { parameters := [], returnType := none }, accessFlags := 0, code := none }
def k9c1 : Code := { maxStack := 2, maxLocals := 1, code := jdk_43_method_3_code, exceptionTable := #[], attributes := #[] }
def k9m1 : Method := { name := "canEncode", desc := "(C)Z", sig := { parameters := [.char], returnType := some .boolean }, accessFlags := 9, code := some k9c1 }
def k9c2 : Code := { maxStack := 3, maxLocals := 3, code := jdk_43_method_13_code, exceptionTable := #[], attributes := #[] }
def k9m2 : Method := { name := "equals", desc := "([B[B)Z", sig := { parameters := [(.array .byte), (.array .byte)], returnType := some .boolean }, accessFlags := 9, code := some k9c2 }
def k9c3 : Code := { maxStack := 5, maxLocals := 1, code := jdk_43_method_21_code, exceptionTable := #[], attributes := #[] }
def k9m3 : Method := { name := "hashCode", desc := "([B)I", sig := { parameters := [(.array .byte)], returnType := some .int }, accessFlags := 9, code := some k9c3 }
def k9c4 : Code := { maxStack := 4, maxLocals := 1, code := jdk_43_method_46_code, exceptionTable := #[], attributes := #[] }
def k9m4 : Method := { name := "toBytes", desc := "(C)[B", sig := { parameters := [.char], returnType := some (.array .byte) }, accessFlags := 9, code := some k9c4 }
/-- java/lang/StringLatin1 -/
def k9 : Class := { plain "java/lang/StringLatin1" (some 0) with
  accessFlags := 48
  interfaces := #[]
  cf := some (fileOf pool9 14 #[.nestMembers #[390, 221]] #[{ accessFlags := 0, nameIndex := 7, descriptorIndex := 8, attributes := #[] }, { accessFlags := 9, nameIndex := 90, descriptorIndex := 105, attributes := #[] }, { accessFlags := 9, nameIndex := 281, descriptorIndex := 282, attributes := #[] }, { accessFlags := 9, nameIndex := 298, descriptorIndex := 57, attributes := #[] }, { accessFlags := 9, nameIndex := 380, descriptorIndex := 382, attributes := #[] }] 48 4 #[] #[{ accessFlags := 4120, nameIndex := 121, descriptorIndex := 122, attributes := #[] }])
  fields := #[{ name := "$assertionsDisabled", type := .boolean, accessFlags := 4120, slot := 0, constantValue := 0 }]
  methods := #[k9m0, k9m1, k9m2, k9m3, k9m4]
  instanceTypes := #[]
  staticTypes := #[.boolean]
  resolved := Array.replicate 395 none
  statics := none }

def pool10 : Array CpInfo := pool [(1, .methodref 2 3), (0, .class_ 4), (0, .nameAndType 5 6), (0, u "java/lang/Object"), (0, u "<init>"), (0, u "()V"), (0, .class_ 8), (0, u "java/util/TreeMap"), (0, .methodref 7 3), (0, .fieldref 11 12), (0, .class_ 13), (0, .nameAndType 14 15), (0, u "com/example/entryway/entryway/KeyIndex"), (0, u "overflow"), (0, u "Ljava/util/Map;"), (0, .class_ 17), (0, u "java/lang/String"), (0, .fieldref 11 19), (0, .nameAndType 20 21), (0, u "groups"), (0, u "[Ljava/lang/String;"), (0, .fieldref 11 23), (0, .nameAndType 24 21), (0, u "keys"), (0, .fieldref 11 26), (0, .nameAndType 27 28), (0, u "slots"), (0, u "[I"), (0, .fieldref 11 30), (0, .nameAndType 31 32), (0, u "mask"), (0, u "I"), (0, .fieldref 11 34), (0, .nameAndType 35 32), (0, u "count"), (0, .methodref 11 37), (0, .nameAndType 38 39), (0, u "slotOf"), (0, u "(Ljava/lang/String;Ljava/lang/String;)I"), (4, .methodref 11 45), (0, .nameAndType 46 47), (0, u "addRepeat"), (0, u "(II)I"), (3, .fieldref 11 52), (0, .nameAndType 53 28), (0, u "repeats"), (22, u "()I"), (0, .methodref 16 78), (0, .nameAndType 79 76), (0, u "hashCode"), (0, .methodref 16 81), (0, .nameAndType 82 83), (0, u "equals"), (0, u "(Ljava/lang/Object;)Z"), (0, u "PROBES"), (4, u "(I)V"), (3, u "add"), (4, u "firstOf"), (0, u "(I)I")] 2

def k10c0 : Code := { maxStack := 3, maxLocals := 3, code := prog_47_method_1_code, exceptionTable := #[], attributes := #[] }
def k10m0 : Method := { name := "<init>", desc := "(I)V", sig := { parameters := [.int], returnType := none }, accessFlags := 0, code := some k10c0 }
def k10c1 : Code := { maxStack := 4, maxLocals := 5, code := prog_47_method_2_code, exceptionTable := #[], attributes := #[] }
def k10m1 : Method := { name := "add", desc := "(Ljava/lang/String;Ljava/lang/String;)I", sig := { parameters := [(.object "java/lang/String"), (.object "java/lang/String")], returnType := some .int }, accessFlags := 0, code := some k10c1 }
def k10c2 : Code := { maxStack := 2, maxLocals := 2, code := prog_47_method_6_code, exceptionTable := #[], attributes := #[] }
def k10m2 : Method := { name := "firstOf", desc := "(I)I", sig := { parameters := [.int], returnType := some .int }, accessFlags := 0, code := some k10c2 }
def k10c3 : Code := { maxStack := 4, maxLocals := 3, code := prog_47_method_7_code, exceptionTable := #[], attributes := #[] }
def k10m3 : Method := { name := "addRepeat", desc := "(II)I", sig := { parameters := [.int, .int], returnType := some .int }, accessFlags := 2, code := some k10c3 }
def k10c4 : Code := { maxStack := 3, maxLocals := 7, code := prog_47_method_10_code, exceptionTable := #[], attributes := #[] }
def k10m4 : Method := { name := "slotOf", desc := "(Ljava/lang/String;Ljava/lang/String;)I", sig := { parameters := [(.object "java/lang/String"), (.object "java/lang/String")], returnType := some .int }, accessFlags := 2, code := some k10c4 }
/-- com/example/entryway/entryway/KeyIndex -/
def k10 : Class := { plain "com/example/entryway/entryway/KeyIndex" (some 0) with
  accessFlags := 48
  interfaces := #[]
  cf := some (fileOf pool10 11 #[] #[{ accessFlags := 0, nameIndex := 5, descriptorIndex := 89, attributes := #[] }, { accessFlags := 0, nameIndex := 93, descriptorIndex := 39, attributes := #[] }, { accessFlags := 0, nameIndex := 98, descriptorIndex := 99, attributes := #[] }, { accessFlags := 2, nameIndex := 46, descriptorIndex := 47, attributes := #[] }, { accessFlags := 2, nameIndex := 38, descriptorIndex := 39, attributes := #[] }] 48 2 #[] #[{ accessFlags := 26, nameIndex := 84, descriptorIndex := 32, attributes := #[] }, { accessFlags := 2, nameIndex := 35, descriptorIndex := 32, attributes := #[] }, { accessFlags := 18, nameIndex := 20, descriptorIndex := 21, attributes := #[] }, { accessFlags := 18, nameIndex := 24, descriptorIndex := 21, attributes := #[] }, { accessFlags := 18, nameIndex := 27, descriptorIndex := 28, attributes := #[] }, { accessFlags := 18, nameIndex := 31, descriptorIndex := 32, attributes := #[] }, { accessFlags := 2, nameIndex := 53, descriptorIndex := 28, attributes := #[] }, { accessFlags := 18, nameIndex := 14, descriptorIndex := 15, attributes := #[] }])
  fields := #[{ name := "PROBES", type := .int, accessFlags := 26, slot := 0, constantValue := 0 }, { name := "count", type := .int, accessFlags := 2, slot := 0, constantValue := 0 }, { name := "groups", type := (.array (.object "java/lang/String")), accessFlags := 18, slot := 1, constantValue := 0 }, { name := "keys", type := (.array (.object "java/lang/String")), accessFlags := 18, slot := 2, constantValue := 0 }, { name := "slots", type := (.array .int), accessFlags := 18, slot := 3, constantValue := 0 }, { name := "mask", type := .int, accessFlags := 18, slot := 4, constantValue := 0 }, { name := "repeats", type := (.array .int), accessFlags := 2, slot := 5, constantValue := 0 }, { name := "overflow", type := (.object "java/util/Map"), accessFlags := 18, slot := 6, constantValue := 0 }]
  methods := #[k10m0, k10m1, k10m2, k10m3, k10m4]
  instanceTypes := #[.int, (.array (.object "java/lang/String")), (.array (.object "java/lang/String")), (.array .int), .int, (.array .int), (.object "java/util/Map")]
  staticTypes := #[.int]
  resolved := Array.replicate 102 none
  statics := none }

def pool11 : Array CpInfo := pool [(2, .class_ 4), (1, u "java/util/Map"), (31, .class_ 37), (0, u "java/util/Map$Entry"), (55, .class_ 94), (0, u "java/lang/Object")] 168

/-- java/util/Map -/
def k11 : Class := { plain "java/util/Map" (some 0) with
  accessFlags := 1537
  interfaces := #[]
  cf := some (fileOf pool11 2 #[.nestMembers #[36]] #[] 1537 93 #[] #[])
  fields := #[]
  methods := #[]
  instanceTypes := #[]
  staticTypes := #[]
  resolved := Array.replicate 263 none
  statics := none }

def pool12 : Array CpInfo := pool [(1, .methodref 2 3), (0, .class_ 4), (0, .nameAndType 5 6), (0, u "java/lang/Object"), (0, u "<init>"), (0, u "()V"), (1, .class_ 10), (1, u "java/util/AbstractMap"), (42, .class_ 54), (0, u "java/util/Map"), (9, u "keySet"), (0, u "Ljava/util/Set;"), (0, .class_ 67), (0, u "java/util/AbstractMap$1"), (5, u "values"), (0, u "Ljava/util/Collection;"), (0, .class_ 76), (0, u "java/util/AbstractMap$2"), (104, .class_ 182), (0, u "java/util/AbstractMap$ViewCollection"), (0, .class_ 184), (0, u "java/util/AbstractMap$SimpleImmutableEntry"), (0, .class_ 186), (0, u "java/util/AbstractMap$SimpleEntry"), (0, .class_ 188), (0, u "java/util/AbstractMap$2$1"), (0, .class_ 190), (0, u "java/util/AbstractMap$1$1")] 5

def k12c0 : Code := { maxStack := 1, maxLocals := 1, code := jdk_71_method_1_code, exceptionTable := #[], attributes := #[] }
def k12m0 : Method := { name := "<init>", desc := "()V", sig := { parameters := [], returnType := none }, accessFlags := 4, code := some k12c0 }
/-- java/util/AbstractMap -/
def k12 : Class := { plain "java/util/AbstractMap" (some 0) with
  accessFlags := 1057
  interfaces := #[11]
  cf := some (fileOf pool12 8 #[.nestMembers #[181, 183, 185, 75, 187, 66, 189]] #[{ accessFlags := 4, nameIndex := 5, descriptorIndex := 6, attributes := #[] }] 1057 2 #[53] #[{ accessFlags := 128, nameIndex := 64, descriptorIndex := 65, attributes := #[] }, { accessFlags := 128, nameIndex := 73, descriptorIndex := 74, attributes := #[] }])
  fields := #[{ name := "keySet", type := (.object "java/util/Set"), accessFlags := 128, slot := 0, constantValue := 0 }, { name := "values", type := (.object "java/util/Collection"), accessFlags := 128, slot := 1, constantValue := 0 }]
  methods := #[k12m0]
  instanceTypes := #[(.object "java/util/Set"), (.object "java/util/Collection")]
  staticTypes := #[]
  resolved := Array.replicate 196 none
  statics := none }

def pool13 : Array CpInfo := pool [(2, .class_ 4), (1, u "java/util/SequencedMap"), (38, .class_ 44), (0, u "java/util/SequencedMap$1SeqKeySet"), (3, .class_ 49), (0, u "java/util/SequencedMap$1SeqValues"), (1, .class_ 52), (0, u "java/util/SequencedMap$1SeqEntrySet"), (1, .class_ 55), (0, u "java/lang/Object"), (0, .class_ 57), (0, u "java/util/Map")] 48

/-- java/util/SequencedMap -/
def k13 : Class := { plain "java/util/SequencedMap" (some 0) with
  accessFlags := 1537
  interfaces := #[11]
  cf := some (fileOf pool13 2 #[.nestMembers #[51, 48, 43]] #[] 1537 54 #[56] #[])
  fields := #[]
  methods := #[]
  instanceTypes := #[]
  staticTypes := #[]
  resolved := Array.replicate 106 none
  statics := none }

def pool14 : Array CpInfo := pool [(14, .class_ 16), (1, u "java/util/SortedMap"), (2, .class_ 20), (0, u "java/lang/Object"), (0, .class_ 22), (0, u "java/util/SequencedMap")] 50

/-- java/util/SortedMap -/
def k14 : Class := { plain "java/util/SortedMap" (some 0) with
  accessFlags := 1537
  interfaces := #[13]
  cf := some (fileOf pool14 14 #[] #[] 1537 19 #[21] #[])
  fields := #[]
  methods := #[]
  instanceTypes := #[]
  staticTypes := #[]
  resolved := Array.replicate 73 none
  statics := none }

def pool15 : Array CpInfo := pool [(2, .class_ 4), (1, u "java/util/NavigableMap"), (5, .class_ 11), (0, u "java/lang/Object"), (0, .class_ 13), (0, u "java/util/SortedMap")] 53

/-- java/util/NavigableMap -/
def k15 : Class := { plain "java/util/NavigableMap" (some 0) with
  accessFlags := 1537
  interfaces := #[14]
  cf := some (fileOf pool15 2 #[] #[] 1537 10 #[12] #[])
  fields := #[]
  methods := #[]
  instanceTypes := #[]
  staticTypes := #[]
  resolved := Array.replicate 67 none
  statics := none }

def pool16 : Array CpInfo := pool [(1, .class_ 2), (0, u "java/lang/Cloneable"), (0, .class_ 4), (0, u "java/lang/Object")] 2

/-- java/lang/Cloneable -/
def k16 : Class := { plain "java/lang/Cloneable" (some 0) with
  accessFlags := 1537
  interfaces := #[]
  cf := some (fileOf pool16 1 #[] #[] 1537 3 #[] #[])
  fields := #[]
  methods := #[]
  instanceTypes := #[]
  staticTypes := #[]
  resolved := Array.replicate 7 none
  statics := none }

def pool17 : Array CpInfo := pool [(1, .methodref 2 3), (0, .class_ 4), (0, .nameAndType 5 6), (0, u "java/util/AbstractMap"), (0, u "<init>"), (0, u "()V"), (0, .fieldref 8 9), (0, .class_ 10), (0, .nameAndType 11 12), (0, u "java/util/TreeMap"), (0, u "size"), (0, u "I"), (0, .fieldref 8 14), (0, .nameAndType 15 12), (0, u "modCount"), (0, .fieldref 8 17), (0, .nameAndType 18 19), (0, u "comparator"), (0, u "Ljava/util/Comparator;"), (14, u "entrySet"), (24, .class_ 61), (1, u "java/util/TreeMap$Entry"), (1, u "Ljava/lang/Object;"), (39, u "root"), (0, u "Ljava/util/TreeMap$Entry;"), (85, u "Ljava/util/TreeMap$EntrySet;"), (2, u "navigableKeySet"), (0, u "Ljava/util/TreeMap$KeySet;"), (2, u "descendingMap"), (0, u "Ljava/util/NavigableMap;"), (23, .class_ 223), (0, u "java/util/TreeMap$KeySet"), (7, .class_ 232), (0, u "java/util/NavigableMap"), (4, .class_ 238), (0, u "java/util/TreeMap$Values"), (3, .class_ 243), (0, u "java/util/TreeMap$EntrySet"), (1, .class_ 246), (0, u "java/util/TreeMap$DescendingSubMap"), (3, .class_ 251), (0, u "java/util/TreeMap$AscendingSubMap"), (17, .class_ 270), (0, u "java/util/TreeMap$KeyIterator"), (3, .class_ 275), (0, u "java/util/TreeMap$DescendingKeyIterator"), (17, u "Z"), (94, .class_ 389), (0, u "java/util/TreeMap$NavigableSubMap"), (1, .class_ 392), (0, u "java/util/TreeMap$KeySpliterator"), (3, .class_ 397), (0, u "java/util/TreeMap$DescendingKeySpliterator"), (4, u "UNBOUNDED"), (0, .class_ 404), (0, u "java/lang/Cloneable"), (0, .class_ 406), (0, u "java/io/Serializable"), (6, u "RED"), (2, u "BLACK"), (1, u "serialVersionUID"), (0, u "J"), (214, .class_ 635), (0, u "java/util/TreeMap$EntrySpliterator"), (0, .class_ 637), (0, u "java/util/TreeMap$ValueSpliterator"), (0, .class_ 639), (0, u "java/util/TreeMap$TreeMapSpliterator"), (0, .class_ 641), (0, u "java/util/TreeMap$SubMap"), (0, .class_ 643), (0, u "java/util/TreeMap$DescendingSubMap$DescendingEntrySetView"), (0, .class_ 645), (0, u "java/util/TreeMap$AscendingSubMap$AscendingEntrySetView"), (0, .class_ 647), (0, u "java/util/TreeMap$NavigableSubMap$DescendingSubMapKeyIterator"), (0, .class_ 649), (0, u "java/util/TreeMap$NavigableSubMap$SubMapKeyIterator"), (0, .class_ 651), (0, u "java/util/TreeMap$NavigableSubMap$DescendingSubMapEntryIterator"), (0, .class_ 653), (0, u "java/util/TreeMap$NavigableSubMap$SubMapEntryIterator"), (0, .class_ 655), (0, u "java/util/TreeMap$NavigableSubMap$SubMapIterator"), (0, .class_ 657), (0, u "java/util/TreeMap$NavigableSubMap$EntrySetView"), (0, .class_ 659), (0, u "java/util/TreeMap$ValueIterator"), (0, .class_ 661), (0, u "java/util/TreeMap$EntryIterator"), (0, .class_ 663), (0, u "java/util/TreeMap$PrivateEntryIterator")] 28

def k17c0 : Code := { maxStack := 2, maxLocals := 1, code := jdk_2729_method_1_code, exceptionTable := #[], attributes := #[] }
def k17m0 : Method := { name := "<init>", desc := "()V", sig := { parameters := [], returnType := none }, accessFlags := 1, code := some k17c0 }
/-- java/util/TreeMap -/
def k17 : Class := { plain "java/util/TreeMap" (some 12) with
  accessFlags := 33
  interfaces := #[15, 16, 2]
  cf := some (fileOf pool17 8 #[.nestMembers #[634, 636, 396, 391, 638, 59, 640, 245, 642, 250, 644, 388, 646, 648, 650, 652, 654, 656, 274, 269, 658, 660, 662, 222, 242, 237]] #[{ accessFlags := 1, nameIndex := 5, descriptorIndex := 6, attributes := #[] }] 33 2 #[231, 403, 405] #[{ accessFlags := 18, nameIndex := 18, descriptorIndex := 19, attributes := #[] }, { accessFlags := 130, nameIndex := 103, descriptorIndex := 104, attributes := #[] }, { accessFlags := 130, nameIndex := 11, descriptorIndex := 12, attributes := #[] }, { accessFlags := 130, nameIndex := 15, descriptorIndex := 12, attributes := #[] }, { accessFlags := 130, nameIndex := 34, descriptorIndex := 190, attributes := #[] }, { accessFlags := 130, nameIndex := 193, descriptorIndex := 194, attributes := #[] }, { accessFlags := 130, nameIndex := 197, descriptorIndex := 198, attributes := #[] }, { accessFlags := 26, nameIndex := 402, descriptorIndex := 63, attributes := #[] }, { accessFlags := 26, nameIndex := 413, descriptorIndex := 293, attributes := #[] }, { accessFlags := 26, nameIndex := 416, descriptorIndex := 293, attributes := #[] }, { accessFlags := 26, nameIndex := 418, descriptorIndex := 419, attributes := #[] }])
  fields := #[{ name := "comparator", type := (.object "java/util/Comparator"), accessFlags := 18, slot := 2, constantValue := 0 }, { name := "root", type := (.object "java/util/TreeMap$Entry"), accessFlags := 130, slot := 3, constantValue := 0 }, { name := "size", type := .int, accessFlags := 130, slot := 4, constantValue := 0 }, { name := "modCount", type := .int, accessFlags := 130, slot := 5, constantValue := 0 }, { name := "entrySet", type := (.object "java/util/TreeMap$EntrySet"), accessFlags := 130, slot := 6, constantValue := 0 }, { name := "navigableKeySet", type := (.object "java/util/TreeMap$KeySet"), accessFlags := 130, slot := 7, constantValue := 0 }, { name := "descendingMap", type := (.object "java/util/NavigableMap"), accessFlags := 130, slot := 8, constantValue := 0 }, { name := "UNBOUNDED", type := (.object "java/lang/Object"), accessFlags := 26, slot := 0, constantValue := 0 }, { name := "RED", type := .boolean, accessFlags := 26, slot := 1, constantValue := 0 }, { name := "BLACK", type := .boolean, accessFlags := 26, slot := 2, constantValue := 0 }, { name := "serialVersionUID", type := .long, accessFlags := 26, slot := 3, constantValue := 0 }]
  methods := #[k17m0]
  instanceTypes := #[(.object "java/util/Set"), (.object "java/util/Collection"), (.object "java/util/Comparator"), (.object "java/util/TreeMap$Entry"), .int, .int, (.object "java/util/TreeMap$EntrySet"), (.object "java/util/TreeMap$KeySet"), (.object "java/util/NavigableMap")]
  staticTypes := #[(.object "java/lang/Object"), .boolean, .boolean, .long]
  resolved := Array.replicate 692 none
  statics := none }

def pool18 : Array CpInfo := pool [(9, u "<init>"), (6, .class_ 18), (1, u "java/lang/Object"), (0, u "()V"), (1, .class_ 23), (1, u "jdk/internal/util/ArraysSupport"), (0, u "LOG2_ARRAY_LONG_INDEX_SCALE"), (0, u "I"), (2, u "U"), (0, u "Ljdk/internal/misc/Unsafe;"), (8, u "BIG_ENDIAN"), (0, u "Z"), (8, u "LOG2_BYTE_BIT_SIZE"), (4, u "LOG2_ARRAY_INT_INDEX_SCALE"), (6, .class_ 61), (0, u "[B"), (0, .methodref 21 63), (0, .nameAndType 64 65), (0, u "signedHashCode"), (0, u "(I[BII)I"), (42, u "JLA"), (0, u "Ljdk/internal/access/JavaLangAccess;"), (11, u "LOG2_ARRAY_BOOLEAN_INDEX_SCALE"), (9, u "LOG2_ARRAY_BYTE_INDEX_SCALE"), (5, u "LOG2_ARRAY_CHAR_INDEX_SCALE"), (5, u "LOG2_ARRAY_SHORT_INDEX_SCALE"), (18, u "LOG2_ARRAY_FLOAT_INDEX_SCALE"), (24, u "LOG2_ARRAY_DOUBLE_INDEX_SCALE"), (89, u "T_BOOLEAN"), (2, u "T_CHAR"), (1, u "T_FLOAT"), (1, u "T_DOUBLE"), (1, u "T_BYTE"), (1, u "T_SHORT"), (1, u "T_INT"), (1, u "T_LONG"), (1, u "SOFT_MAX_ARRAY_LENGTH"), (26, u "vectorizedHashCode"), (0, u "(Ljava/lang/Object;IIII)I")] 55

def k18m0 : Method := { name := "<init>", desc := "()V", sig := { parameters := [], returnType := none }, accessFlags := 2, code := none }
def k18c1 : Code := { maxStack := 4, maxLocals := 5, code := jdk_48_method_4_code, exceptionTable := #[], attributes := #[] }
def k18m1 : Method := { name := "vectorizedHashCode", desc := "(Ljava/lang/Object;IIII)I", sig := { parameters := [(.object "java/lang/Object"), .int, .int, .int, .int], returnType := some .int }, accessFlags := 9, code := some k18c1 }
def k18c2 : Code := { maxStack := 3, maxLocals := 6, code := jdk_48_method_5_code, exceptionTable := #[], attributes := #[] }
def k18m2 : Method := { name := "signedHashCode", desc := "(I[BII)I", sig := { parameters := [.int, (.array .byte), .int, .int], returnType := some .int }, accessFlags := 10, code := some k18c2 }
/-- jdk/internal/util/ArraysSupport -/
def k18 : Class := { plain "jdk/internal/util/ArraysSupport" (some 0) with
  accessFlags := 33
  interfaces := #[]
  cf := some (fileOf pool18 21 #[] #[{ accessFlags := 2, nameIndex := 9, descriptorIndex := 19, attributes := #[] }, { accessFlags := 9, nameIndex := 321, descriptorIndex := 322, attributes := #[] }, { accessFlags := 10, nameIndex := 64, descriptorIndex := 65, attributes := #[] }] 33 16 #[] #[{ accessFlags := 24, nameIndex := 28, descriptorIndex := 29, attributes := #[] }, { accessFlags := 26, nameIndex := 38, descriptorIndex := 39, attributes := #[] }, { accessFlags := 25, nameIndex := 121, descriptorIndex := 25, attributes := #[] }, { accessFlags := 25, nameIndex := 131, descriptorIndex := 25, attributes := #[] }, { accessFlags := 25, nameIndex := 137, descriptorIndex := 25, attributes := #[] }, { accessFlags := 25, nameIndex := 143, descriptorIndex := 25, attributes := #[] }, { accessFlags := 25, nameIndex := 53, descriptorIndex := 25, attributes := #[] }, { accessFlags := 25, nameIndex := 24, descriptorIndex := 25, attributes := #[] }, { accessFlags := 25, nameIndex := 162, descriptorIndex := 25, attributes := #[] }, { accessFlags := 25, nameIndex := 187, descriptorIndex := 25, attributes := #[] }, { accessFlags := 26, nameIndex := 48, descriptorIndex := 25, attributes := #[] }, { accessFlags := 25, nameIndex := 277, descriptorIndex := 25, attributes := #[] }, { accessFlags := 25, nameIndex := 280, descriptorIndex := 25, attributes := #[] }, { accessFlags := 25, nameIndex := 282, descriptorIndex := 25, attributes := #[] }, { accessFlags := 25, nameIndex := 284, descriptorIndex := 25, attributes := #[] }, { accessFlags := 25, nameIndex := 286, descriptorIndex := 25, attributes := #[] }, { accessFlags := 25, nameIndex := 288, descriptorIndex := 25, attributes := #[] }, { accessFlags := 25, nameIndex := 290, descriptorIndex := 25, attributes := #[] }, { accessFlags := 25, nameIndex := 292, descriptorIndex := 25, attributes := #[] }, { accessFlags := 26, nameIndex := 108, descriptorIndex := 109, attributes := #[] }, { accessFlags := 25, nameIndex := 294, descriptorIndex := 25, attributes := #[] }])
  fields := #[{ name := "U", type := (.object "jdk/internal/misc/Unsafe"), accessFlags := 24, slot := 0, constantValue := 0 }, { name := "BIG_ENDIAN", type := .boolean, accessFlags := 26, slot := 1, constantValue := 0 }, { name := "LOG2_ARRAY_BOOLEAN_INDEX_SCALE", type := .int, accessFlags := 25, slot := 2, constantValue := 0 }, { name := "LOG2_ARRAY_BYTE_INDEX_SCALE", type := .int, accessFlags := 25, slot := 3, constantValue := 0 }, { name := "LOG2_ARRAY_CHAR_INDEX_SCALE", type := .int, accessFlags := 25, slot := 4, constantValue := 0 }, { name := "LOG2_ARRAY_SHORT_INDEX_SCALE", type := .int, accessFlags := 25, slot := 5, constantValue := 0 }, { name := "LOG2_ARRAY_INT_INDEX_SCALE", type := .int, accessFlags := 25, slot := 6, constantValue := 0 }, { name := "LOG2_ARRAY_LONG_INDEX_SCALE", type := .int, accessFlags := 25, slot := 7, constantValue := 0 }, { name := "LOG2_ARRAY_FLOAT_INDEX_SCALE", type := .int, accessFlags := 25, slot := 8, constantValue := 0 }, { name := "LOG2_ARRAY_DOUBLE_INDEX_SCALE", type := .int, accessFlags := 25, slot := 9, constantValue := 0 }, { name := "LOG2_BYTE_BIT_SIZE", type := .int, accessFlags := 26, slot := 10, constantValue := 0 }, { name := "T_BOOLEAN", type := .int, accessFlags := 25, slot := 11, constantValue := 0 }, { name := "T_CHAR", type := .int, accessFlags := 25, slot := 12, constantValue := 0 }, { name := "T_FLOAT", type := .int, accessFlags := 25, slot := 13, constantValue := 0 }, { name := "T_DOUBLE", type := .int, accessFlags := 25, slot := 14, constantValue := 0 }, { name := "T_BYTE", type := .int, accessFlags := 25, slot := 15, constantValue := 0 }, { name := "T_SHORT", type := .int, accessFlags := 25, slot := 16, constantValue := 0 }, { name := "T_INT", type := .int, accessFlags := 25, slot := 17, constantValue := 0 }, { name := "T_LONG", type := .int, accessFlags := 25, slot := 18, constantValue := 0 }, { name := "JLA", type := (.object "jdk/internal/access/JavaLangAccess"), accessFlags := 26, slot := 19, constantValue := 0 }, { name := "SOFT_MAX_ARRAY_LENGTH", type := .int, accessFlags := 25, slot := 20, constantValue := 0 }]
  methods := #[k18m0, k18m1, k18m2]
  instanceTypes := #[]
  staticTypes := #[(.object "jdk/internal/misc/Unsafe"), .boolean, .int, .int, .int, .int, .int, .int, .int, .int, .int, .int, .int, .int, .int, .int, .int, .int, .int, (.object "jdk/internal/access/JavaLangAccess"), .int]
  resolved := Array.replicate 378 none
  statics := none }

def pool19 : Array CpInfo := pool [(2, .class_ 4), (1, u "java/lang/Object"), (0, u "<init>"), (0, u "()V"), (17, .class_ 26), (1, u "jdk/internal/util/Preconditions"), (28, .class_ 56), (0, u "jdk/internal/util/Preconditions$4"), (57, .class_ 115), (0, u "jdk/internal/util/Preconditions$1"), (7, u "SIOOBE_FORMATTER"), (0, u "Ljava/util/function/BiFunction;"), (0, .class_ 126), (0, u "jdk/internal/util/Preconditions$2"), (3, u "AIOOBE_FORMATTER"), (0, .class_ 132), (0, u "jdk/internal/util/Preconditions$3"), (3, u "IOOBE_FORMATTER")] 57

def k19m0 : Method := { name := "<init>", desc := "()V", sig := { parameters := [], returnType := none }, accessFlags := 1, code := none }
/-- jdk/internal/util/Preconditions -/
def k19 : Class := { plain "jdk/internal/util/Preconditions" (some 0) with
  accessFlags := 33
  interfaces := #[]
  cf := some (fileOf pool19 24 #[.nestMembers #[55, 131, 125, 114]] #[{ accessFlags := 1, nameIndex := 5, descriptorIndex := 6, attributes := #[] }] 33 2 #[] #[{ accessFlags := 25, nameIndex := 123, descriptorIndex := 124, attributes := #[] }, { accessFlags := 25, nameIndex := 130, descriptorIndex := 124, attributes := #[] }, { accessFlags := 25, nameIndex := 136, descriptorIndex := 124, attributes := #[] }])
  fields := #[{ name := "SIOOBE_FORMATTER", type := (.object "java/util/function/BiFunction"), accessFlags := 25, slot := 0, constantValue := 0 }, { name := "AIOOBE_FORMATTER", type := (.object "java/util/function/BiFunction"), accessFlags := 25, slot := 1, constantValue := 0 }, { name := "IOOBE_FORMATTER", type := (.object "java/util/function/BiFunction"), accessFlags := 25, slot := 2, constantValue := 0 }]
  methods := #[k19m0]
  instanceTypes := #[]
  staticTypes := #[(.object "java/util/function/BiFunction"), (.object "java/util/function/BiFunction"), (.object "java/util/function/BiFunction")]
  resolved := Array.replicate 194 none
  statics := some 1 }

/-- the primitive byte -/
def k20 : Class := { plain "byte" none with kind := .primitive 'B', accessFlags := 0x411 }
/-- [B -/
def k21 : Class := { plain "[B" (some 0) with kind := .array 20 .byte, interfaces := #[16, 2], accessFlags := 1041 }

/-- the primitive char -/
def k22 : Class := { plain "char" none with kind := .primitive 'C', accessFlags := 0x411 }
/-- [C -/
def k23 : Class := { plain "[C" (some 0) with kind := .array 22 .char, interfaces := #[16, 2], accessFlags := 1041 }

/-- the primitive int -/
def k24 : Class := { plain "int" none with kind := .primitive 'I', accessFlags := 0x411 }
/-- [I -/
def k25 : Class := { plain "[I" (some 0) with kind := .array 24 .int, interfaces := #[16, 2], accessFlags := 1041 }

/-- [Ljava/lang/String; -/
def k26 : Class := { plain "[Ljava/lang/String;" (some 0) with kind := .array 7 (.object "java/lang/String"), interfaces := #[16, 2], accessFlags := 1041 }

def heap : Heap := #[{ cls := 7, slots := #[.long 0, .int 1, .null, .int 0, .null, .int 0, .int 0], vm := .statics 7 },
  { cls := 19, slots := #[.null, .null, .null], vm := .statics 19 }]
def classes : Array Class := #[k0, k1, k2, k3, k4, k5, k6, k7, k8, k9, k10, k11, k12, k13, k14, k15, k16, k17, k18, k19, k20, k21, k22, k23, k24, k25, k26]
def interned : List (Array UInt16 × Addr) := []
def slotsUsed : Nat := 10
def theMethod : MethodId := ⟨1, 1⟩
def args0 : Array Value := #[.int 5, .int 6, .int 7, .int 8]
def aboutOver (below : List Frame) : State where
  vm := { classes := classes, interned := interned.toArray }
  heap := heap
  slotsUsed := slotsUsed
  threads := #[{ frames := .invoking theMethod args0 :: below }]
def below0 : List Frame := [.native { method := ⟨0, 0⟩, args := #[] }]
def about1 : State := aboutOver below0
def p0 : Program := .bare "" "" ""
def e0 : Env := launch0.env 0 0 0
theorem w_frames : about1.frames = Frame.invoking theMethod args0 :: below0 := rfl
set_option maxRecDepth 65536 in
theorem w_args : argsFit about1.vm theMethod args0 = true := by decide +kernel
set_option maxRecDepth 65536 in
theorem w_heap : heapFits about1 = true := by decide +kernel
set_option maxRecDepth 65536 in
theorem w_runnable : about1.curStatus? = some .runnable := by decide +kernel
set_option maxRecDepth 65536 in
theorem w_alone : about1.alone = true := by decide +kernel
set_option maxRecDepth 65536 in
theorem w_named : about1.methodNamed? x = some theMethod := by decide +kernel
set_option maxRecDepth 65536 in
theorem w_hears : about1.hears theMethod below0 = true := by decide +kernel
set_option maxRecDepth 65536 in
theorem w_ripe : about1.ripe theMethod args0 below0 = true := by decide +kernel
theorem w_running : about1.status = .running := rfl
set_option maxRecDepth 65536 in
theorem w_room : about1.hasRoom e0.platform room_1 = true :=
  launch0.hasRoom_least _ room_1 (by decide +kernel) (by decide +kernel) (by decide +kernel) (by decide +kernel) (by decide +kernel) (by decide +kernel)
theorem allAtoms_all (ts : List Jvm.Cond) (a : Array Jvm.Value) (st : Jvm.State) : (allAtoms ts).before a st = ts.all (fun c => c.before a st) := by
  induction ts with
  | nil => rfl
  | cons c t ih =>
    show (Jvm.Cond.and c (allAtoms t)).before a st = _
    rw [Jvm.Cond.before_and, ih, List.all_cons]
def words1 : List Jvm.Cond := Jvm.Cond.code x code maxLocals ret :: tables_1
/-- a 'code' word, met by the world's own term for the bytes: nothing is compared byte by byte -/
theorem code_word {y : MethodName} {bytes : ByteArray} {mx : Nat} {rt : Option FieldType} {a : Array Value} {s : State} {m : MethodId} {meth : Method} {c : Code} (h1 : s.methodNamed? y = some m) (h2 : s.vm.method? m = some meth) (h3 : meth.code = some c) (h4 : c.code = bytes)
    (h5 : (c.maxLocals == mx && c.exceptionTable.isEmpty && decide (c.maxStack ≤ mostOperands) && decide (meth.sig.returnType = rt) && !meth.locks && decide (parseMethodDescriptor y.desc = some meth.sig)) = true) : (Jvm.Cond.code y bytes mx rt).before a s = true := by
  simp only [Bool.and_eq_true, beq_iff_eq, Bool.not_eq_true', decide_eq_true_eq] at h5
  obtain ⟨⟨⟨⟨⟨g1, g2⟩, g3⟩, g4⟩, g5⟩, g6⟩ := h5
  simp [Cond.before, Cond.holds, Cond.value, h1, h2, h3, h4, g1, g2, g3, g4, g5, g6]
def isCode : Jvm.Cond → Bool
  | .code _ _ _ _ => true
  | _ => false
theorem all_split {L : List Jvm.Cond} {P : Jvm.Cond → Bool} (h1 : L.all (fun c => isCode c || P c) = true) (h2 : ∀ c ∈ L.filter isCode, P c = true) : L.all P = true := by
  refine List.all_eq_true.mpr fun c hc => ?_
  have h := List.all_eq_true.mp h1 c hc
  rcases Bool.eq_false_or_eq_true (isCode c) with hi | hi
  · exact h2 c (List.mem_filter.mpr ⟨hc, hi⟩)
  · simpa [hi] using h
set_option maxRecDepth 65536 in
theorem w_c0 : (Jvm.Cond.code x code maxLocals ret).before args0 about1 = true := code_word (m := ⟨1, 1⟩) (meth := k1m1) (c := k1c1) (by decide +kernel) rfl rfl rfl (by decide +kernel)
set_option maxRecDepth 65536 in
theorem w_c1 : (Jvm.Cond.code ({ cls := "java/lang/String", name := "<init>", desc := "([C)V" } : Jvm.MethodName) jdk_42_method_3_code (2 : Nat) (Option.none : Option Jvm.ClassFile.FieldType)).before args0 about1 = true := code_word (m := ⟨7, 1⟩) (meth := k7m1) (c := k7c1) (by decide +kernel) rfl rfl rfl (by decide +kernel)
set_option maxRecDepth 65536 in
theorem w_c2 : (Jvm.Cond.code ({ cls := "java/lang/String", name := "<init>", desc := "([CIILjava/lang/Void;)V" } : Jvm.MethodName) jdk_42_method_149_code (6 : Nat) (Option.none : Option Jvm.ClassFile.FieldType)).before args0 about1 = true := code_word (m := ⟨7, 5⟩) (meth := k7m5) (c := k7c5) (by decide +kernel) rfl rfl rfl (by decide +kernel)
set_option maxRecDepth 65536 in
theorem w_c3 : (Jvm.Cond.code ({ cls := "java/lang/Object", name := "<init>", desc := "()V" } : Jvm.MethodName) object_method_1_code (1 : Nat) (Option.none : Option Jvm.ClassFile.FieldType)).before args0 about1 = true := code_word (m := ⟨0, 0⟩) (meth := k0m0) (c := k0c0) (by decide +kernel) rfl rfl rfl (by decide +kernel)
set_option maxRecDepth 65536 in
theorem w_c4 : (Jvm.Cond.code ({ cls := "java/lang/StringUTF16", name := "compress", desc := "([CII)[B" } : Jvm.MethodName) jdk_52_method_16_code (6 : Nat) (Option.some (Jvm.ClassFile.FieldType.array Jvm.ClassFile.FieldType.byte))).before args0 about1 = true := code_word (m := ⟨8, 2⟩) (meth := k8m2) (c := k8c2) (by decide +kernel) rfl rfl rfl (by decide +kernel)
set_option maxRecDepth 65536 in
theorem w_c5 : (Jvm.Cond.code ({ cls := "java/lang/StringUTF16", name := "compress", desc := "([CI[BII)I" } : Jvm.MethodName) jdk_52_method_21_code (7 : Nat) (Option.some Jvm.ClassFile.FieldType.int)).before args0 about1 = true := code_word (m := ⟨8, 3⟩) (meth := k8m3) (c := k8c3) (by decide +kernel) rfl rfl rfl (by decide +kernel)
set_option maxRecDepth 65536 in
theorem w_c6 : (Jvm.Cond.code ({ cls := "java/lang/StringUTF16", name := "coderFromArrayLen", desc := "([BI)B" } : Jvm.MethodName) jdk_52_method_15_code (2 : Nat) (Option.some Jvm.ClassFile.FieldType.byte)).before args0 about1 = true := code_word (m := ⟨8, 1⟩) (meth := k8m1) (c := k8c1) (by decide +kernel) rfl rfl rfl (by decide +kernel)
set_option maxRecDepth 65536 in
theorem w_c7 : (Jvm.Cond.code ({ cls := "java/lang/String", name := "valueOf", desc := "(C)Ljava/lang/String;" } : Jvm.MethodName) jdk_42_method_139_code (1 : Nat) (Option.some (Jvm.ClassFile.FieldType.object "java/lang/String"))).before args0 about1 = true := code_word (m := ⟨7, 4⟩) (meth := k7m4) (c := k7c4) (by decide +kernel) rfl rfl rfl (by decide +kernel)
set_option maxRecDepth 65536 in
theorem w_c8 : (Jvm.Cond.code ({ cls := "java/lang/StringLatin1", name := "canEncode", desc := "(C)Z" } : Jvm.MethodName) jdk_43_method_3_code (1 : Nat) (Option.some Jvm.ClassFile.FieldType.boolean)).before args0 about1 = true := code_word (m := ⟨9, 1⟩) (meth := k9m1) (c := k9c1) (by decide +kernel) rfl rfl rfl (by decide +kernel)
set_option maxRecDepth 65536 in
theorem w_c9 : (Jvm.Cond.code ({ cls := "java/lang/StringLatin1", name := "toBytes", desc := "(C)[B" } : Jvm.MethodName) jdk_43_method_46_code (1 : Nat) (Option.some (Jvm.ClassFile.FieldType.array Jvm.ClassFile.FieldType.byte))).before args0 about1 = true := code_word (m := ⟨9, 4⟩) (meth := k9m4) (c := k9c4) (by decide +kernel) rfl rfl rfl (by decide +kernel)
set_option maxRecDepth 65536 in
theorem w_c10 : (Jvm.Cond.code ({ cls := "java/lang/String", name := "<init>", desc := "([BB)V" } : Jvm.MethodName) jdk_42_method_151_code (3 : Nat) (Option.none : Option Jvm.ClassFile.FieldType)).before args0 about1 = true := code_word (m := ⟨7, 6⟩) (meth := k7m6) (c := k7c6) (by decide +kernel) rfl rfl rfl (by decide +kernel)
set_option maxRecDepth 65536 in
theorem w_c11 : (Jvm.Cond.code ({ cls := "com/example/entryway/entryway/KeyIndex", name := "<init>", desc := "(I)V" } : Jvm.MethodName) prog_47_method_1_code (3 : Nat) (Option.none : Option Jvm.ClassFile.FieldType)).before args0 about1 = true := code_word (m := ⟨10, 0⟩) (meth := k10m0) (c := k10c0) (by decide +kernel) rfl rfl rfl (by decide +kernel)
set_option maxRecDepth 65536 in
theorem w_c12 : (Jvm.Cond.code ({ cls := "java/util/TreeMap", name := "<init>", desc := "()V" } : Jvm.MethodName) jdk_2729_method_1_code (1 : Nat) (Option.none : Option Jvm.ClassFile.FieldType)).before args0 about1 = true := code_word (m := ⟨17, 0⟩) (meth := k17m0) (c := k17c0) (by decide +kernel) rfl rfl rfl (by decide +kernel)
set_option maxRecDepth 65536 in
theorem w_c13 : (Jvm.Cond.code ({ cls := "java/util/AbstractMap", name := "<init>", desc := "()V" } : Jvm.MethodName) jdk_71_method_1_code (1 : Nat) (Option.none : Option Jvm.ClassFile.FieldType)).before args0 about1 = true := code_word (m := ⟨12, 0⟩) (meth := k12m0) (c := k12c0) (by decide +kernel) rfl rfl rfl (by decide +kernel)
set_option maxRecDepth 65536 in
theorem w_c14 : (Jvm.Cond.code ({ cls := "com/example/entryway/entryway/KeyIndex", name := "add", desc := "(Ljava/lang/String;Ljava/lang/String;)I" } : Jvm.MethodName) prog_47_method_2_code (5 : Nat) (Option.some Jvm.ClassFile.FieldType.int)).before args0 about1 = true := code_word (m := ⟨10, 1⟩) (meth := k10m1) (c := k10c1) (by decide +kernel) rfl rfl rfl (by decide +kernel)
set_option maxRecDepth 65536 in
theorem w_c15 : (Jvm.Cond.code ({ cls := "com/example/entryway/entryway/KeyIndex", name := "slotOf", desc := "(Ljava/lang/String;Ljava/lang/String;)I" } : Jvm.MethodName) prog_47_method_10_code (7 : Nat) (Option.some Jvm.ClassFile.FieldType.int)).before args0 about1 = true := code_word (m := ⟨10, 4⟩) (meth := k10m4) (c := k10c4) (by decide +kernel) rfl rfl rfl (by decide +kernel)
set_option maxRecDepth 65536 in
theorem w_c16 : (Jvm.Cond.code ({ cls := "java/lang/String", name := "hashCode", desc := "()I" } : Jvm.MethodName) jdk_42_method_78_code (2 : Nat) (Option.some Jvm.ClassFile.FieldType.int)).before args0 about1 = true := code_word (m := ⟨7, 3⟩) (meth := k7m3) (c := k7c3) (by decide +kernel) rfl rfl rfl (by decide +kernel)
set_option maxRecDepth 65536 in
theorem w_c17 : (Jvm.Cond.code ({ cls := "java/lang/String", name := "isLatin1", desc := "()Z" } : Jvm.MethodName) jdk_42_method_154_code (1 : Nat) (Option.some Jvm.ClassFile.FieldType.boolean)).before args0 about1 = true := code_word (m := ⟨7, 7⟩) (meth := k7m7) (c := k7c7) (by decide +kernel) rfl rfl rfl (by decide +kernel)
set_option maxRecDepth 65536 in
theorem w_c18 : (Jvm.Cond.code ({ cls := "java/lang/StringLatin1", name := "hashCode", desc := "([B)I" } : Jvm.MethodName) jdk_43_method_21_code (1 : Nat) (Option.some Jvm.ClassFile.FieldType.int)).before args0 about1 = true := code_word (m := ⟨9, 3⟩) (meth := k9m3) (c := k9c3) (by decide +kernel) rfl rfl rfl (by decide +kernel)
set_option maxRecDepth 65536 in
theorem w_c19 : (Jvm.Cond.code ({ cls := "jdk/internal/util/ArraysSupport", name := "vectorizedHashCode", desc := "(Ljava/lang/Object;IIII)I" } : Jvm.MethodName) jdk_48_method_4_code (5 : Nat) (Option.some Jvm.ClassFile.FieldType.int)).before args0 about1 = true := code_word (m := ⟨18, 1⟩) (meth := k18m1) (c := k18c1) (by decide +kernel) rfl rfl rfl (by decide +kernel)
set_option maxRecDepth 65536 in
theorem w_c20 : (Jvm.Cond.code ({ cls := "jdk/internal/util/ArraysSupport", name := "signedHashCode", desc := "(I[BII)I" } : Jvm.MethodName) jdk_48_method_5_code (6 : Nat) (Option.some Jvm.ClassFile.FieldType.int)).before args0 about1 = true := code_word (m := ⟨18, 2⟩) (meth := k18m2) (c := k18c2) (by decide +kernel) rfl rfl rfl (by decide +kernel)
set_option maxRecDepth 65536 in
theorem w_c21 : (Jvm.Cond.code ({ cls := "java/lang/String", name := "equals", desc := "(Ljava/lang/Object;)Z" } : Jvm.MethodName) jdk_42_method_66_code (3 : Nat) (Option.some Jvm.ClassFile.FieldType.boolean)).before args0 about1 = true := code_word (m := ⟨7, 2⟩) (meth := k7m2) (c := k7c2) (by decide +kernel) rfl rfl rfl (by decide +kernel)
set_option maxRecDepth 65536 in
theorem w_c22 : (Jvm.Cond.code ({ cls := "com/example/entryway/entryway/KeyIndex", name := "addRepeat", desc := "(II)I" } : Jvm.MethodName) prog_47_method_7_code (3 : Nat) (Option.some Jvm.ClassFile.FieldType.int)).before args0 about1 = true := code_word (m := ⟨10, 3⟩) (meth := k10m3) (c := k10c3) (by decide +kernel) rfl rfl rfl (by decide +kernel)
set_option maxRecDepth 65536 in
theorem w_c23 : (Jvm.Cond.code ({ cls := "com/example/entryway/entryway/KeyIndex", name := "firstOf", desc := "(I)I" } : Jvm.MethodName) prog_47_method_6_code (2 : Nat) (Option.some Jvm.ClassFile.FieldType.int)).before args0 about1 = true := code_word (m := ⟨10, 2⟩) (meth := k10m2) (c := k10c2) (by decide +kernel) rfl rfl rfl (by decide +kernel)
set_option maxRecDepth 65536 in
theorem w_c24 : (Jvm.Cond.code ({ cls := "com/example/entryway/entryway/KeyIndexFirstOfPinLaw", name := "ref", desc := "([Ljava/lang/String;[Ljava/lang/String;I)I" } : Jvm.MethodName) method_4_code (3 : Nat) (Option.some Jvm.ClassFile.FieldType.int)).before args0 about1 = true := code_word (m := ⟨1, 3⟩) (meth := k1m3) (c := k1c3) (by decide +kernel) rfl rfl rfl (by decide +kernel)
set_option maxRecDepth 65536 in
theorem w_c25 : (Jvm.Cond.code ({ cls := "com/example/entryway/entryway/KeyIndexFirstOfPinLaw", name := "same", desc := "([Ljava/lang/String;[Ljava/lang/String;II)Z" } : Jvm.MethodName) method_3_code (4 : Nat) (Option.some Jvm.ClassFile.FieldType.boolean)).before args0 about1 = true := code_word (m := ⟨1, 2⟩) (meth := k1m2) (c := k1c2) (by decide +kernel) rfl rfl rfl (by decide +kernel)
set_option maxRecDepth 65536 in
theorem w_c26 : (Jvm.Cond.code ({ cls := "java/lang/StringLatin1", name := "equals", desc := "([B[B)Z" } : Jvm.MethodName) jdk_43_method_13_code (3 : Nat) (Option.some Jvm.ClassFile.FieldType.boolean)).before args0 about1 = true := code_word (m := ⟨9, 2⟩) (meth := k9m2) (c := k9c2) (by decide +kernel) rfl rfl rfl (by decide +kernel)
def codes1 : List Jvm.Cond := [Jvm.Cond.code x code maxLocals ret, Jvm.Cond.code ({ cls := "java/lang/String", name := "<init>", desc := "([C)V" } : Jvm.MethodName) jdk_42_method_3_code (2 : Nat) (Option.none : Option Jvm.ClassFile.FieldType), Jvm.Cond.code ({ cls := "java/lang/String", name := "<init>", desc := "([CIILjava/lang/Void;)V" } : Jvm.MethodName) jdk_42_method_149_code (6 : Nat) (Option.none : Option Jvm.ClassFile.FieldType), Jvm.Cond.code ({ cls := "java/lang/Object", name := "<init>", desc := "()V" } : Jvm.MethodName) object_method_1_code (1 : Nat) (Option.none : Option Jvm.ClassFile.FieldType), Jvm.Cond.code ({ cls := "java/lang/StringUTF16", name := "compress", desc := "([CII)[B" } : Jvm.MethodName) jdk_52_method_16_code (6 : Nat) (Option.some (Jvm.ClassFile.FieldType.array Jvm.ClassFile.FieldType.byte)), Jvm.Cond.code ({ cls := "java/lang/StringUTF16", name := "compress", desc := "([CI[BII)I" } : Jvm.MethodName) jdk_52_method_21_code (7 : Nat) (Option.some Jvm.ClassFile.FieldType.int), Jvm.Cond.code ({ cls := "java/lang/StringUTF16", name := "coderFromArrayLen", desc := "([BI)B" } : Jvm.MethodName) jdk_52_method_15_code (2 : Nat) (Option.some Jvm.ClassFile.FieldType.byte), Jvm.Cond.code ({ cls := "java/lang/String", name := "valueOf", desc := "(C)Ljava/lang/String;" } : Jvm.MethodName) jdk_42_method_139_code (1 : Nat) (Option.some (Jvm.ClassFile.FieldType.object "java/lang/String")), Jvm.Cond.code ({ cls := "java/lang/StringLatin1", name := "canEncode", desc := "(C)Z" } : Jvm.MethodName) jdk_43_method_3_code (1 : Nat) (Option.some Jvm.ClassFile.FieldType.boolean), Jvm.Cond.code ({ cls := "java/lang/StringLatin1", name := "toBytes", desc := "(C)[B" } : Jvm.MethodName) jdk_43_method_46_code (1 : Nat) (Option.some (Jvm.ClassFile.FieldType.array Jvm.ClassFile.FieldType.byte)), Jvm.Cond.code ({ cls := "java/lang/String", name := "<init>", desc := "([BB)V" } : Jvm.MethodName) jdk_42_method_151_code (3 : Nat) (Option.none : Option Jvm.ClassFile.FieldType), Jvm.Cond.code ({ cls := "com/example/entryway/entryway/KeyIndex", name := "<init>", desc := "(I)V" } : Jvm.MethodName) prog_47_method_1_code (3 : Nat) (Option.none : Option Jvm.ClassFile.FieldType), Jvm.Cond.code ({ cls := "java/util/TreeMap", name := "<init>", desc := "()V" } : Jvm.MethodName) jdk_2729_method_1_code (1 : Nat) (Option.none : Option Jvm.ClassFile.FieldType), Jvm.Cond.code ({ cls := "java/util/AbstractMap", name := "<init>", desc := "()V" } : Jvm.MethodName) jdk_71_method_1_code (1 : Nat) (Option.none : Option Jvm.ClassFile.FieldType), Jvm.Cond.code ({ cls := "com/example/entryway/entryway/KeyIndex", name := "add", desc := "(Ljava/lang/String;Ljava/lang/String;)I" } : Jvm.MethodName) prog_47_method_2_code (5 : Nat) (Option.some Jvm.ClassFile.FieldType.int), Jvm.Cond.code ({ cls := "com/example/entryway/entryway/KeyIndex", name := "slotOf", desc := "(Ljava/lang/String;Ljava/lang/String;)I" } : Jvm.MethodName) prog_47_method_10_code (7 : Nat) (Option.some Jvm.ClassFile.FieldType.int), Jvm.Cond.code ({ cls := "java/lang/String", name := "hashCode", desc := "()I" } : Jvm.MethodName) jdk_42_method_78_code (2 : Nat) (Option.some Jvm.ClassFile.FieldType.int), Jvm.Cond.code ({ cls := "java/lang/String", name := "isLatin1", desc := "()Z" } : Jvm.MethodName) jdk_42_method_154_code (1 : Nat) (Option.some Jvm.ClassFile.FieldType.boolean), Jvm.Cond.code ({ cls := "java/lang/StringLatin1", name := "hashCode", desc := "([B)I" } : Jvm.MethodName) jdk_43_method_21_code (1 : Nat) (Option.some Jvm.ClassFile.FieldType.int), Jvm.Cond.code ({ cls := "jdk/internal/util/ArraysSupport", name := "vectorizedHashCode", desc := "(Ljava/lang/Object;IIII)I" } : Jvm.MethodName) jdk_48_method_4_code (5 : Nat) (Option.some Jvm.ClassFile.FieldType.int), Jvm.Cond.code ({ cls := "jdk/internal/util/ArraysSupport", name := "signedHashCode", desc := "(I[BII)I" } : Jvm.MethodName) jdk_48_method_5_code (6 : Nat) (Option.some Jvm.ClassFile.FieldType.int), Jvm.Cond.code ({ cls := "java/lang/String", name := "equals", desc := "(Ljava/lang/Object;)Z" } : Jvm.MethodName) jdk_42_method_66_code (3 : Nat) (Option.some Jvm.ClassFile.FieldType.boolean), Jvm.Cond.code ({ cls := "com/example/entryway/entryway/KeyIndex", name := "addRepeat", desc := "(II)I" } : Jvm.MethodName) prog_47_method_7_code (3 : Nat) (Option.some Jvm.ClassFile.FieldType.int), Jvm.Cond.code ({ cls := "com/example/entryway/entryway/KeyIndex", name := "firstOf", desc := "(I)I" } : Jvm.MethodName) prog_47_method_6_code (2 : Nat) (Option.some Jvm.ClassFile.FieldType.int), Jvm.Cond.code ({ cls := "com/example/entryway/entryway/KeyIndexFirstOfPinLaw", name := "ref", desc := "([Ljava/lang/String;[Ljava/lang/String;I)I" } : Jvm.MethodName) method_4_code (3 : Nat) (Option.some Jvm.ClassFile.FieldType.int), Jvm.Cond.code ({ cls := "com/example/entryway/entryway/KeyIndexFirstOfPinLaw", name := "same", desc := "([Ljava/lang/String;[Ljava/lang/String;II)Z" } : Jvm.MethodName) method_3_code (4 : Nat) (Option.some Jvm.ClassFile.FieldType.boolean), Jvm.Cond.code ({ cls := "java/lang/StringLatin1", name := "equals", desc := "([B[B)Z" } : Jvm.MethodName) jdk_43_method_13_code (3 : Nat) (Option.some Jvm.ClassFile.FieldType.boolean)]
set_option maxRecDepth 65536 in
theorem codes_eq : words1.filter isCode = codes1 := rfl
theorem w_codes : ∀ c ∈ words1.filter isCode, c.before args0 about1 = true := by
  rw [codes_eq]
  intro c hc
  simp only [codes1, List.mem_cons, List.not_mem_nil, or_false] at hc
  rcases hc with rfl | rfl | rfl | rfl | rfl | rfl | rfl | rfl | rfl | rfl | rfl | rfl | rfl | rfl | rfl | rfl | rfl | rfl | rfl | rfl | rfl | rfl | rfl | rfl | rfl | rfl | rfl
  · exact w_c0
  · exact w_c1
  · exact w_c2
  · exact w_c3
  · exact w_c4
  · exact w_c5
  · exact w_c6
  · exact w_c7
  · exact w_c8
  · exact w_c9
  · exact w_c10
  · exact w_c11
  · exact w_c12
  · exact w_c13
  · exact w_c14
  · exact w_c15
  · exact w_c16
  · exact w_c17
  · exact w_c18
  · exact w_c19
  · exact w_c20
  · exact w_c21
  · exact w_c22
  · exact w_c23
  · exact w_c24
  · exact w_c25
  · exact w_c26
set_option maxRecDepth 65536 in
theorem w_t1 : (words1.take 24).all (fun c => isCode c || c.before args0 about1) = true := by decide +kernel
set_option maxRecDepth 65536 in
theorem w_t2 : ((words1.drop 24).take 24).all (fun c => isCode c || c.before args0 about1) = true := by decide +kernel
set_option maxRecDepth 65536 in
theorem w_t3 : (((words1.drop 24).drop 24).take 24).all (fun c => isCode c || c.before args0 about1) = true := by decide +kernel
set_option maxRecDepth 65536 in
theorem w_t4 : ((((words1.drop 24).drop 24).drop 24).take 24).all (fun c => isCode c || c.before args0 about1) = true := by decide +kernel
set_option maxRecDepth 65536 in
theorem w_t5 : (((((words1.drop 24).drop 24).drop 24).drop 24).take 24).all (fun c => isCode c || c.before args0 about1) = true := by decide +kernel
set_option maxRecDepth 65536 in
theorem w_t6 : ((((((words1.drop 24).drop 24).drop 24).drop 24).drop 24).take 24).all (fun c => isCode c || c.before args0 about1) = true := by decide +kernel
set_option maxRecDepth 65536 in
theorem w_t7 : ((((((words1.drop 24).drop 24).drop 24).drop 24).drop 24).drop 24).all (fun c => isCode c || c.before args0 about1) = true := by decide +kernel
theorem w_tables : (allAtoms (Jvm.Cond.code x code maxLocals ret :: tables_1)).before args0 about1 = true := by
  rw [allAtoms_all]
  show words1.all (fun c => c.before args0 about1) = true
  refine all_split ?_ w_codes
  rw [← List.take_append_drop 24 words1, List.all_append, w_t1, ← List.take_append_drop 24 (words1.drop 24), List.all_append, w_t2, ← List.take_append_drop 24 ((words1.drop 24).drop 24), List.all_append, w_t3, ← List.take_append_drop 24 (((words1.drop 24).drop 24).drop 24), List.all_append, w_t4, ← List.take_append_drop 24 ((((words1.drop 24).drop 24).drop 24).drop 24), List.all_append, w_t5, ← List.take_append_drop 24 (((((words1.drop 24).drop 24).drop 24).drop 24).drop 24), List.all_append, w_t6, w_t7]
  rfl
set_option maxRecDepth 65536 in
theorem w_rest : rest_1_c.before args0 about1 = true := by decide +kernel
set_option maxRecDepth 65536 in
theorem w_case : (Jvm.Cond.and given_1 narrow_1).before args0 about1 = true := by decide +kernel
theorem w_applies : (headSpec (Jvm.Cond.code x code maxLocals ret :: tables_1) room_1).applies x e0.platform about1 = true :=
  (Spec.applies_iff w_frames).mpr ⟨w_running, w_runnable, w_alone, w_named, w_hears, w_ripe, w_room, w_tables⟩
theorem atStart : AtStart classFile x code maxLocals ret World_1 tables_1 room_1 Calls_1 rest_1 Pre_1 launch0 p0 e0 about1 theMethod args0 below0 :=
  ⟨lists_1, trivial, launch0.admits_env _ _ _, launch0.least_env, fairChoices_fair.cas, fairChoices_fair.clock, w_frames, w_args, w_heap, w_applies, trivial, w_rest, w_case⟩
end start1
theorem witness_1 : WitnessClaimed_1 := ⟨start1.p0, start1.e0, start1.about1, start1.theMethod, start1.args0, start1.below0, start1.atStart⟩
end Jvm.Pilot.@@N@@
