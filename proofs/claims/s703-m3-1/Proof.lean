import JvmDerived
import JvmDerived.Pilot.@@N@@Statement
import JvmDerived.Pilot.@@N@@Code
set_option linter.unusedVariables false
set_option linter.unusedSimpArgs false
namespace Jvm.OwnK
open Sem ClassFile Op Lib Jvm.Stand Jvm.Free Jvm.LawKit Jvm.RoadKit Bundle
/-- from the frame f at T the run ends, and P holds of its end -/
def Go (tb : Tables) (e : Env) (below : List Frame) (P : Outcome → State → Prop) (T : State) (f : JFrame) : Prop :=
  ∃ s₂ o, Steps tb e below (T.setTop f) s₂ ∧ s₂.status = .running ∧ Ended s₂ below o ∧ P o s₂
abbrev PQ (s : State) (Q : Option Value → Heap → List Loc → Prop) (C N : Nat) : Outcome → State → Prop := fun o U' => ∃ v L, o = .returned v ∧ Q v U'.heap L ∧ FrameEnd s o U' L C N
theorem Go.st {tb : Tables} {e : Env} {below : List Frame} {P : Outcome → State → Prop} {T T' : State} {f f' : JFrame} (h : ∀ t, Steps tb e below (T'.setTop f') t → Steps tb e below (T.setTop f) t) (k : Go tb e below P T' f') : Go tb e below P T f := by
  obtain ⟨s₂, o, h1, h2⟩ := k; exact ⟨s₂, o, h _ h1, h2⟩
theorem Go.st1 {tb : Tables} {e : Env} {below : List Frame} {P : Outcome → State → Prop} {T T' : State} {f f' : JFrame} (h : Steps tb e below (T.setTop f) (T'.setTop f')) (k : Go tb e below P T' f') : Go tb e below P T f :=
  Go.st (fun t q => h.trans q) k
theorem tI {x : Int32} {n : Int} (h : x.toInt = n) : x = Int32.ofInt n := by subst h; simp
/-- what a walk that may intern carries: over the start s with the tables vm, at the heap h -/
abbrev Wd (Z : State) (a0 : Array Value) (EL : List (String × Nat)) (s : State) (m : MethodId) (own : String) (h0 : Heap) (vm : Vm) (h : Heap) : Prop :=
  Z.Warmed39 vm ∧ vm.findClass own = some m.cls ∧ (∃ k, s.Since vm k ∧ k ≤ h.size) ∧ CHr Z EL s.vm h0 vm h ∧ EW Z a0 EL
theorem Wd.z {Z : State} {a0 : Array Value} {EL : List (String × Nat)} {s : State} {m : MethodId} {own : String} {h0 : Heap} {vm : Vm} {h : Heap} (W : Wd Z a0 EL s m own h0 vm h) : Z.Warmed39 vm := W.1
theorem Wd.o {Z : State} {a0 : Array Value} {EL : List (String × Nat)} {s : State} {m : MethodId} {own : String} {h0 : Heap} {vm : Vm} {h : Heap} (W : Wd Z a0 EL s m own h0 vm h) : vm.findClass own = some m.cls := W.2.1
theorem Wd.si {Z : State} {a0 : Array Value} {EL : List (String × Nat)} {s : State} {m : MethodId} {own : String} {h0 : Heap} {vm : Vm} {h : Heap} (W : Wd Z a0 EL s m own h0 vm h) : ∃ k, s.Since vm k ∧ k ≤ h.size := W.2.2.1
theorem Wd.r {Z : State} {a0 : Array Value} {EL : List (String × Nat)} {s : State} {m : MethodId} {own : String} {h0 : Heap} {vm : Vm} {h : Heap} (W : Wd Z a0 EL s m own h0 vm h) : CHr Z EL s.vm h0 vm h := W.2.2.2.1
theorem Wd.w {Z : State} {a0 : Array Value} {EL : List (String × Nat)} {s : State} {m : MethodId} {own : String} {h0 : Heap} {vm : Vm} {h : Heap} (W : Wd Z a0 EL s m own h0 vm h) : EW Z a0 EL := W.2.2.2.2
abbrev PQW (Z : State) (EL : List (String × Nat)) (s : State) (h0 : Heap) (Q : Option Value → Heap → List Loc → Prop) (C N : Nat) : Outcome → State → Prop := fun o U' => ∃ v L, o = .returned v ∧ Q v U'.heap L ∧ CHr Z EL s.vm h0 U'.vm U'.heap ∧ ReturnedEndW s o U' L C N
section Steps
variable {p : Program} {l : Launch} {e : Env} {R : Room} {s : State} {m : MethodId} {args : Array Value} {below : List Frame} {meth : Method} {c : Code} {T : State} {locs : List Loc} {cells slots : Nat} {P : Outcome → State → Prop} {pc pc' : Nat} {Ls : Array Slot} {S : List Value} {Z : State} {a0 : Array Value} {h : Heap}
theorem iload (X : Stand p l e R s m args below meth c T locs cells slots) (hx : p.tables.exec = Jvm.exec) {j : Nat} {v : Int32} (hd : decode c.code pc = .ok (.iload j, 2)) (hp : pc' = pc + 2) (hl : Ls[j]? = some (.val (.int v)))
    (k : Go p.tables e below P T (mkF m pc' Ls (.int v :: S))) : Go p.tables e below P T (mkF m pc Ls (S)) := by
  subst hp; exact Go.st (fun t q => XS.iload X.here hx rfl hd  hl q) k
theorem iloadN (X : Stand p l e R s m args below meth c T locs cells slots) (hx : p.tables.exec = Jvm.exec) {j : Fin 4} {v : Int32} (hd : decode c.code pc = .ok (.iload_n j, 1)) (hp : pc' = pc + 1) (hl : Ls[j.val]? = some (.val (.int v)))
    (k : Go p.tables e below P T (mkF m pc' Ls (.int v :: S))) : Go p.tables e below P T (mkF m pc Ls (S)) := by
  subst hp; exact Go.st (fun t q => XS.iloadN X.here hx rfl hd  hl q) k
theorem aload (X : Stand p l e R s m args below meth c T locs cells slots) (hx : p.tables.exec = Jvm.exec) {j : Nat} {v : Value} (hd : decode c.code pc = .ok (.aload j, 2)) (hp : pc' = pc + 2) (hl : Ls[j]? = some (.val v)) (hv : v.isRef = true)
    (k : Go p.tables e below P T (mkF m pc' Ls (v :: S))) : Go p.tables e below P T (mkF m pc Ls (S)) := by
  subst hp; exact Go.st (fun t q => XS.aload X.here hx rfl hd  hl hv q) k
theorem aloadN (X : Stand p l e R s m args below meth c T locs cells slots) (hx : p.tables.exec = Jvm.exec) {j : Fin 4} {v : Value} (hd : decode c.code pc = .ok (.aload_n j, 1)) (hp : pc' = pc + 1) (hl : Ls[j.val]? = some (.val v)) (hv : v.isRef = true)
    (k : Go p.tables e below P T (mkF m pc' Ls (v :: S))) : Go p.tables e below P T (mkF m pc Ls (S)) := by
  subst hp; exact Go.st (fun t q => XS.aloadN X.here hx rfl hd  hl hv q) k
theorem istore (X : Stand p l e R s m args below meth c T locs cells slots) (hx : p.tables.exec = Jvm.exec) {j : Nat} {v : Int32} {Ls' : Array Slot} (hd : decode c.code pc = .ok (.istore j, 2)) (hp : pc' = pc + 2) (hl : storeLocals Ls j (.int v) = some Ls')
    (k : Go p.tables e below P T (mkF m pc' Ls' (S))) : Go p.tables e below P T (mkF m pc Ls (.int v :: S)) := by
  subst hp; exact Go.st (fun t q => XS.istore X.here hx rfl hd rfl hl q) k
theorem istoreN (X : Stand p l e R s m args below meth c T locs cells slots) (hx : p.tables.exec = Jvm.exec) {j : Fin 4} {v : Int32} {Ls' : Array Slot} (hd : decode c.code pc = .ok (.istore_n j, 1)) (hp : pc' = pc + 1) (hl : storeLocals Ls j.val (.int v) = some Ls')
    (k : Go p.tables e below P T (mkF m pc' Ls' (S))) : Go p.tables e below P T (mkF m pc Ls (.int v :: S)) := by
  subst hp; exact Go.st (fun t q => XS.istoreN X.here hx rfl hd rfl hl q) k
theorem astore (X : Stand p l e R s m args below meth c T locs cells slots) (hx : p.tables.exec = Jvm.exec) {j : Nat} {v : Value} {Ls' : Array Slot} (hd : decode c.code pc = .ok (.astore j, 2)) (hp : pc' = pc + 2) (hv : v.isRef = true) (hl : storeLocals Ls j v = some Ls')
    (k : Go p.tables e below P T (mkF m pc' Ls' (S))) : Go p.tables e below P T (mkF m pc Ls (v :: S)) := by
  subst hp; exact Go.st (fun t q => XS.astore X.here hx rfl hd rfl hv hl q) k
theorem astoreN (X : Stand p l e R s m args below meth c T locs cells slots) (hx : p.tables.exec = Jvm.exec) {j : Fin 4} {v : Value} {Ls' : Array Slot} (hd : decode c.code pc = .ok (.astore_n j, 1)) (hp : pc' = pc + 1) (hv : v.isRef = true) (hl : storeLocals Ls j.val v = some Ls')
    (k : Go p.tables e below P T (mkF m pc' Ls' (S))) : Go p.tables e below P T (mkF m pc Ls (v :: S)) := by
  subst hp; exact Go.st (fun t q => XS.astoreN X.here hx rfl hd rfl hv hl q) k
theorem iconst (X : Stand p l e R s m args below meth c T locs cells slots) (hx : p.tables.exec = Jvm.exec) {i : Int} {v : Int32} (hd : decode c.code pc = .ok (.iconst i, 1)) (hp : pc' = pc + 1) (hv : Int32.ofInt i = v)
    (k : Go p.tables e below P T (mkF m pc' Ls (.int v :: S))) : Go p.tables e below P T (mkF m pc Ls (S)) := by
  subst hp hv; exact Go.st (fun t q => XS.iconst X.here hx rfl hd q) k
theorem bipush (X : Stand p l e R s m args below meth c T locs cells slots) (hx : p.tables.exec = Jvm.exec) {i : Int} {v : Int32} (hd : decode c.code pc = .ok (.bipush i, 2)) (hp : pc' = pc + 2) (hv : (Int8.ofInt i).toInt32 = v)
    (k : Go p.tables e below P T (mkF m pc' Ls (.int v :: S))) : Go p.tables e below P T (mkF m pc Ls (S)) := by
  subst hp hv; exact Go.st (fun t q => XS.bipush X.here hx rfl hd q) k
theorem sipush (X : Stand p l e R s m args below meth c T locs cells slots) (hx : p.tables.exec = Jvm.exec) {i : Int} {v : Int32} (hd : decode c.code pc = .ok (.sipush i, 3)) (hp : pc' = pc + 3) (hv : (Int16.ofInt i).toInt32 = v)
    (k : Go p.tables e below P T (mkF m pc' Ls (.int v :: S))) : Go p.tables e below P T (mkF m pc Ls (S)) := by
  subst hp hv; exact Go.st (fun t q => XS.sipush X.here hx rfl hd q) k
theorem aconstNull (X : Stand p l e R s m args below meth c T locs cells slots) (hx : p.tables.exec = Jvm.exec)  (hd : decode c.code pc = .ok (.aconst_null, 1)) (hp : pc' = pc + 1)
    (k : Go p.tables e below P T (mkF m pc' Ls (.null :: S))) : Go p.tables e below P T (mkF m pc Ls (S)) := by
  subst hp; exact Go.st (fun t q => XS.aconstNull X.here hx rfl hd   q) k
theorem isub (X : Stand p l e R s m args below meth c T locs cells slots) (hx : p.tables.exec = Jvm.exec) {x y : Int32} (hd : decode c.code pc = .ok (.isub, 1)) (hp : pc' = pc + 1)
    (k : Go p.tables e below P T (mkF m pc' Ls (.int (x - y) :: S))) : Go p.tables e below P T (mkF m pc Ls (.int y :: .int x :: S)) := by
  subst hp; exact Go.st (fun t q => XS.isub X.here hx rfl hd rfl  q) k
theorem iand (X : Stand p l e R s m args below meth c T locs cells slots) (hx : p.tables.exec = Jvm.exec) {x y : Int32} (hd : decode c.code pc = .ok (.iand, 1)) (hp : pc' = pc + 1)
    (k : Go p.tables e below P T (mkF m pc' Ls (.int (x &&& y) :: S))) : Go p.tables e below P T (mkF m pc Ls (.int y :: .int x :: S)) := by
  subst hp; exact Go.st (fun t q => XS.iand X.here hx rfl hd rfl  q) k
theorem iushr (X : Stand p l e R s m args below meth c T locs cells slots) (hx : p.tables.exec = Jvm.exec) {x y : Int32} (hd : decode c.code pc = .ok (.iushr, 1)) (hp : pc' = pc + 1)
    (k : Go p.tables e below P T (mkF m pc' Ls (.int (XT.ushr x y) :: S))) : Go p.tables e below P T (mkF m pc Ls (.int y :: .int x :: S)) := by
  subst hp; exact Go.st (fun t q => XT.iushr X.here hx rfl hd rfl  q) k
theorem isubL (X : Stand p l e R s m args below meth c T locs cells slots) (hx : p.tables.exec = Jvm.exec) {x y z : Int32} (hd : decode c.code pc = .ok (.isub, 1)) (hp : pc' = pc + 1) (hz : (x - y) = z)
    (k : Go p.tables e below P T (mkF m pc' Ls (.int z :: S))) : Go p.tables e below P T (mkF m pc Ls (.int y :: .int x :: S)) := by
  subst hz; exact isub X hx hd hp k
theorem iushrL (X : Stand p l e R s m args below meth c T locs cells slots) (hx : p.tables.exec = Jvm.exec) {x y z : Int32} (hd : decode c.code pc = .ok (.iushr, 1)) (hp : pc' = pc + 1) (hz : (XT.ushr x y) = z)
    (k : Go p.tables e below P T (mkF m pc' Ls (.int z :: S))) : Go p.tables e below P T (mkF m pc Ls (.int y :: .int x :: S)) := by
  subst hz; exact iushr X hx hd hp k
theorem i2b (X : Stand p l e R s m args below meth c T locs cells slots) (hx : p.tables.exec = Jvm.exec) {x : Int32} (hd : decode c.code pc = .ok (.i2b, 1)) (hp : pc' = pc + 1)
    (k : Go p.tables e below P T (mkF m pc' Ls (.int (x.toInt8.toInt32) :: S))) : Go p.tables e below P T (mkF m pc Ls (.int x :: S)) := by
  subst hp; exact Go.st (fun t q => XT.i2b X.here hx rfl hd rfl  q) k
theorem i2c (X : Stand p l e R s m args below meth c T locs cells slots) (hx : p.tables.exec = Jvm.exec) {x : Int32} (hd : decode c.code pc = .ok (.i2c, 1)) (hp : pc' = pc + 1)
    (k : Go p.tables e below P T (mkF m pc' Ls (.int (x.toUInt32.toUInt16.toUInt32.toInt32) :: S))) : Go p.tables e below P T (mkF m pc Ls (.int x :: S)) := by
  subst hp; exact Go.st (fun t q => XT.i2c X.here hx rfl hd rfl  q) k
theorem dup (X : Stand p l e R s m args below meth c T locs cells slots) (hx : p.tables.exec = Jvm.exec) {x : Value} (hd : decode c.code pc = .ok (.dup, 1)) (hp : pc' = pc + 1) (hc : x.category = 1)
    (k : Go p.tables e below P T (mkF m pc' Ls (x :: x :: S))) : Go p.tables e below P T (mkF m pc Ls (x :: S)) := by
  subst hp; exact Go.st (fun t q => XS.dup X.here hx rfl hd rfl hc q) k
theorem iinc (X : Stand p l e R s m args below meth c T locs cells slots) (hx : p.tables.exec = Jvm.exec) {j : Nat} {i : Int} {x v : Int32} {Ls' : Array Slot} (hd : decode c.code pc = .ok (.iinc j i, 3)) (hp : pc' = pc + 3) (hv : Int32.ofInt i = v) (hl : Ls[j]? = some (.val (.int x))) (hl' : storeLocals Ls j (.int (x + v)) = some Ls')
    (k : Go p.tables e below P T (mkF m pc' Ls' (S))) : Go p.tables e below P T (mkF m pc Ls (S)) := by
  subst hp hv; exact Go.st (fun t q => XS.iinc X.here hx rfl hd hl hl' q) k
theorem iincL (X : Stand p l e R s m args below meth c T locs cells slots) (hx : p.tables.exec = Jvm.exec) {j : Nat} {i : Int} {x v : Int32} {Ls' : Array Slot} (hd : decode c.code pc = .ok (.iinc j i, 3)) (hp : pc' = pc + 3) (hl : Ls[j]? = some (.val (.int x))) (hv : x + Int32.ofInt i = v) (hl' : storeLocals Ls j (.int v) = some Ls')
    (k : Go p.tables e below P T (mkF m pc' Ls' (S))) : Go p.tables e below P T (mkF m pc Ls (S)) := by
  subst hv; exact iinc X hx hd hp rfl hl hl' k
theorem goto_ (X : Stand p l e R s m args below meth c T locs cells slots) (hx : p.tables.exec = Jvm.exec) {o : Int} (hd : decode c.code pc = .ok (.goto o, 3)) (ho : 0 ≤ (pc : Int) + o) (hp : ((pc : Int) + o).toNat = pc')
    (k : Go p.tables e below P T (mkF m pc' Ls (S))) : Go p.tables e below P T (mkF m pc Ls (S)) :=
  Go.st (fun t q => XS.goto X.here hx rfl rfl hd ho hp q) k
theorem h_lt (x y : Int32) : if_icmp.holds .lt x y = decide (x.toInt < y.toInt) := by simp [if_icmp.holds, Int32.lt_iff_toInt_lt]
theorem h_ge (x y : Int32) : if_icmp.holds .ge x y = decide (y.toInt ≤ x.toInt) := by simp [if_icmp.holds, Int32.le_iff_toInt_le]
theorem h_gt (x y : Int32) : if_icmp.holds .gt x y = decide (y.toInt < x.toInt) := by simp [if_icmp.holds, Int32.lt_iff_toInt_lt]
theorem h_le (x y : Int32) : if_icmp.holds .le x y = decide (x.toInt ≤ y.toInt) := by simp [if_icmp.holds, Int32.le_iff_toInt_le]
theorem h_eq (x y : Int32) : if_icmp.holds .eq x y = decide (x.toInt = y.toInt) := by rw [Bool.eq_iff_iff]; simp [if_icmp.holds, Int32.toInt_inj]
theorem h_ne (x y : Int32) : if_icmp.holds .ne x y = decide (¬ x.toInt = y.toInt) := by rw [Bool.eq_iff_iff]; simp [if_icmp.holds, Int32.toInt_inj]
theorem z_any (cd : ClassFile.Cond) (x : Int32) : ifCond.holds cd x = if_icmp.holds cd x 0 := by cases cd <;> simp [ifCond.holds, if_icmp.holds]
theorem z0 : (0 : Int32).toInt = 0 := by decide
theorem icmp_lt (X : Stand p l e R s m args below meth c T locs cells slots) (hx : p.tables.exec = Jvm.exec) {o : Int} {x y : Int32} {pcT : Nat} (hd : decode c.code pc = .ok (.if_icmp .lt o, 3)) (ho : 0 ≤ (pc : Int) + o) (hT : ((pc : Int) + o).toNat = pcT) (hp : pc' = pc + 3)
    (kt : x.toInt < y.toInt → Go p.tables e below P T (mkF m pcT Ls (S))) (kf : y.toInt ≤ x.toInt → Go p.tables e below P T (mkF m pc' Ls (S))) : Go p.tables e below P T (mkF m pc Ls (.int y :: .int x :: S)) := by
  subst hp
  by_cases q : x.toInt < y.toInt
  · exact Go.st (fun t r => XS.icmpYes X.here hx rfl rfl hd rfl (by rw [h_lt]; exact decide_eq_true q) ho hT r) (kt q)
  · exact Go.st (fun t r => XS.icmpNo X.here hx rfl hd rfl (by rw [h_lt]; exact decide_eq_false q) r) (kf (by omega))
theorem icmp_ge (X : Stand p l e R s m args below meth c T locs cells slots) (hx : p.tables.exec = Jvm.exec) {o : Int} {x y : Int32} {pcT : Nat} (hd : decode c.code pc = .ok (.if_icmp .ge o, 3)) (ho : 0 ≤ (pc : Int) + o) (hT : ((pc : Int) + o).toNat = pcT) (hp : pc' = pc + 3)
    (kt : y.toInt ≤ x.toInt → Go p.tables e below P T (mkF m pcT Ls (S))) (kf : x.toInt < y.toInt → Go p.tables e below P T (mkF m pc' Ls (S))) : Go p.tables e below P T (mkF m pc Ls (.int y :: .int x :: S)) := by
  subst hp
  by_cases q : y.toInt ≤ x.toInt
  · exact Go.st (fun t r => XS.icmpYes X.here hx rfl rfl hd rfl (by rw [h_ge]; exact decide_eq_true q) ho hT r) (kt q)
  · exact Go.st (fun t r => XS.icmpNo X.here hx rfl hd rfl (by rw [h_ge]; exact decide_eq_false q) r) (kf (by omega))
theorem icmp_gt (X : Stand p l e R s m args below meth c T locs cells slots) (hx : p.tables.exec = Jvm.exec) {o : Int} {x y : Int32} {pcT : Nat} (hd : decode c.code pc = .ok (.if_icmp .gt o, 3)) (ho : 0 ≤ (pc : Int) + o) (hT : ((pc : Int) + o).toNat = pcT) (hp : pc' = pc + 3)
    (kt : y.toInt < x.toInt → Go p.tables e below P T (mkF m pcT Ls (S))) (kf : x.toInt ≤ y.toInt → Go p.tables e below P T (mkF m pc' Ls (S))) : Go p.tables e below P T (mkF m pc Ls (.int y :: .int x :: S)) := by
  subst hp
  by_cases q : y.toInt < x.toInt
  · exact Go.st (fun t r => XS.icmpYes X.here hx rfl rfl hd rfl (by rw [h_gt]; exact decide_eq_true q) ho hT r) (kt q)
  · exact Go.st (fun t r => XS.icmpNo X.here hx rfl hd rfl (by rw [h_gt]; exact decide_eq_false q) r) (kf (by omega))
theorem icmp_le (X : Stand p l e R s m args below meth c T locs cells slots) (hx : p.tables.exec = Jvm.exec) {o : Int} {x y : Int32} {pcT : Nat} (hd : decode c.code pc = .ok (.if_icmp .le o, 3)) (ho : 0 ≤ (pc : Int) + o) (hT : ((pc : Int) + o).toNat = pcT) (hp : pc' = pc + 3)
    (kt : x.toInt ≤ y.toInt → Go p.tables e below P T (mkF m pcT Ls (S))) (kf : y.toInt < x.toInt → Go p.tables e below P T (mkF m pc' Ls (S))) : Go p.tables e below P T (mkF m pc Ls (.int y :: .int x :: S)) := by
  subst hp
  by_cases q : x.toInt ≤ y.toInt
  · exact Go.st (fun t r => XS.icmpYes X.here hx rfl rfl hd rfl (by rw [h_le]; exact decide_eq_true q) ho hT r) (kt q)
  · exact Go.st (fun t r => XS.icmpNo X.here hx rfl hd rfl (by rw [h_le]; exact decide_eq_false q) r) (kf (by omega))
theorem icmp_eq (X : Stand p l e R s m args below meth c T locs cells slots) (hx : p.tables.exec = Jvm.exec) {o : Int} {x y : Int32} {pcT : Nat} (hd : decode c.code pc = .ok (.if_icmp .eq o, 3)) (ho : 0 ≤ (pc : Int) + o) (hT : ((pc : Int) + o).toNat = pcT) (hp : pc' = pc + 3)
    (kt : x.toInt = y.toInt → Go p.tables e below P T (mkF m pcT Ls (S))) (kf : ¬ x.toInt = y.toInt → Go p.tables e below P T (mkF m pc' Ls (S))) : Go p.tables e below P T (mkF m pc Ls (.int y :: .int x :: S)) := by
  subst hp
  by_cases q : x.toInt = y.toInt
  · exact Go.st (fun t r => XS.icmpYes X.here hx rfl rfl hd rfl (by rw [h_eq]; exact decide_eq_true q) ho hT r) (kt q)
  · exact Go.st (fun t r => XS.icmpNo X.here hx rfl hd rfl (by rw [h_eq]; exact decide_eq_false q) r) (kf (by omega))
theorem if_eq (X : Stand p l e R s m args below meth c T locs cells slots) (hx : p.tables.exec = Jvm.exec) {o : Int} {x : Int32} {pcT : Nat} (hd : decode c.code pc = .ok (.ifCond .eq o, 3)) (ho : 0 ≤ (pc : Int) + o) (hT : ((pc : Int) + o).toNat = pcT) (hp : pc' = pc + 3)
    (kt : x.toInt = 0 → Go p.tables e below P T (mkF m pcT Ls (S))) (kf : ¬ x.toInt = 0 → Go p.tables e below P T (mkF m pc' Ls (S))) : Go p.tables e below P T (mkF m pc Ls (.int x :: S)) := by
  subst hp
  by_cases q : x.toInt = 0
  · exact Go.st (fun t r => XS.ifYes X.here hx rfl rfl hd rfl (by rw [z_any, h_eq, z0]; exact decide_eq_true q) ho hT r) (kt q)
  · exact Go.st (fun t r => XS.ifNo X.here hx rfl hd rfl (by rw [z_any, h_eq, z0]; exact decide_eq_false q) r) (kf (by omega))
theorem icmp_ne (X : Stand p l e R s m args below meth c T locs cells slots) (hx : p.tables.exec = Jvm.exec) {o : Int} {x y : Int32} {pcT : Nat} (hd : decode c.code pc = .ok (.if_icmp .ne o, 3)) (ho : 0 ≤ (pc : Int) + o) (hT : ((pc : Int) + o).toNat = pcT) (hp : pc' = pc + 3)
    (kt : ¬ x.toInt = y.toInt → Go p.tables e below P T (mkF m pcT Ls (S))) (kf : x.toInt = y.toInt → Go p.tables e below P T (mkF m pc' Ls (S))) : Go p.tables e below P T (mkF m pc Ls (.int y :: .int x :: S)) := by
  subst hp
  by_cases q : ¬ x.toInt = y.toInt
  · exact Go.st (fun t r => XS.icmpYes X.here hx rfl rfl hd rfl (by rw [h_ne]; exact decide_eq_true q) ho hT r) (kt q)
  · exact Go.st (fun t r => XS.icmpNo X.here hx rfl hd rfl (by rw [h_ne]; exact decide_eq_false q) r) (kf (by omega))
theorem if_ne (X : Stand p l e R s m args below meth c T locs cells slots) (hx : p.tables.exec = Jvm.exec) {o : Int} {x : Int32} {pcT : Nat} (hd : decode c.code pc = .ok (.ifCond .ne o, 3)) (ho : 0 ≤ (pc : Int) + o) (hT : ((pc : Int) + o).toNat = pcT) (hp : pc' = pc + 3)
    (kt : ¬ x.toInt = 0 → Go p.tables e below P T (mkF m pcT Ls (S))) (kf : x.toInt = 0 → Go p.tables e below P T (mkF m pc' Ls (S))) : Go p.tables e below P T (mkF m pc Ls (.int x :: S)) := by
  subst hp
  by_cases q : ¬ x.toInt = 0
  · exact Go.st (fun t r => XS.ifYes X.here hx rfl rfl hd rfl (by rw [z_any, h_ne, z0]; exact decide_eq_true q) ho hT r) (kt q)
  · exact Go.st (fun t r => XS.ifNo X.here hx rfl hd rfl (by rw [z_any, h_ne, z0]; exact decide_eq_false q) r) (kf (by omega))
theorem acmp_ne (X : Stand p l e R s m args below meth c T locs cells slots) (hx : p.tables.exec = Jvm.exec) {o : Int} {x y : Value} {pcT : Nat} (hd : decode c.code pc = .ok (.if_acmp .ne o, 3)) (h1 : x.isRef = true) (h2 : y.isRef = true) (ho : 0 ≤ (pc : Int) + o) (hT : ((pc : Int) + o).toNat = pcT) (hp : pc' = pc + 3)
    (kt : ¬ x = y → Go p.tables e below P T (mkF m pcT Ls (S))) (kf : x = y → Go p.tables e below P T (mkF m pc' Ls (S))) : Go p.tables e below P T (mkF m pc Ls (y :: x :: S)) := by
  subst hp
  by_cases q : ¬ x = y
  · exact Go.st (fun t r => XT.acmpYes X.here hx rfl rfl hd rfl h1 h2 (XT.aa_ne_t q) ho hT r) (kt q)
  · exact Go.st (fun t r => XT.acmpNo X.here hx rfl hd rfl h1 h2 (XT.aa_ne_f (Classical.not_not.mp q)) r) (kf (Classical.not_not.mp q))
theorem ifnonnull_ (X : Stand p l e R s m args below meth c T locs cells slots) (hx : p.tables.exec = Jvm.exec) {o : Int} {v : Value} {pcT : Nat} (hd : decode c.code pc = .ok (.ifnonnull o, 3)) (hv : v.isRef = true) (ho : 0 ≤ (pc : Int) + o) (hT : ((pc : Int) + o).toNat = pcT) (hp : pc' = pc + 3)
    (kt : ¬ v = .null → Go p.tables e below P T (mkF m pcT Ls (S))) (kf : v = .null → Go p.tables e below P T (mkF m pc' Ls (S))) : Go p.tables e below P T (mkF m pc Ls (v :: S)) := by
  subst hp
  by_cases q : ¬ v = .null
  · exact Go.st (fun t r => XT.nonnullYes X.here hx rfl rfl hd rfl hv q ho hT r) (kt q)
  · exact Go.st (fun t r => XT.nonnullNo X.here hx rfl hd rfl (Classical.not_not.mp q) r) (kf (Classical.not_not.mp q))
theorem ifnonnull_ref (X : Stand p l e R s m args below meth c T locs cells slots) (hx : p.tables.exec = Jvm.exec) {o : Int} {a : Addr} {pcT : Nat} (hd : decode c.code pc = .ok (.ifnonnull o, 3)) (ho : 0 ≤ (pc : Int) + o) (hT : ((pc : Int) + o).toNat = pcT) (hp : pc' = pc + 3)
    (k : Go p.tables e below P T (mkF m pcT Ls (S))) : Go p.tables e below P T (mkF m pc Ls (.ref a :: S)) :=
  ifnonnull_ X hx hd rfl ho hT hp (fun _ => k) (fun q => nomatch q)
theorem getF_ (X : Stand p l e R s m args below meth c T locs cells slots) (hx : p.tables.exec = Jvm.exec) (hZ : Z.Warmed39 s.vm) {own : String} (hown : s.vm.findClass own = some m.cls) {R0 O n d host : String} {i : Nat} (w : (Cond.fieldLink own i R0 n d).before a0 Z = true ∨ (Cond.fieldLinkNest own i R0 n d host).before a0 Z = true) (via : Via Z R0 O n d) (eT : T.heap = h) {a : Addr} {v : Value} (F : Fld Z h a O n d v) (hd : decode c.code pc = .ok (.getfield i, 3)) (hp : pc' = pc + 3)
    (k : ∀ T', Stand p l e R s m args below meth c T' locs cells slots → T'.heap = h → Go p.tables e below P T' (mkF m pc' Ls (v :: S))) : Go p.tables e below P T (mkF m pc Ls (.ref a :: S)) := by
  subst hp
  obtain ⟨T', X', e', st⟩ := getF X hx hZ hown w via eT F (g := mkF m pc Ls (.ref a :: S)) rfl rfl hd
  exact Go.st st (k T' X' e')
theorem getS_ (X : Stand p l e R s m args below meth c T locs cells slots) (hx : p.tables.exec = Jvm.exec) (hZ : Z.Warmed39 s.vm) {own : String} (hown : s.vm.findClass own = some m.cls) {R0 O n d host : String} {i : Nat} (w : (Cond.fieldLink own i R0 n d).before a0 Z = true ∨ (Cond.fieldLinkNest own i R0 n d host).before a0 Z = true) (via : Via Z R0 O n d) (eT : T.heap = h) {v : Value} (F : Sta Z h O n d v) (hd : decode c.code pc = .ok (.getstatic i, 3)) (hp : pc' = pc + 3)
    (k : ∀ T', Stand p l e R s m args below meth c T' locs cells slots → T'.heap = h → Go p.tables e below P T' (mkF m pc' Ls (v :: S))) : Go p.tables e below P T (mkF m pc Ls (S)) := by
  subst hp
  obtain ⟨T', X', e', st⟩ := getS2 X hx hZ hown w via eT F (g := mkF m pc Ls S) rfl hd
  exact Go.st st (k T' X' e')
theorem putF_ (X : Stand p l e R s m args below meth c T locs cells slots) (hx : p.tables.exec = Jvm.exec) (hZ : Z.Warmed39 s.vm) {own : String} (hown : s.vm.findClass own = some m.cls) {R0 O n d C : String} {i kk : Nat} {ty : FieldType} (w : (Cond.fieldLink own i R0 n d).before a0 Z = true) (via : Via Z R0 O n d) (eT : T.heap = h) {a : Addr} {v v' old : Value} (F : Fld Z h a O n d old) (E : Exa Z h a C) (L : (Cond.lays C O n d).before a0 Z = true ∨ ((Cond.laysFinal C O n d).before a0 Z = true ∧ own = O ∧ meth.name = "<init>")) (wi : (Cond.instantiable C kk).before a0 Z = true) (hty : parseFieldDescriptor d = some ty) (hn : narrow ty v = v') (hf : fits ty v' = true) (hd : decode c.code pc = .ok (.putfield i, 3)) (hp : pc' = pc + 3)
    (k : ∀ T' h', Stand p l e R s m args below meth c T' (locs ++ [⟨a, Jvm.RoadKit.slotOf Z O n d⟩]) cells slots → T'.heap = h' → Wr h h' a (Jvm.RoadKit.slotOf Z O n d) v' → Go p.tables e below P T' (mkF m pc' Ls (S))) : Go p.tables e below P T (mkF m pc Ls (v :: .ref a :: S)) := by
  subst hp
  obtain ⟨T', h', X', e', W', st⟩ := putFN X hx hZ hown w via eT F E L wi hty hn hf (g := mkF m pc Ls (v :: .ref a :: S)) rfl rfl hd
  exact Go.st st (k T' h' X' e' W')
theorem new_ (X : Stand p l e R s m args below meth c T locs cells slots) (hx : p.tables.exec = Jvm.exec) (hZ : Z.Warmed39 s.vm) {own : String} (hown : s.vm.findClass own = some m.cls) {C : String} {i n : Nat} (w : (Cond.classLink own i C).before a0 Z = true) (wi : (Cond.instantiable C n).before a0 Z = true) (wz : (Cond.initialized C).before a0 Z = true) (eT : T.heap = h) (hd : decode c.code pc = .ok (.new i, 3)) (hp : pc' = pc + 3) (hc : cells + 1 ≤ R.cells) (hl : slots + n ≤ R.slots)
    (k : ∀ T' h' a, Stand p l e R s m args below meth c T' locs (cells + 1) (slots + n) → T'.heap = h' → a = h.size → Ext h h' → Exa Z h' a C → (∀ {O nm d : String} {ty : FieldType}, Laid Z a0 C O nm d → parseFieldDescriptor d = some ty → Fld Z h' a O nm d (defaultValue ty)) → Go p.tables e below P T' (mkF m pc' Ls (.ref a :: S))) : Go p.tables e below P T (mkF m pc Ls (S)) := by
  subst hp
  obtain ⟨T', h', X', e', E', A', D', -, st⟩ := newO X hx hZ hown w wi wz eT (g := mkF m pc Ls S) rfl hd hc hl
  exact Go.st st (k T' h' _ X' e' rfl E' A' D')
theorem jin {j z : Int32} (h0 : 0 ≤ j.toInt) (h1 : j.toInt < z.toInt) : ¬ j < 0 ∧ j < z := ⟨fun q => by have := Int32.lt_iff_toInt_lt.mp q; rw [z0] at this; omega, Int32.lt_iff_toInt_lt.mpr h1⟩
theorem jnat {j : Int32} {i : Nat} (h : j.toInt = i) : j.toNatClampNeg = i := by
  have q : ¬ j < 0 := fun q => by have := Int32.lt_iff_toInt_lt.mp q; rw [z0] at this; omega
  have := nat_of q; omega
theorem newP_ (X : Stand p l e R s m args below meth c T locs cells slots) (hx : p.tables.exec = Jvm.exec) (hZ : Z.Warmed39 s.vm) {aty : ArrayType} (w : (Cond.arrayClass (newarray.typeOf aty)).before a0 Z = true) (eT : T.heap = h) (hd : decode c.code pc = .ok (.newarray aty, 2)) (hp : pc' = pc + 2) {n : Int32} (hn : 0 ≤ n.toInt) {cap : Nat} (hcap : n.toInt ≤ cap) (hb : cap * 8 ≤ 536870912) (hc : cells + 1 ≤ R.cells) (hl : slots + cap ≤ R.slots) {ad : String} (had : "[" ++ (newarray.typeOf aty).toString = ad)
    (k : ∀ T' h' a cA, Stand p l e R s m args below meth c T' locs (cells + 1) (slots + cap) → T'.heap = h' → a = h.size → Ext h h' → Arv Z h' a cA (newarray.typeOf aty) n [] (defaultValue (newarray.typeOf aty)) → Exa Z h' a ad → Go p.tables e below P T' (mkF m pc' Ls (.ref a :: S))) : Go p.tables e below P T (mkF m pc Ls (.int n :: S)) := by
  subst hp
  have hn' : ¬ n < 0 := fun z => by have := Int32.lt_iff_toInt_lt.mp z; rw [z0] at this; omega
  obtain ⟨T', h', cA, X', e', E', A', Q', st⟩ := newPE X hx hZ w eT (g := mkF m pc Ls (.int n :: S)) rfl hd rfl hn' (cap := cap) (by have := nat_of hn'; omega) hb hc hl had
  exact Go.st st (k T' h' _ cA X' e' rfl E' (Arv.new A' hn') Q')
theorem instNo_ (X : Stand p l e R s m args below meth c T locs cells slots) (hx : p.tables.exec = Jvm.exec) (hZ : Z.Warmed39 s.vm) {own : String} (hown : s.vm.findClass own = some m.cls) {C K : String} {i : Nat} (w : (Cond.classLink own i K).before a0 Z = true) (eT : T.heap = h) {a : Addr} (E : Exa Z h a C) (F : ∃ c t, Z.vm.findClass C = some c ∧ Z.vm.findClass K = some t ∧ Z.vm.assignable c t = false) (hd : decode c.code pc = .ok (.instanceof i, 3)) (hp : pc' = pc + 3)
    (k : ∀ T', Stand p l e R s m args below meth c T' locs cells slots → T'.heap = h → Go p.tables e below P T' (mkF m pc' Ls (.int 0 :: S))) : Go p.tables e below P T (mkF m pc Ls (.ref a :: S)) := by
  subst hp
  obtain ⟨T', X', e', st⟩ := instNo X hx hZ hown w eT E F (g := mkF m pc Ls (.ref a :: S)) rfl rfl hd
  exact Go.st st (k T' X' e')
theorem caload (X : Stand p l e R s m args below meth c T locs cells slots) (hx : p.tables.exec = Jvm.exec) (hZ : Z.Warmed39 s.vm) (eT : T.heap = h) {a : Addr} {kA : ClassId} {z j : Int32} {vs : List Value} {dv v : Value} (A : Arv Z h a kA .char z vs dv) (h0 : 0 ≤ j.toInt) (h1 : j.toInt < z.toInt) (hv : vs.getD j.toNatClampNeg dv = v) (hd : decode c.code pc = .ok (.caload, 1)) (hp : pc' = pc + 1)
    (k : Go p.tables e below P T (mkF m pc' Ls (v :: S))) : Go p.tables e below P T (mkF m pc Ls (.int j :: .ref a :: S)) := by
  subst hp
  obtain ⟨cl, Ar, -, Sz, Nz, H, -⟩ := A
  have hin := inb_of Sz (jin h0 h1)
  exact Go.st (fun t q => X.caload hx (j := j) (v := v) (by rw [eT]; exact Ar.1) (State.isArrayOf_alike hZ.alike Ar.2.1) Ar.2.2 hin (H.at hin hv) (g := mkF m pc Ls (.int j :: .ref a :: S)) rfl rfl hd t q) k
theorem baload (X : Stand p l e R s m args below meth c T locs cells slots) (hx : p.tables.exec = Jvm.exec) (hZ : Z.Warmed39 s.vm) (eT : T.heap = h) {a : Addr} {kA : ClassId} {z j : Int32} {vs : List Value} {dv v : Value} (A : Arv Z h a kA .byte z vs dv) (h0 : 0 ≤ j.toInt) (h1 : j.toInt < z.toInt) (hv : vs.getD j.toNatClampNeg dv = v) (hd : decode c.code pc = .ok (.baload, 1)) (hp : pc' = pc + 1)
    (k : Go p.tables e below P T (mkF m pc' Ls (v :: S))) : Go p.tables e below P T (mkF m pc Ls (.int j :: .ref a :: S)) := by
  subst hp
  obtain ⟨cl, Ar, -, Sz, Nz, H, -⟩ := A
  have hin := inb_of Sz (jin h0 h1)
  exact Go.st (fun t q => X.baloadBytes hx (j := j) (v := v) (by rw [eT]; exact Ar.1) (State.isArrayOf_alike hZ.alike Ar.2.1) Ar.2.2 hin (H.at hin hv) (g := mkF m pc Ls (.int j :: .ref a :: S)) rfl rfl hd t q) k
theorem arrlen (X : Stand p l e R s m args below meth c T locs cells slots) (hx : p.tables.exec = Jvm.exec) (hZ : Z.Warmed39 s.vm) (eT : T.heap = h) {a : Addr} {kA : ClassId} {ty : FieldType} {z : Int32} {vs : List Value} {dv : Value} (A : Arv Z h a kA ty z vs dv) (hd : decode c.code pc = .ok (.arraylength, 1)) (hp : pc' = pc + 1)
    (k : Go p.tables e below P T (mkF m pc' Ls (.int z :: S))) : Go p.tables e below P T (mkF m pc Ls (.ref a :: S)) := by
  subst hp
  obtain ⟨cl, Ar, -, Sz, Nz, H, -⟩ := A
  refine Go.st (fun t q => X.arraylength hx (by rw [eT]; exact Ar.1) (State.isArrayOf_alike hZ.alike Ar.2.1) (g := mkF m pc Ls (.ref a :: S)) rfl rfl hd t q) ?_
  rw [len_of Sz Nz]
  exact k
theorem castore (X : Stand p l e R s m args below meth c T locs cells slots) (hx : p.tables.exec = Jvm.exec) (hZ : Z.Warmed39 s.vm) (eT : T.heap = h) {a : Addr} {kA : ClassId} {z j : Int32} {x : Int32} {vs : List Value} {dv : Value} (A : Arv Z h a kA .char z vs dv) {i : Nat} (hi : j.toInt = i) (hz : (i : Int) < z.toInt) (hl : i < vs.length) (hd : decode c.code pc = .ok (.castore, 1)) (hp : pc' = pc + 1)
    (k : ∀ T' h', Stand p l e R s m args below meth c T' (locs ++ [⟨a, j.toNatClampNeg⟩]) cells slots → T'.heap = h' → Wr h h' a j.toNatClampNeg (.int (nar .char x)) → Arv Z h' a kA .char z (vs.set i (.int (nar .char x))) dv → Go p.tables e below P T' (mkF m pc' Ls (S))) : Go p.tables e below P T (mkF m pc Ls (.int x :: .int j :: .ref a :: S)) := by
  subst hp
  obtain ⟨cl, Ar, q1, Sz, Nz, H, G⟩ := A
  have hin := inb_of Sz (jin (j := j) (z := z) (by omega) (by omega))
  obtain ⟨T', h', X', e', W', st⟩ := stC X hx hZ eT Ar (j := j) hin (g := mkF m pc Ls (.int x :: .int j :: .ref a :: S)) rfl rfl hd
  exact Go.st st (k T' h' X' e' W' (Arv.set Ar q1 Sz Nz H G (fits_nar_char _) W' i (jnat hi) hl))
theorem bastore (X : Stand p l e R s m args below meth c T locs cells slots) (hx : p.tables.exec = Jvm.exec) (hZ : Z.Warmed39 s.vm) (eT : T.heap = h) {a : Addr} {kA : ClassId} {z j : Int32} {x : Int32} {vs : List Value} {dv : Value} (A : Arv Z h a kA .byte z vs dv) {i : Nat} (hi : j.toInt = i) (hz : (i : Int) < z.toInt) (hl : i < vs.length) (hd : decode c.code pc = .ok (.bastore, 1)) (hp : pc' = pc + 1)
    (k : ∀ T' h', Stand p l e R s m args below meth c T' (locs ++ [⟨a, j.toNatClampNeg⟩]) cells slots → T'.heap = h' → Wr h h' a j.toNatClampNeg (.int (nar .byte x)) → Arv Z h' a kA .byte z (vs.set i (.int (nar .byte x))) dv → Go p.tables e below P T' (mkF m pc' Ls (S))) : Go p.tables e below P T (mkF m pc Ls (.int x :: .int j :: .ref a :: S)) := by
  subst hp
  obtain ⟨cl, Ar, q1, Sz, Nz, H, G⟩ := A
  have hin := inb_of Sz (jin (j := j) (z := z) (by omega) (by omega))
  obtain ⟨T', h', X', e', W', st⟩ := stB X hx hZ eT Ar (j := j) hin (g := mkF m pc Ls (.int x :: .int j :: .ref a :: S)) rfl rfl hd
  exact Go.st st (k T' h' X' e' W' (Arv.set Ar q1 Sz Nz H G (fits_nar_byte _) W' i (jnat hi) hl))
theorem cast_ (X : Stand p l e R s m args below meth c T locs cells slots) (hx : p.tables.exec = Jvm.exec) (hZ : Z.Warmed39 s.vm) {own : String} (hown : s.vm.findClass own = some m.cls) {K : String} {i : Nat} (w : (Cond.classLink own i K).before a0 Z = true) (eT : T.heap = h) {a : Addr} (F : Ins Z h a K true) (hd : decode c.code pc = .ok (.checkcast i, 3)) (hp : pc' = pc + 3)
    (k : ∀ T', Stand p l e R s m args below meth c T' locs cells slots → T'.heap = h → Go p.tables e below P T' (mkF m pc' Ls (.ref a :: S))) : Go p.tables e below P T (mkF m pc Ls (.ref a :: S)) := by
  subst hp
  obtain ⟨T', X', e', st⟩ := castY X hx hZ hown w eT F (g := mkF m pc Ls (.ref a :: S)) rfl rfl hd
  exact Go.st st (k T' X' e')
theorem instYes (X : Stand p l e R s m args below meth c T locs cells slots) (hx : p.tables.exec = Jvm.exec) (hZ : Z.Warmed39 s.vm) {own : String} (hown : s.vm.findClass own = some m.cls) {K : String} {i : Nat} (w : (Cond.classLink own i K).before a0 Z = true) (eT : T.heap = h) {a : Addr} (F : Ins Z h a K true) (hd : decode c.code pc = .ok (.instanceof i, 3)) (hp : pc' = pc + 3)
    (k : ∀ T', Stand p l e R s m args below meth c T' locs cells slots → T'.heap = h → Go p.tables e below P T' (mkF m pc' Ls (.int 1 :: S))) : Go p.tables e below P T (mkF m pc Ls (.ref a :: S)) := by
  subst hp
  obtain ⟨T', X', e', st⟩ := instY X hx hZ hown w eT F (g := mkF m pc Ls (.ref a :: S)) rfl rfl hd
  exact Go.st st (k T' X' e')
theorem instNull (X : Stand p l e R s m args below meth c T locs cells slots) (hx : p.tables.exec = Jvm.exec) {i : Nat} (hd : decode c.code pc = .ok (.instanceof i, 3)) (hp : pc' = pc + 3)
    (k : Go p.tables e below P T (mkF m pc' Ls (.int 0 :: S))) : Go p.tables e below P T (mkF m pc Ls (.null :: S)) := by
  subst hp; exact Go.st (X.instanceofNull hx (g := mkF m pc Ls (.null :: S)) rfl rfl hd) k
theorem initO_ (X : Stand p l e R s m args below meth c T locs cells slots) (hx : p.tables.exec = Jvm.exec) (hZ : Z.Warmed39 s.vm) {own : String} (hown : s.vm.findClass own = some m.cls) {i : Nat} (w1 : (Cond.methodLink own i Lib.objectInit).before a0 Z = true) (w2 : (Cond.instanceMethod Lib.objectInit).before a0 Z = true) (w3 : (Cond.code Lib.objectInit ⟨#[0xb1]⟩ 1 none).before a0 Z = true) (eT : T.heap = h) (hsize : Ls.size = c.maxLocals) {a : Addr} (hd : decode c.code pc = .ok (.invokespecial i, 3)) (hp : pc' = pc + 3) (hf : 1 ≤ R.frames) {W : Nat} (hW : (S.map fun v => v.category).sum ≤ W) (hl : W + 12 ≤ R.locals)
    (k : ∀ T', Stand p l e R s m args below meth c T' locs cells slots → T'.heap = h → Go p.tables e below P T' (mkF m pc' Ls (S))) : Go p.tables e below P T (mkF m pc Ls (.ref a :: S)) := by
  subst hp
  obtain ⟨T', X', e', st⟩ := initO X hx hZ hown w1 w2 w3 eT (g := mkF m pc Ls (.ref a :: S)) rfl hsize rfl hd hf (W := W) (by show 2 * 0 + _ ≤ _; simpa using hW) hl
  exact Go.st st (k T' X' e')
theorem callS_ (X : Stand p l e R s m args below meth c T locs cells slots) (hx : p.tables.exec = Jvm.exec) (hZ : Z.Warmed39 s.vm) {own : String} (hown : s.vm.findClass own = some m.cls) {y : MethodName} {i : Nat} {bytes : ByteArray} {maxL : Nat} {ret : Option FieldType} {rm : Room} {Q : Option Value → Heap → List Loc → Prop} {argsL S0 : List Value} (w1 : (Cond.methodLink own i y).before a0 Z = true) (w2 : (Cond.static y).before a0 Z = true) (w3 : (Cond.initialized y.cls).before a0 Z = true) (w4 : (Cond.code y bytes maxL ret).before a0 Z = true) (hy : y.cls ≠ "java/lang/invoke/MethodHandle" ∧ y.cls ≠ "java/lang/invoke/VarHandle") (hM : MetFree l y (head1 [Cond.code y bytes maxL ret] rm) (fun ar U => ar = argsL.toArray ∧ Z.Warmed39 U.vm ∧ U.heap = h) (fun _ _ _ _ _ => True) (fun _ U o U' => ∃ v L, o = .returned v ∧ Q v U'.heap L ∧ FrameEnd U o U' L rm.cells rm.slots)) (hf : rm.frames + 1 ≤ R.frames) {W : Nat} (hl : W + (maxL + 11) + rm.locals ≤ R.locals) (eT : T.heap = h) (hsize : Ls.size = c.maxLocals) {ps : List FieldType} {rt : Option FieldType} (hdesc : parseMethodDescriptor y.desc = some ⟨ps, rt⟩) (hlen : argsL.length = ps.length) (hS : S0 = argsL.reverse ++ S) (hW : (S.map fun v => v.category).sum ≤ W) (hd : decode c.code pc = .ok (.invokestatic i, 3)) (hp : pc' = pc + 3) (hc : cells + rm.cells ≤ R.cells) (hs : slots + rm.slots ≤ R.slots)
    (k : ∀ T' v L, Stand p l e R s m args below meth c T' (locs ++ L) (cells + rm.cells) (slots + rm.slots) → Q v T'.heap L → Go p.tables e below P T' (mkF m pc' Ls (v.toList ++ S))) : Go p.tables e below P T (mkF m pc Ls (S0)) := by
  subst hp hS
  obtain ⟨v, vm₁, ⟨T', L', k', n'⟩, -, X', ⟨L, hQ, l', y', z'⟩, st⟩ := Jvm.LawKit.callS X hx hown (mvT hZ w1) (mvT hZ w2) (mvT hZ w3) (mvT hZ w4) hy (backOf (W := W) hM hZ w4 w3 hf hl) (g := mkF m pc Ls (argsL.reverse ++ S)) rfl hsize (argsL := argsL) (rest := S) (lenOf hdesc hlen) rfl (by show 2 * 0 + _ ≤ _; simpa using hW) hd (fun _ _ => ⟨rfl, eT, hc, hs⟩)
  dsimp only [Pt.U, Pt.locs, Pt.cells, Pt.slots] at X' l' y' z' st hQ
  subst l' y' z'
  exact Go.st st (k T' v L X' hQ)
theorem callI_ (X : Stand p l e R s m args below meth c T locs cells slots) (hx : p.tables.exec = Jvm.exec) (hZ : Z.Warmed39 s.vm) {own : String} (hown : s.vm.findClass own = some m.cls) {y : MethodName} {i : Nat} {a : Addr} {bytes : ByteArray} {maxL : Nat} {ret : Option FieldType} {rm : Room} {Q : Option Value → Heap → List Loc → Prop} {argsL S0 : List Value} (hy1 : y.name = "<init>") (w1 : (Cond.methodLink own i y).before a0 Z = true) (w2 : (Cond.instanceMethod y).before a0 Z = true) (w3 : (Cond.initialized y.cls).before a0 Z = true) (w4 : (Cond.code y bytes maxL none).before a0 Z = true) (hret : ret = none) (hy : y.cls ≠ "java/lang/invoke/MethodHandle" ∧ y.cls ≠ "java/lang/invoke/VarHandle") (hM : MetFree l y (head1 [Cond.code y bytes maxL ret] rm) (fun ar U => ar = (.ref a :: argsL).toArray ∧ Z.Warmed39 U.vm ∧ U.heap = h) (fun _ _ _ _ _ => True) (fun _ U o U' => ∃ v L, o = .returned v ∧ Q v U'.heap L ∧ FrameEnd U o U' L rm.cells rm.slots)) (hf : rm.frames + 1 ≤ R.frames) {W : Nat} (hl : W + (maxL + 11) + rm.locals ≤ R.locals) (eT : T.heap = h) (hsize : Ls.size = c.maxLocals) {ps : List FieldType} {rt : Option FieldType} (hdesc : parseMethodDescriptor y.desc = some ⟨ps, rt⟩) (hlen : argsL.length = ps.length) (hS : S0 = argsL.reverse ++ .ref a :: S) (hW : (S.map fun v => v.category).sum ≤ W) (hd : decode c.code pc = .ok (.invokespecial i, 3)) (hp : pc' = pc + 3) (hc : cells + rm.cells ≤ R.cells) (hs : slots + rm.slots ≤ R.slots)
    (k : ∀ T' v L, Stand p l e R s m args below meth c T' (locs ++ L) (cells + rm.cells) (slots + rm.slots) → Q v T'.heap L → Go p.tables e below P T' (mkF m pc' Ls (v.toList ++ S))) : Go p.tables e below P T (mkF m pc Ls (S0)) := by
  subst hp hS hret
  obtain ⟨v, vm₁, ⟨T', L', k', n'⟩, -, X', ⟨L, hQ, l', y', z'⟩, st⟩ := X.specialBack hx hy1 hown (mvT hZ w1) (mvT hZ w2) (mvT hZ w4) hy (backOf (W := W) hM hZ w4 w3 hf hl) (g := mkF m pc Ls (argsL.reverse ++ .ref a :: S)) rfl hsize (Steps.refl _) (a := a) (argsL := argsL) (rest := S) (lenOf hdesc hlen) rfl (by show 2 * 0 + _ ≤ _; simpa using hW) hd (fun _ _ => ⟨rfl, eT, hc, hs⟩)
  dsimp only [Pt.U, Pt.locs, Pt.cells, Pt.slots] at X' l' y' z' st hQ
  subst l' y' z'
  exact Go.st1 st (k T' v L X' hQ)
theorem callV_ (X : Stand p l e R s m args below meth c T locs cells slots) (hx : p.tables.exec = Jvm.exec) (hZ : Z.Warmed39 s.vm) {own : String} (hown : s.vm.findClass own = some m.cls) {C : String} {y z : MethodName} {i : Nat} {a : Addr} {bytes : ByteArray} {maxL : Nat} {ret : Option FieldType} {rm : Room} {Q : Option Value → Heap → List Loc → Prop} {argsL S0 : List Value} (w1 : (Cond.methodLink own i y).before a0 Z = true) (w2 : (Cond.declares y).before a0 Z = true) (nf : NotFace s y) (w3 : (Cond.selects C y z).before a0 Z = true) (w4 : (Cond.instanceMethod z).before a0 Z = true) (w5 : (Cond.code z bytes maxL ret).before a0 Z = true) (w6 : (Cond.initialized z.cls).before a0 Z = true) (hy : y.cls ≠ "java/lang/invoke/MethodHandle" ∧ y.cls ≠ "java/lang/invoke/VarHandle") (E : Exa Z h a C) (hM : MetFree l z (head1 [Cond.code z bytes maxL ret] rm) (fun ar U => ar = (.ref a :: argsL).toArray ∧ Z.Warmed39 U.vm ∧ U.heap = h) (fun _ _ _ _ _ => True) (fun _ U o U' => ∃ v L, o = .returned v ∧ Q v U'.heap L ∧ FrameEnd U o U' L rm.cells rm.slots)) (hf : rm.frames + 1 ≤ R.frames) {W : Nat} (hl : W + (maxL + 11) + rm.locals ≤ R.locals) (eT : T.heap = h) (hsize : Ls.size = c.maxLocals) {ps : List FieldType} {rt : Option FieldType} (hdesc : parseMethodDescriptor y.desc = some ⟨ps, rt⟩) (hlen : argsL.length = ps.length) (hS : S0 = argsL.reverse ++ .ref a :: S) (hW : (S.map fun v => v.category).sum ≤ W) (hd : decode c.code pc = .ok (.invokevirtual i, 3)) (hp : pc' = pc + 3) (hc : cells + rm.cells ≤ R.cells) (hs : slots + rm.slots ≤ R.slots)
    (k : ∀ T' v L, Stand p l e R s m args below meth c T' (locs ++ L) (cells + rm.cells) (slots + rm.slots) → Q v T'.heap L → Go p.tables e below P T' (mkF m pc' Ls (v.toList ++ S))) : Go p.tables e below P T (mkF m pc Ls (S0)) := by
  subst hp hS
  obtain ⟨cq, kq, qa, qb, qc⟩ := isOf hZ eT E
  obtain ⟨v, vm₁, ⟨T', L', k', n'⟩, -, X', ⟨L, hQ, l', y', z'⟩, st⟩ := X.virtualBack hx hown (mvT hZ w1) (mvT hZ w2) nf (mvT hZ w3) (mvT hZ w4) hy (backOf (W := W) hM hZ w5 w6 hf hl) qa qc (g := mkF m pc Ls (argsL.reverse ++ .ref a :: S)) rfl hsize (Steps.refl _) (argsL := argsL) (rest := S) (lenOf hdesc hlen) rfl (by show 2 * 0 + _ ≤ _; simpa using hW) hd (fun _ _ => ⟨rfl, eT, hc, hs⟩)
  dsimp only [Pt.U, Pt.locs, Pt.cells, Pt.slots] at X' l' y' z' st hQ
  subst l' y' z'
  exact Go.st1 st (k T' v L X' hQ)
theorem met {y : MethodName} {bytes : ByteArray} {maxL : Nat} {ret : Option FieldType} {rm : Room} {as' : Array Value} {Q : Option Value → Heap → List Loc → Prop} {ws : List Jvm.Cond} {C N : Nat} (hpl : plainFor y = true) (ef : ∀ m, entryFrame m as' maxL = mkF m 0 Ls [])
    (body : ∀ (p : Program) (e : Env) (s : State) (m : MethodId) (below : List Frame) (meth : Method) (c : Code) (T : State), Stand p l e rm s m as' below meth c T [] 0 0 → p.tables.exec = Jvm.exec → Z.Warmed39 s.vm → c.code = bytes → c.maxLocals = maxL → s.vm.findClass y.cls = some m.cls → meth.name = y.name → meth.sig.returnType = ret → meth.locks = false → T.heap = h →
      Go p.tables e below (PQ s Q C N) T (mkF m 0 Ls [])) :
    MetFree l y (head1 (Cond.code y bytes maxL ret :: ws) rm) (fun a U => a = as' ∧ Z.Warmed39 U.vm ∧ U.heap = h) (fun _ _ _ _ _ => True) (fun _ U o U' => ∃ v L, o = .returned v ∧ Q v U'.heap L ∧ FrameEnd U o U' L C N) := by
  refine MetFree.of_bodySF hpl hisR ?_
  intro p e s m args below meth c s₁ Bd hml0 hP hK
  obtain ⟨rfl, hZ, hh⟩ := hP
  have e0 : s₁.heap = h := by rw [← hh, Bd.state]; rfl
  obtain ⟨s₂, o, h1, h2⟩ := body p e s m below meth c s₁ (Stand.of_body Bd) Bd.exec hZ Bd.bytes hml0 (findClass_of_methodNamed Bd.named) (name_of_methodNamed Bd.named Bd.method).1 Bd.returns Bd.notSynchronized e0
  exact ⟨s₂, o, castTop (ef m) h1, h2⟩
theorem ret_ (X : Stand p l e R s m args below meth c T locs cells slots) (hx : p.tables.exec = Jvm.exec) {Q : Option Value → Heap → List Loc → Prop} {C N : Nat} {w : Value} {t : FieldType} {i : Instr} (hret : meth.sig.returnType = some t) (hlk : meth.locks = false) (hn : narrow t w = w)
    (hi : (i = .ireturn ∧ (t = .int ∨ t = .boolean ∨ t = .byte ∨ t = .char ∨ t = .short) ∧ ∃ z, w = .int z) ∨ (i = .lreturn ∧ t = .long ∧ ∃ z, w = .long z) ∨ (i = .dreturn ∧ t = .double ∧ ∃ z, w = .double z) ∨ (i = .freturn ∧ t = .float ∧ ∃ z, w = .float z) ∨ (i = .areturn ∧ t.isReference = true ∧ w.isRef = true))
    (hd : decode c.code pc = .ok (i, 1)) (hC : cells ≤ C) (hN : slots ≤ N) (q : Q (some w) T.heap locs) : Go p.tables e below (PQ s Q C N) T (mkF m pc Ls (w :: S)) := by
  obtain ⟨fs, hr, hrun, hended, hW, hsame⟩ := X.leave (v := some w) (fun h => by rw [hret] at h; cases h) hlk
  exact ⟨_, _, retOut X hx hret hn hi hd hr, hrun, hended, _, _, rfl, q, ⟨_, rfl⟩, hW, hsame.mono hC hN⟩
theorem retI_ (X : Stand p l e R s m args below meth c T locs cells slots) (hx : p.tables.exec = Jvm.exec) {Q : Option Value → Heap → List Loc → Prop} {C N : Nat} {z : Int32} (hret : meth.sig.returnType = some .int) (hlk : meth.locks = false) (hd : decode c.code pc = .ok (.ireturn, 1)) (hC : cells ≤ C) (hN : slots ≤ N) (q : Q (some (.int z)) T.heap locs) : Go p.tables e below (PQ s Q C N) T (mkF m pc Ls (.int z :: S)) :=
  ret_ X hx hret hlk rfl (Or.inl ⟨rfl, Or.inl rfl, z, rfl⟩) hd hC hN q
theorem retA_ (X : Stand p l e R s m args below meth c T locs cells slots) (hx : p.tables.exec = Jvm.exec) {Q : Option Value → Heap → List Loc → Prop} {C N : Nat} {w : Value} {t : FieldType} (hret : meth.sig.returnType = some t) (ht : t.isReference = true) (hw : w.isRef = true) (hlk : meth.locks = false) (hd : decode c.code pc = .ok (.areturn, 1)) (hC : cells ≤ C) (hN : slots ≤ N) (q : Q (some w) T.heap locs) : Go p.tables e below (PQ s Q C N) T (mkF m pc Ls (w :: S)) :=
  ret_ X hx hret hlk (by cases t <;> first | (cases ht; done) | rfl) (Or.inr (Or.inr (Or.inr (Or.inr ⟨rfl, ht, hw⟩)))) hd hC hN q
theorem retN_ (X : Stand p l e R s m args below meth c T locs cells slots) (hx : p.tables.exec = Jvm.exec) {Q : Option Value → Heap → List Loc → Prop} {C N : Nat} {z : Int32} {t : FieldType} (hret : meth.sig.returnType = some t) (ht : t = .boolean ∨ t = .byte ∨ t = .char ∨ t = .short) (hlk : meth.locks = false) (hd : decode c.code pc = .ok (.ireturn, 1)) (hC : cells ≤ C) (hN : slots ≤ N) (q : Q (some (.int (nar t z))) T.heap locs) : Go p.tables e below (PQ s Q C N) T (mkF m pc Ls (.int z :: S)) := by
  obtain ⟨fs, hr, hrun, hended, hW, hsame⟩ := X.leave (v := some (.int (nar t z))) (fun h => by rw [hret] at h; cases h) hlk
  exact ⟨_, _, retN X hx hret ht hd hr, hrun, hended, _, _, rfl, q, ⟨_, rfl⟩, hW, hsame.mono hC hN⟩
theorem retV_ (X : Stand p l e R s m args below meth c T locs cells slots) (hx : p.tables.exec = Jvm.exec) {Q : Option Value → Heap → List Loc → Prop} {C N : Nat} (hret : meth.sig.returnType = none) (hlk : meth.locks = false) (hd : decode c.code pc = .ok (.return_, 1)) (hC : cells ≤ C) (hN : slots ≤ N) (q : Q none T.heap locs) : Go p.tables e below (PQ s Q C N) T (mkF m pc Ls []) := by
  obtain ⟨fs, hr, hrun, hended, hW, hsame⟩ := X.leave (v := none) (fun _ => rfl) hlk
  exact ⟨_, _, X.returnOut hx hret hd hr, hrun, hended, _, _, rfl, q, ⟨_, rfl⟩, hW, hsame.mono hC hN⟩
theorem Wd.ext {EL : List (String × Nat)} {own : String} {h00 : Heap} {vm0 : Vm} {h' : Heap} (W : Wd Z a0 EL s m own h00 vm0 h) (E : Ext h h') : Wd Z a0 EL s m own h00 vm0 h' := ⟨W.z, W.o, by obtain ⟨k, q1, q2⟩ := W.si; exact ⟨k, q1, Nat.le_trans q2 E.1⟩, W.r.trans (CHr.ext E W.r.1), W.w⟩
theorem Wd.wr {EL : List (String × Nat)} {own : String} {h00 : Heap} {vm0 : Vm} {h' : Heap} {a : Addr} {sl : Nat} {v : Value} (W : Wd Z a0 EL s m own h00 vm0 h) (E : Wr h h' a sl v) (S : Safe Z EL vm0 h a) : Wd Z a0 EL s m own h00 vm0 h' := ⟨W.z, W.o, by obtain ⟨k, q1, q2⟩ := W.si; exact ⟨k, q1, Nat.le_trans q2 (Keep.of_wr E).1⟩, W.r.trans (CHr.wr E S W.r.1), W.w⟩
theorem Wd.keep {EL : List (String × Nat)} {own : String} {h00 : Heap} {vm0 : Vm} {h' : Heap} {ws : List Addr} (W : Wd Z a0 EL s m own h00 vm0 h) (K : Keep h h' ws) (S : ∀ x ∈ ws, Safe Z EL vm0 h x) : Wd Z a0 EL s m own h00 vm0 h' := ⟨W.z, W.o, by obtain ⟨k, q1, q2⟩ := W.si; exact ⟨k, q1, Nat.le_trans q2 K.1⟩, W.r.trans (CHr.keep K S W.r.1), W.w⟩
theorem Wd.call {EL : List (String × Nat)} {own : String} {h00 : Heap} {vm0 : Vm} {h' : Heap} {vm1 : Vm} (W : Wd Z a0 EL s m own h00 vm0 h) (S : (s.setVm vm0).Since vm1 h'.size) (g : h.size ≤ h'.size) (r : CHr Z EL vm0 h vm1 h') : Wd Z a0 EL s m own h00 vm1 h' := by
  obtain ⟨k, q1, q2⟩ := W.si
  exact ⟨State.Warmed39.trans (t := s.setVm vm0) W.z S.1, by rw [S.1.alike.findClass]; exact W.o, ⟨_, q1.trans S (Nat.le_trans q2 g), Nat.le_refl _⟩, W.r.trans r, W.w⟩
theorem Wd.safeExt {EL : List (String × Nat)} {own : String} {h00 : Heap} {vm0 : Vm} {h' : Heap} {x : Addr} (W : Wd Z a0 EL s m own h00 vm0 h) (E : Ext h h') (S : Safe Z EL vm0 h x) : Safe Z EL vm0 h' x := Safe.ext E W.r.1 S
theorem Wd.safeWr {EL : List (String × Nat)} {own : String} {h00 : Heap} {vm0 : Vm} {h' : Heap} {x a : Addr} {sl : Nat} {v : Value} (W : Wd Z a0 EL s m own h00 vm0 h) (E : Wr h h' a sl v) (Sa : Safe Z EL vm0 h a) (S : Safe Z EL vm0 h x) : Safe Z EL vm0 h' x := Safe.wr E Sa W.r.1 S
theorem ldcC_ {EL : List (String × Nat)} {own : String} {h00 : Heap} {vm0 : Vm} (X : Stand p l e R (s.setVm vm0) m args below meth c T locs cells slots) (hx : p.tables.exec = Jvm.exec) (W : Wd Z a0 EL s m own h00 vm0 h) {text : String} {i : Nat} (w : (Cond.stringLink own i text).before a0 Z = true) (wS : ∀ a ∈ Bundle.stringAtoms, a.before a0 Z = true) (eT : T.heap = h) (hmem : (own, i) ∈ EL) {vs : List Value} {z : Int32} (ht : (∀ c ∈ text.toList, c.toNat < 256) ∧ text.toList.map (fun c => Value.int (Jvm.Lit.byteI c.toNat.toUInt16)) = vs) (hz : ¬ z < 0) (hl : z.toNatClampNeg = vs.length) (hd : decode c.code pc = .ok (.ldc i, 2)) (hp : pc' = pc + 2) {n : Nat} (hn : 4 * text.toList.length ≤ n) (hbig : n ≤ 536870912) (hc : cells + 2 ≤ R.cells) (hl' : slots + (n + 4) ≤ R.slots)
    (k : ∀ T' h' a b kb, Stand p l e R (s.setVm T'.vm) m args below meth c T' locs (cells + 2) (slots + (n + 4)) → T'.heap = h' → Ext h h' → Wd Z a0 EL s m own h00 T'.vm h' → Exa Z h' a "java/lang/String" → Fld Z h' a "java/lang/String" "coder" "B" (.int 0) → Fld Z h' a "java/lang/String" "value" "[B" (.ref b) → Arv Z h' b kb .byte z vs (.int 0) → (∀ x, Safe Z EL T'.vm h' x → x ≠ a ∧ x ≠ b) → (∀ x, x < h.size → Safe Z EL vm0 h x → Safe Z EL T'.vm h' x) → Go p.tables e below P T' (mkF m pc' Ls (.ref a :: S))) : Go p.tables e below P T (mkF m pc Ls (S)) := by
  subst hp
  obtain ⟨k0, q1, q2⟩ := W.si
  obtain ⟨a, T', h', k1, b, kb, X', e', E', s1, s2, z', o', A, F1, F2, V, -, -, r, -, ne, st⟩ := ldcCH X hx W.z W.o w wS eT q1 q2 W.w hmem W.r.1 ht hz hl (g := mkF m pc Ls S) rfl hd hn hbig hc hl'
  exact Go.st st (k T' h' a b kb X' e' E' ⟨z', o', ⟨k1, s1, s2⟩, W.r.trans r, W.w⟩ A F1 F2 V ne (fun x hx S => r.safe hx S))
theorem ldcO_ {EL : List (String × Nat)} {own : String} {h00 : Heap} {vm0 : Vm} (X : Stand p l e R (s.setVm vm0) m args below meth c T locs cells slots) (hx : p.tables.exec = Jvm.exec) (W : Wd Z a0 EL s m own h00 vm0 h) {text : String} {i : Nat} (w : (Cond.stringLink own i text).before a0 Z = true) (wS : ∀ a ∈ Bundle.stringAtoms, a.before a0 Z = true) (eT : T.heap = h) (hd : decode c.code pc = .ok (.ldc i, 2)) (hp : pc' = pc + 2) {n : Nat} (hn : 4 * text.toList.length ≤ n) (hbig : n ≤ 536870912) (hc : cells + 2 ≤ R.cells) (hl' : slots + (n + 4) ≤ R.slots)
    (k : ∀ T' h' a, Stand p l e R (s.setVm T'.vm) m args below meth c T' locs (cells + 2) (slots + (n + 4)) → T'.heap = h' → Ext h h' → Wd Z a0 EL s m own h00 T'.vm h' → Go p.tables e below P T' (mkF m pc' Ls (.ref a :: S))) : Go p.tables e below P T (mkF m pc Ls (S)) := by
  subst hp
  obtain ⟨k0, q1, q2⟩ := W.si
  obtain ⟨a, T', h', k1, X', e', E', s1, s2, z', o', r, -, st⟩ := ldcOH X hx W.z W.o w wS eT q1 q2 W.w W.r.1 (g := mkF m pc Ls S) rfl hd hn hbig hc hl'
  exact Go.st st (k T' h' a X' e' E' ⟨z', o', ⟨k1, s1, s2⟩, W.r.trans r, W.w⟩)
theorem callSW_ {EL : List (String × Nat)} {own : String} {h00 : Heap} {vm0 : Vm} (X : Stand p l e R (s.setVm vm0) m args below meth c T locs cells slots) (hx : p.tables.exec = Jvm.exec) (W' : Wd Z a0 EL s m own h00 vm0 h) {y : MethodName} {i : Nat} {bytes : ByteArray} {maxL : Nat} {ret : Option FieldType} {rm : Room} {Q : Option Value → Heap → List Loc → Prop} {argsL S0 : List Value} (w1 : (Cond.methodLink own i y).before a0 Z = true) (w2 : (Cond.static y).before a0 Z = true) (w3 : (Cond.initialized y.cls).before a0 Z = true) (w4 : (Cond.code y bytes maxL ret).before a0 Z = true) (hy : y.cls ≠ "java/lang/invoke/MethodHandle" ∧ y.cls ≠ "java/lang/invoke/VarHandle") (hM : MetFree l y (head1 [Cond.code y bytes maxL ret] rm) (fun ar U => ar = argsL.toArray ∧ Z.Warmed39 U.vm ∧ U.heap = h ∧ CHv Z EL U.vm h) (fun _ _ _ _ _ => True) (fun _ U o U' => ∃ v L, o = .returned v ∧ Q v U'.heap L ∧ CHr Z EL U.vm U.heap U'.vm U'.heap ∧ ReturnedEndW U o U' L rm.cells rm.slots)) (hf : rm.frames + 1 ≤ R.frames) {W : Nat} (hl : W + (maxL + 11) + rm.locals ≤ R.locals) (eT : T.heap = h) (hsize : Ls.size = c.maxLocals) {ps : List FieldType} {rt : Option FieldType} (hdesc : parseMethodDescriptor y.desc = some ⟨ps, rt⟩) (hlen : argsL.length = ps.length) (hS : S0 = argsL.reverse ++ S) (hW : (S.map fun v => v.category).sum ≤ W) (hd : decode c.code pc = .ok (.invokestatic i, 3)) (hp : pc' = pc + 3) (hc : cells + rm.cells ≤ R.cells) (hs : slots + rm.slots ≤ R.slots)
    (k : ∀ T' v L, Stand p l e R (s.setVm T'.vm) m args below meth c T' (locs ++ L) (cells + rm.cells) (slots + rm.slots) → Wd Z a0 EL s m own h00 T'.vm T'.heap → Q v T'.heap L → Go p.tables e below P T' (mkF m pc' Ls (v.toList ++ S))) : Go p.tables e below P T (mkF m pc Ls (S0)) := by
  subst hp hS
  have hZ : Z.Warmed39 (s.setVm vm0).vm := W'.z
  obtain ⟨v, vm₁, ⟨T', L', k', n'⟩, -, X', hS2, hg, ⟨L, hQ, l', y', z', r⟩, st⟩ := callSS X hx W'.o (mvT hZ w1) (mvT hZ w2) (mvT hZ w3) (mvT hZ w4) hy (backOfSH (W := W) hM W'.z w4 w3 hf hl W'.w W'.r.1) (g := mkF m pc Ls (argsL.reverse ++ S)) rfl hsize (argsL := argsL) (rest := S) (lenOf hdesc hlen) rfl (by show 2 * 0 + _ ≤ _; simpa using hW) hd (fun _ _ => ⟨rfl, eT, hc, hs⟩)
  dsimp only [Pt.U, Pt.locs, Pt.cells, Pt.slots] at X' l' y' z' st hQ hS2 hg r
  subst l' y' z'
  rw [eT] at hg
  exact Go.st1 st (k T' v L X' (W'.call hS2 hg r) hQ)
theorem callIW_ {EL : List (String × Nat)} {own : String} {h00 : Heap} {vm0 : Vm} (X : Stand p l e R (s.setVm vm0) m args below meth c T locs cells slots) (hx : p.tables.exec = Jvm.exec) (W' : Wd Z a0 EL s m own h00 vm0 h) {y : MethodName} {i : Nat} {a : Addr} {bytes : ByteArray} {maxL : Nat} {ret : Option FieldType} {rm : Room} {Q : Option Value → Heap → List Loc → Prop} {argsL S0 : List Value} (hy1 : y.name = "<init>") (w1 : (Cond.methodLink own i y).before a0 Z = true) (w2 : (Cond.instanceMethod y).before a0 Z = true) (w3 : (Cond.initialized y.cls).before a0 Z = true) (w4 : (Cond.code y bytes maxL none).before a0 Z = true) (hret : ret = none) (hy : y.cls ≠ "java/lang/invoke/MethodHandle" ∧ y.cls ≠ "java/lang/invoke/VarHandle") (hM : MetFree l y (head1 [Cond.code y bytes maxL ret] rm) (fun ar U => ar = (.ref a :: argsL).toArray ∧ Z.Warmed39 U.vm ∧ U.heap = h ∧ CHv Z EL U.vm h) (fun _ _ _ _ _ => True) (fun _ U o U' => ∃ v L, o = .returned v ∧ Q v U'.heap L ∧ CHr Z EL U.vm U.heap U'.vm U'.heap ∧ ReturnedEndW U o U' L rm.cells rm.slots)) (hf : rm.frames + 1 ≤ R.frames) {W : Nat} (hl : W + (maxL + 11) + rm.locals ≤ R.locals) (eT : T.heap = h) (hsize : Ls.size = c.maxLocals) {ps : List FieldType} {rt : Option FieldType} (hdesc : parseMethodDescriptor y.desc = some ⟨ps, rt⟩) (hlen : argsL.length = ps.length) (hS : S0 = argsL.reverse ++ .ref a :: S) (hW : (S.map fun v => v.category).sum ≤ W) (hd : decode c.code pc = .ok (.invokespecial i, 3)) (hp : pc' = pc + 3) (hc : cells + rm.cells ≤ R.cells) (hs : slots + rm.slots ≤ R.slots)
    (k : ∀ T' v L, Stand p l e R (s.setVm T'.vm) m args below meth c T' (locs ++ L) (cells + rm.cells) (slots + rm.slots) → Wd Z a0 EL s m own h00 T'.vm T'.heap → Q v T'.heap L → Go p.tables e below P T' (mkF m pc' Ls (v.toList ++ S))) : Go p.tables e below P T (mkF m pc Ls (S0)) := by
  subst hp hS hret
  have hZ : Z.Warmed39 (s.setVm vm0).vm := W'.z
  obtain ⟨v, vm₁, ⟨T', L', k', n'⟩, -, X', hS2, hg, ⟨L, hQ, l', y', z', r⟩, st⟩ := X.specialBackS hx hy1 W'.o (mvT hZ w1) (mvT hZ w2) (mvT hZ w4) hy (backOfSH (W := W) hM W'.z w4 w3 hf hl W'.w W'.r.1) (g := mkF m pc Ls (argsL.reverse ++ .ref a :: S)) rfl hsize (Steps.refl _) (a := a) (argsL := argsL) (rest := S) (lenOf hdesc hlen) rfl (by show 2 * 0 + _ ≤ _; simpa using hW) hd (fun _ _ => ⟨rfl, eT, hc, hs⟩)
  dsimp only [Pt.U, Pt.locs, Pt.cells, Pt.slots] at X' l' y' z' st hQ hS2 hg r
  subst l' y' z'
  rw [eT] at hg
  exact Go.st1 st (k T' v L X' (W'.call hS2 hg r) hQ)
theorem metW {y : MethodName} {bytes : ByteArray} {maxL : Nat} {ret : Option FieldType} {rm : Room} {as' : Array Value} {Q : Option Value → Heap → List Loc → Prop} {ws : List Jvm.Cond} {C N : Nat} {EL : List (String × Nat)} (hEL : EW Z a0 EL) (hpl : plainFor y = true) (ef : ∀ m, entryFrame m as' maxL = mkF m 0 Ls [])
    (body : ∀ (p : Program) (e : Env) (s : State) (m : MethodId) (below : List Frame) (meth : Method) (c : Code) (T : State), Stand p l e rm (s.setVm s.vm) m as' below meth c T [] 0 0 → p.tables.exec = Jvm.exec → Wd Z a0 EL s m y.cls h s.vm h → c.code = bytes → c.maxLocals = maxL → meth.name = y.name → meth.sig.returnType = ret → meth.locks = false → T.heap = h →
      Go p.tables e below (PQW Z EL s h Q C N) T (mkF m 0 Ls [])) :
    MetFree l y (head1 (Cond.code y bytes maxL ret :: ws) rm) (fun a U => a = as' ∧ Z.Warmed39 U.vm ∧ U.heap = h ∧ CHv Z EL U.vm h) (fun _ _ _ _ _ => True) (fun _ U o U' => ∃ v L, o = .returned v ∧ Q v U'.heap L ∧ CHr Z EL U.vm U.heap U'.vm U'.heap ∧ ReturnedEndW U o U' L C N) := by
  refine MetFree.of_bodySF hpl hisR ?_
  intro p e s m args below meth c s₁ Bd hml0 hP hK
  obtain ⟨rfl, hZ, hh, hC⟩ := hP
  have e0 : s₁.heap = h := by rw [← hh, Bd.state]; rfl
  obtain ⟨s₂, o, h1, h2, h3, v, L, q1, q2, q3, q4⟩ := body p e s m below meth c s₁ (Stand.of_body Bd) Bd.exec ⟨hZ, findClass_of_methodNamed Bd.named, ⟨h.size, (State.WarmedH.refl s).since _, Nat.le_refl _⟩, CHr.refl hC, hEL⟩ Bd.bytes hml0 (name_of_methodNamed Bd.named Bd.method).1 Bd.returns Bd.notSynchronized e0
  exact ⟨s₂, o, castTop (ef m) h1, h2, h3, v, L, q1, q2, by rw [hh]; exact q3, q4⟩
theorem leave_W {EL : List (String × Nat)} {own : String} {h00 : Heap} {vm0 : Vm} {v : Option Value} (X : Stand p l e R (s.setVm vm0) m args below meth c T locs cells slots) (hx : p.tables.exec = Jvm.exec) (W : Wd Z a0 EL s m own h00 vm0 h) (hv : meth.sig.returnType = none → v = none) (hlk : meth.locks = false) (eT : T.heap = h) {Q : Option Value → Heap → List Loc → Prop} {C N : Nat} (hC : cells ≤ C) (hN : slots ≤ N) (q : Q v T.heap locs) :
    ∃ fs, (∀ (f : JFrame) (acts : List Action), f.method = m → f.locked = none → f.entered = [] → (doReturn e (T.setTop f) acts v).1 = T.setFrames fs) ∧ (T.setFrames fs).status = .running ∧ Ended (T.setFrames fs) below (.returned v) ∧ PQW Z EL s h00 Q C N (.returned v) (T.setFrames fs) := by
  obtain ⟨k0, q1, q2⟩ := W.si
  obtain ⟨fs, hr, hrun, hended, r1, r2, r3, r4⟩ := X.leaveW q1 (by rw [eT]; exact q2) (v := v) hv hlk
  have hat := CHv.at X W.z W.w W.r.1
  exact ⟨fs, hr, hrun, hended, _, _, rfl, q, by rw [← eT] at hat W; exact W.r.trans hat, r1, r2, r3, r4.mono hC hN⟩
theorem ret_W {EL : List (String × Nat)} {own : String} {h00 : Heap} {vm0 : Vm} (X : Stand p l e R (s.setVm vm0) m args below meth c T locs cells slots) (hx : p.tables.exec = Jvm.exec) (W : Wd Z a0 EL s m own h00 vm0 h) {Q : Option Value → Heap → List Loc → Prop} {C N : Nat} {w : Value} {t : FieldType} {i : Instr} (hret : meth.sig.returnType = some t) (hlk : meth.locks = false) (hn : narrow t w = w)
    (hi : (i = .ireturn ∧ (t = .int ∨ t = .boolean ∨ t = .byte ∨ t = .char ∨ t = .short) ∧ ∃ z, w = .int z) ∨ (i = .lreturn ∧ t = .long ∧ ∃ z, w = .long z) ∨ (i = .dreturn ∧ t = .double ∧ ∃ z, w = .double z) ∨ (i = .freturn ∧ t = .float ∧ ∃ z, w = .float z) ∨ (i = .areturn ∧ t.isReference = true ∧ w.isRef = true))
    (hd : decode c.code pc = .ok (i, 1)) (eT : T.heap = h) (hC : cells ≤ C) (hN : slots ≤ N) (q : Q (some w) T.heap locs) : Go p.tables e below (PQW Z EL s h00 Q C N) T (mkF m pc Ls (w :: S)) := by
  obtain ⟨fs, hr, hrun, hended, hE⟩ := leave_W X hx W (v := some w) (fun h => by rw [hret] at h; cases h) hlk eT hC hN q
  exact ⟨_, _, retOut X hx hret hn hi hd hr, hrun, hended, hE⟩
theorem retAW_ {EL : List (String × Nat)} {own : String} {h00 : Heap} {vm0 : Vm} (X : Stand p l e R (s.setVm vm0) m args below meth c T locs cells slots) (hx : p.tables.exec = Jvm.exec) (W : Wd Z a0 EL s m own h00 vm0 h) {Q : Option Value → Heap → List Loc → Prop} {C N : Nat} {w : Value} {t : FieldType} (hret : meth.sig.returnType = some t) (ht : t.isReference = true) (hw : w.isRef = true) (hlk : meth.locks = false) (hd : decode c.code pc = .ok (.areturn, 1)) (eT : T.heap = h) (hC : cells ≤ C) (hN : slots ≤ N) (q : Q (some w) T.heap locs) : Go p.tables e below (PQW Z EL s h00 Q C N) T (mkF m pc Ls (w :: S)) :=
  ret_W X hx W hret hlk (by cases t <;> first | (cases ht; done) | rfl) (Or.inr (Or.inr (Or.inr (Or.inr ⟨rfl, ht, hw⟩)))) hd eT hC hN q
theorem retNW_ {EL : List (String × Nat)} {own : String} {h00 : Heap} {vm0 : Vm} (X : Stand p l e R (s.setVm vm0) m args below meth c T locs cells slots) (hx : p.tables.exec = Jvm.exec) (W : Wd Z a0 EL s m own h00 vm0 h) {Q : Option Value → Heap → List Loc → Prop} {C N : Nat} {z : Int32} {t : FieldType} (hret : meth.sig.returnType = some t) (ht : t = .boolean ∨ t = .byte ∨ t = .char ∨ t = .short) (hlk : meth.locks = false) (hd : decode c.code pc = .ok (.ireturn, 1)) (eT : T.heap = h) (hC : cells ≤ C) (hN : slots ≤ N) (q : Q (some (.int (nar t z))) T.heap locs) : Go p.tables e below (PQW Z EL s h00 Q C N) T (mkF m pc Ls (.int z :: S)) := by
  obtain ⟨fs, hr, hrun, hended, hE⟩ := leave_W X hx W (v := some (.int (nar t z))) (fun h => by rw [hret] at h; cases h) hlk eT hC hN q
  exact ⟨_, _, retN X hx hret ht hd hr, hrun, hended, hE⟩
theorem retVW_ {EL : List (String × Nat)} {own : String} {h00 : Heap} {vm0 : Vm} (X : Stand p l e R (s.setVm vm0) m args below meth c T locs cells slots) (hx : p.tables.exec = Jvm.exec) (W : Wd Z a0 EL s m own h00 vm0 h) {Q : Option Value → Heap → List Loc → Prop} {C N : Nat} (hret : meth.sig.returnType = none) (hlk : meth.locks = false) (hd : decode c.code pc = .ok (.return_, 1)) (eT : T.heap = h) (hC : cells ≤ C) (hN : slots ≤ N) (q : Q none T.heap locs) : Go p.tables e below (PQW Z EL s h00 Q C N) T (mkF m pc Ls []) := by
  obtain ⟨fs, hr, hrun, hended, hE⟩ := leave_W X hx W (v := none) (fun _ => rfl) hlk eT hC hN q
  exact ⟨_, _, X.returnOut hx hret hd hr, hrun, hended, hE⟩
end Steps
end Jvm.OwnK
namespace Jvm.Pilot.@@N@@
open Jvm Jvm.ClassFile Sem Op Lib Jvm.Free Jvm.Stand Jvm.LawKit Jvm.RoadKit Bundle Jvm.Pilot.@@N@@.Jvm.D
def own_EL : List (String × Nat) := [("java/lang/String", 7)]
theorem own_ew (l : Launch) (Z : State) (a0 : Array Value) (hw : ∀ d ∈ tables_1, d.before a0 Z = true) : EW Z a0 own_EL := (EW.cons (hw _ (List.mem_of_getElem? (i := 28) rfl)) (by decide) EW.nil)
theorem own_sa (l : Launch) (Z : State) (a0 : Array Value) (hw : ∀ d ∈ tables_1, d.before a0 Z = true) : ∀ a ∈ Bundle.stringAtoms, a.before a0 Z = true := fun d hd => by
  simp only [Bundle.stringAtoms, List.mem_cons, List.not_mem_nil, or_false] at hd
  rcases hd with rfl | rfl | rfl | rfl | rfl | rfl | rfl
  · exact (hw _ (List.mem_of_getElem? (i := 16) rfl))
  · exact (hw _ (List.mem_of_getElem? (i := 15) rfl))
  · exact (hw _ (List.mem_of_getElem? (i := 29) rfl))
  · exact (hw _ (List.mem_of_getElem? (i := 30) rfl))
  · exact (hw _ (List.mem_of_getElem? (i := 31) rfl))
  · exact (hw _ (List.mem_of_getElem? (i := 32) rfl))
  · exact (hw _ (List.mem_of_getElem? (i := 33) rfl))
theorem own_ef_16_0_0_1 (p1 : Addr) (p3 : Addr)  (m : MethodId) : entryFrame m #[(.ref p1), (.int (0 : Int32)), (.ref p3), (.int (0 : Int32)), (.int (1 : Int32))] 7 = mkF m 0 #[.val (.ref p1), .val (.int (0 : Int32)), .val (.ref p3), .val (.int (0 : Int32)), .val (.int (1 : Int32)), .unset, .unset] [] := by first | (simp [entryFrame, mkF, argsToLocals, Value.category]; done) | rfl
theorem own_d16_0 : decode jdk_52_method_21_code 0 = .ok (.iconst 0, 1) := by decide +kernel
theorem own_d16_1 : decode jdk_52_method_21_code 1 = .ok (.istore 5, 2) := by decide +kernel
theorem own_d16_3 : decode jdk_52_method_21_code 3 = .ok (.iload 5, 2) := by decide +kernel
theorem own_d16_5 : decode jdk_52_method_21_code 5 = .ok (.iload 4, 2) := by decide +kernel
theorem own_d16_7 : decode jdk_52_method_21_code 7 = .ok (.if_icmp .ge 37, 3) := by decide +kernel
theorem own_d16_10 : decode jdk_52_method_21_code 10 = .ok (.aload_n 0, 1) := by decide +kernel
theorem own_d16_11 : decode jdk_52_method_21_code 11 = .ok (.iload_n 1, 1) := by decide +kernel
theorem own_d16_12 : decode jdk_52_method_21_code 12 = .ok (.caload, 1) := by decide +kernel
theorem own_d16_13 : decode jdk_52_method_21_code 13 = .ok (.istore 6, 2) := by decide +kernel
theorem own_d16_15 : decode jdk_52_method_21_code 15 = .ok (.iload 6, 2) := by decide +kernel
theorem own_d16_17 : decode jdk_52_method_21_code 17 = .ok (.sipush 255, 3) := by decide +kernel
theorem own_d16_20 : decode jdk_52_method_21_code 20 = .ok (.if_icmp .le 6, 3) := by decide +kernel
theorem own_d16_26 : decode jdk_52_method_21_code 26 = .ok (.aload_n 2, 1) := by decide +kernel
theorem own_d16_27 : decode jdk_52_method_21_code 27 = .ok (.iload_n 3, 1) := by decide +kernel
theorem own_d16_28 : decode jdk_52_method_21_code 28 = .ok (.iload 6, 2) := by decide +kernel
theorem own_d16_30 : decode jdk_52_method_21_code 30 = .ok (.i2b, 1) := by decide +kernel
theorem own_d16_31 : decode jdk_52_method_21_code 31 = .ok (.bastore, 1) := by decide +kernel
theorem own_d16_32 : decode jdk_52_method_21_code 32 = .ok (.iinc 1 1, 3) := by decide +kernel
theorem own_d16_35 : decode jdk_52_method_21_code 35 = .ok (.iinc 3 1, 3) := by decide +kernel
theorem own_d16_38 : decode jdk_52_method_21_code 38 = .ok (.iinc 5 1, 3) := by decide +kernel
theorem own_d16_41 : decode jdk_52_method_21_code 41 = .ok (.goto (-38), 3) := by decide +kernel
theorem own_d16_44 : decode jdk_52_method_21_code 44 = .ok (.iload 4, 2) := by decide +kernel
theorem own_d16_46 : decode jdk_52_method_21_code 46 = .ok (.ireturn, 1) := by decide +kernel
theorem own_pl_16 : plainFor (⟨"java/lang/StringUTF16", "compress", "([CI[BII)I"⟩ : MethodName) = true := plainFor_of_name (by first | (simp [plainName, overriddenIn]; done) | decide +kernel)
theorem own_ef_15_0_1 (p1 : Addr)  (m : MethodId) : entryFrame m #[(.ref p1), (.int (0 : Int32)), (.int (1 : Int32))] 6 = mkF m 0 #[.val (.ref p1), .val (.int (0 : Int32)), .val (.int (1 : Int32)), .unset, .unset, .unset] [] := by first | (simp [entryFrame, mkF, argsToLocals, Value.category]; done) | rfl
theorem own_d15_0 : decode jdk_52_method_16_code 0 = .ok (.iload_n 2, 1) := by decide +kernel
theorem own_d15_1 : decode jdk_52_method_16_code 1 = .ok (.newarray .byte, 2) := by decide +kernel
theorem own_d15_3 : decode jdk_52_method_16_code 3 = .ok (.astore_n 3, 1) := by decide +kernel
theorem own_d15_4 : decode jdk_52_method_16_code 4 = .ok (.aload_n 0, 1) := by decide +kernel
theorem own_d15_5 : decode jdk_52_method_16_code 5 = .ok (.iload_n 1, 1) := by decide +kernel
theorem own_d15_6 : decode jdk_52_method_16_code 6 = .ok (.aload_n 3, 1) := by decide +kernel
theorem own_d15_7 : decode jdk_52_method_16_code 7 = .ok (.iconst 0, 1) := by decide +kernel
theorem own_d15_8 : decode jdk_52_method_16_code 8 = .ok (.iload_n 2, 1) := by decide +kernel
theorem own_d15_9 : decode jdk_52_method_16_code 9 = .ok (.invokestatic 115, 3) := by decide +kernel
theorem own_pd_14 : parseMethodDescriptor "([CI[BII)I" = some ⟨[(.array .char), .int, (.array .byte), .int, .int], some .int⟩ := by decide +kernel
theorem own_d15_12 : decode jdk_52_method_16_code 12 = .ok (.istore 4, 2) := by decide +kernel
theorem own_d15_14 : decode jdk_52_method_16_code 14 = .ok (.iload 4, 2) := by decide +kernel
theorem own_d15_16 : decode jdk_52_method_16_code 16 = .ok (.iload_n 2, 1) := by decide +kernel
theorem own_d15_17 : decode jdk_52_method_16_code 17 = .ok (.if_icmp .eq 40, 3) := by decide +kernel
theorem own_d15_57 : decode jdk_52_method_16_code 57 = .ok (.aload_n 3, 1) := by decide +kernel
theorem own_d15_58 : decode jdk_52_method_16_code 58 = .ok (.areturn, 1) := by decide +kernel
theorem own_pl_15 : plainFor (⟨"java/lang/StringUTF16", "compress", "([CII)[B"⟩ : MethodName) = true := plainFor_of_name (by first | (simp [plainName, overriddenIn]; done) | decide +kernel)
theorem own_ef_17_1 (p1 : Addr)  (m : MethodId) : entryFrame m #[(.ref p1), (.int (1 : Int32))] 2 = mkF m 0 #[.val (.ref p1), .val (.int (1 : Int32))] [] := by first | (simp [entryFrame, mkF, argsToLocals, Value.category]; done) | rfl
theorem own_d17_0 : decode jdk_52_method_15_code 0 = .ok (.iload_n 1, 1) := by decide +kernel
theorem own_d17_1 : decode jdk_52_method_15_code 1 = .ok (.aload_n 0, 1) := by decide +kernel
theorem own_d17_2 : decode jdk_52_method_15_code 2 = .ok (.arraylength, 1) := by decide +kernel
theorem own_d17_3 : decode jdk_52_method_15_code 3 = .ok (.isub, 1) := by decide +kernel
theorem own_d17_4 : decode jdk_52_method_15_code 4 = .ok (.bipush 31, 2) := by decide +kernel
theorem own_d17_6 : decode jdk_52_method_15_code 6 = .ok (.iushr, 1) := by decide +kernel
theorem own_d17_7 : decode jdk_52_method_15_code 7 = .ok (.i2b, 1) := by decide +kernel
theorem own_d17_8 : decode jdk_52_method_15_code 8 = .ok (.ireturn, 1) := by decide +kernel
theorem own_pl_17 : plainFor (⟨"java/lang/StringUTF16", "coderFromArrayLen", "([BI)B"⟩ : MethodName) = true := plainFor_of_name (by first | (simp [plainName, overriddenIn]; done) | decide +kernel)
theorem own_ef_5n_0_1 (p1 : Addr) (p2 : Addr)  (m : MethodId) : entryFrame m #[(.ref p1), (.ref p2), (.int (0 : Int32)), (.int (1 : Int32)), .null] 6 = mkF m 0 #[.val (.ref p1), .val (.ref p2), .val (.int (0 : Int32)), .val (.int (1 : Int32)), .val .null, .unset] [] := by first | (simp [entryFrame, mkF, argsToLocals, Value.category]; done) | rfl
theorem own_d5_0 : decode jdk_42_method_149_code 0 = .ok (.aload_n 0, 1) := by decide +kernel
theorem own_d5_1 : decode jdk_42_method_149_code 1 = .ok (.invokespecial 1, 3) := by decide +kernel
theorem own_d5_4 : decode jdk_42_method_149_code 4 = .ok (.iload_n 3, 1) := by decide +kernel
theorem own_d5_5 : decode jdk_42_method_149_code 5 = .ok (.ifCond .ne 22, 3) := by decide +kernel
theorem own_d5_27 : decode jdk_42_method_149_code 27 = .ok (.getstatic 38, 3) := by decide +kernel
theorem own_d5_30 : decode jdk_42_method_149_code 30 = .ok (.ifCond .eq 28, 3) := by decide +kernel
theorem own_d5_33 : decode jdk_42_method_149_code 33 = .ok (.aload_n 1, 1) := by decide +kernel
theorem own_d5_34 : decode jdk_42_method_149_code 34 = .ok (.iload_n 2, 1) := by decide +kernel
theorem own_d5_35 : decode jdk_42_method_149_code 35 = .ok (.iload_n 3, 1) := by decide +kernel
theorem own_d5_36 : decode jdk_42_method_149_code 36 = .ok (.invokestatic 177, 3) := by decide +kernel
theorem own_pd_12 : parseMethodDescriptor "([CII)[B" = some ⟨[(.array .char), .int, .int], some (.array .byte)⟩ := by decide +kernel
theorem own_d5_39 : decode jdk_42_method_149_code 39 = .ok (.astore 5, 2) := by decide +kernel
theorem own_d5_41 : decode jdk_42_method_149_code 41 = .ok (.aload_n 0, 1) := by decide +kernel
theorem own_d5_42 : decode jdk_42_method_149_code 42 = .ok (.aload 5, 2) := by decide +kernel
theorem own_d5_44 : decode jdk_42_method_149_code 44 = .ok (.iload_n 3, 1) := by decide +kernel
theorem own_d5_45 : decode jdk_42_method_149_code 45 = .ok (.invokestatic 47, 3) := by decide +kernel
theorem own_pd_9 : parseMethodDescriptor "([BI)B" = some ⟨[(.array .byte), .int], some .byte⟩ := by decide +kernel
theorem own_d5_48 : decode jdk_42_method_149_code 48 = .ok (.putfield 15, 3) := by decide +kernel
theorem own_d5_51 : decode jdk_42_method_149_code 51 = .ok (.aload_n 0, 1) := by decide +kernel
theorem own_d5_52 : decode jdk_42_method_149_code 52 = .ok (.aload 5, 2) := by decide +kernel
theorem own_d5_54 : decode jdk_42_method_149_code 54 = .ok (.putfield 9, 3) := by decide +kernel
theorem own_d5_57 : decode jdk_42_method_149_code 57 = .ok (.return_, 1) := by decide +kernel
theorem own_pl_5 : plainFor (⟨"java/lang/String", "<init>", "([CIILjava/lang/Void;)V"⟩ : MethodName) = true := plainFor_of_name (by first | (simp [plainName, overriddenIn]; done) | decide +kernel)
theorem own_ef_4 (p1 : Addr) (p2 : Addr)  (m : MethodId) : entryFrame m #[(.ref p1), (.ref p2)] 2 = mkF m 0 #[.val (.ref p1), .val (.ref p2)] [] := by first | (simp [entryFrame, mkF, argsToLocals, Value.category]; done) | rfl
theorem own_d4_0 : decode jdk_42_method_3_code 0 = .ok (.aload_n 0, 1) := by decide +kernel
theorem own_d4_1 : decode jdk_42_method_3_code 1 = .ok (.aload_n 1, 1) := by decide +kernel
theorem own_d4_2 : decode jdk_42_method_3_code 2 = .ok (.iconst 0, 1) := by decide +kernel
theorem own_d4_3 : decode jdk_42_method_3_code 3 = .ok (.aload_n 1, 1) := by decide +kernel
theorem own_d4_4 : decode jdk_42_method_3_code 4 = .ok (.arraylength, 1) := by decide +kernel
theorem own_d4_5 : decode jdk_42_method_3_code 5 = .ok (.aconst_null, 1) := by decide +kernel
theorem own_d4_6 : decode jdk_42_method_3_code 6 = .ok (.invokespecial 27, 3) := by decide +kernel
theorem own_pd_13 : parseMethodDescriptor "([CIILjava/lang/Void;)V" = some ⟨[(.array .char), .int, .int, (.object "java/lang/Void")], none⟩ := by decide +kernel
theorem own_d4_9 : decode jdk_42_method_3_code 9 = .ok (.return_, 1) := by decide +kernel
theorem own_pl_4 : plainFor (⟨"java/lang/String", "<init>", "([C)V"⟩ : MethodName) = true := plainFor_of_name (by first | (simp [plainName, overriddenIn]; done) | decide +kernel)
theorem own_ef_16_0_0_2 (p1 : Addr) (p3 : Addr)  (m : MethodId) : entryFrame m #[(.ref p1), (.int (0 : Int32)), (.ref p3), (.int (0 : Int32)), (.int (2 : Int32))] 7 = mkF m 0 #[.val (.ref p1), .val (.int (0 : Int32)), .val (.ref p3), .val (.int (0 : Int32)), .val (.int (2 : Int32)), .unset, .unset] [] := by first | (simp [entryFrame, mkF, argsToLocals, Value.category]; done) | rfl
theorem own_ef_15_0_2 (p1 : Addr)  (m : MethodId) : entryFrame m #[(.ref p1), (.int (0 : Int32)), (.int (2 : Int32))] 6 = mkF m 0 #[.val (.ref p1), .val (.int (0 : Int32)), .val (.int (2 : Int32)), .unset, .unset, .unset] [] := by first | (simp [entryFrame, mkF, argsToLocals, Value.category]; done) | rfl
theorem own_ef_17_2 (p1 : Addr)  (m : MethodId) : entryFrame m #[(.ref p1), (.int (2 : Int32))] 2 = mkF m 0 #[.val (.ref p1), .val (.int (2 : Int32))] [] := by first | (simp [entryFrame, mkF, argsToLocals, Value.category]; done) | rfl
theorem own_ef_5n_0_2 (p1 : Addr) (p2 : Addr)  (m : MethodId) : entryFrame m #[(.ref p1), (.ref p2), (.int (0 : Int32)), (.int (2 : Int32)), .null] 6 = mkF m 0 #[.val (.ref p1), .val (.ref p2), .val (.int (0 : Int32)), .val (.int (2 : Int32)), .val .null, .unset] [] := by first | (simp [entryFrame, mkF, argsToLocals, Value.category]; done) | rfl
theorem own_ef_5n_0_0 (p1 : Addr) (p2 : Addr)  (m : MethodId) : entryFrame m #[(.ref p1), (.ref p2), (.int (0 : Int32)), (.int (0 : Int32)), .null] 6 = mkF m 0 #[.val (.ref p1), .val (.ref p2), .val (.int (0 : Int32)), .val (.int (0 : Int32)), .val .null, .unset] [] := by first | (simp [entryFrame, mkF, argsToLocals, Value.category]; done) | rfl
theorem own_d5_8 : decode jdk_42_method_149_code 8 = .ok (.aload_n 0, 1) := by decide +kernel
theorem own_d5_9 : decode jdk_42_method_149_code 9 = .ok (.ldc 7, 2) := by decide +kernel
theorem own_d5_11 : decode jdk_42_method_149_code 11 = .ok (.getfield 9, 3) := by decide +kernel
theorem own_d5_14 : decode jdk_42_method_149_code 14 = .ok (.putfield 9, 3) := by decide +kernel
theorem own_d5_17 : decode jdk_42_method_149_code 17 = .ok (.aload_n 0, 1) := by decide +kernel
theorem own_d5_18 : decode jdk_42_method_149_code 18 = .ok (.ldc 7, 2) := by decide +kernel
theorem own_d5_20 : decode jdk_42_method_149_code 20 = .ok (.getfield 15, 3) := by decide +kernel
theorem own_d5_23 : decode jdk_42_method_149_code 23 = .ok (.putfield 15, 3) := by decide +kernel
theorem own_d5_26 : decode jdk_42_method_149_code 26 = .ok (.return_, 1) := by decide +kernel
theorem own_ef_12 (p1 : Addr) (p2 : Addr)  (m : MethodId) : entryFrame m #[(.ref p1), (.ref p2)] 3 = mkF m 0 #[.val (.ref p1), .val (.ref p2), .unset] [] := by first | (simp [entryFrame, mkF, argsToLocals, Value.category]; done) | rfl
theorem own_d12_0 : decode jdk_43_method_13_code 0 = .ok (.aload_n 0, 1) := by decide +kernel
theorem own_d12_1 : decode jdk_43_method_13_code 1 = .ok (.arraylength, 1) := by decide +kernel
theorem own_d12_2 : decode jdk_43_method_13_code 2 = .ok (.aload_n 1, 1) := by decide +kernel
theorem own_d12_3 : decode jdk_43_method_13_code 3 = .ok (.arraylength, 1) := by decide +kernel
theorem own_d12_4 : decode jdk_43_method_13_code 4 = .ok (.if_icmp .ne 30, 3) := by decide +kernel
theorem own_d12_34 : decode jdk_43_method_13_code 34 = .ok (.iconst 0, 1) := by decide +kernel
theorem own_d12_35 : decode jdk_43_method_13_code 35 = .ok (.ireturn, 1) := by decide +kernel
theorem own_d12_7 : decode jdk_43_method_13_code 7 = .ok (.iconst 0, 1) := by decide +kernel
theorem own_d12_8 : decode jdk_43_method_13_code 8 = .ok (.istore_n 2, 1) := by decide +kernel
theorem own_d12_9 : decode jdk_43_method_13_code 9 = .ok (.iload_n 2, 1) := by decide +kernel
theorem own_d12_10 : decode jdk_43_method_13_code 10 = .ok (.aload_n 0, 1) := by decide +kernel
theorem own_d12_11 : decode jdk_43_method_13_code 11 = .ok (.arraylength, 1) := by decide +kernel
theorem own_d12_12 : decode jdk_43_method_13_code 12 = .ok (.if_icmp .ge 20, 3) := by decide +kernel
theorem own_d12_32 : decode jdk_43_method_13_code 32 = .ok (.iconst 1, 1) := by decide +kernel
theorem own_d12_33 : decode jdk_43_method_13_code 33 = .ok (.ireturn, 1) := by decide +kernel
theorem own_d12_15 : decode jdk_43_method_13_code 15 = .ok (.aload_n 0, 1) := by decide +kernel
theorem own_d12_16 : decode jdk_43_method_13_code 16 = .ok (.iload_n 2, 1) := by decide +kernel
theorem own_d12_17 : decode jdk_43_method_13_code 17 = .ok (.baload, 1) := by decide +kernel
theorem own_d12_18 : decode jdk_43_method_13_code 18 = .ok (.aload_n 1, 1) := by decide +kernel
theorem own_d12_19 : decode jdk_43_method_13_code 19 = .ok (.iload_n 2, 1) := by decide +kernel
theorem own_d12_20 : decode jdk_43_method_13_code 20 = .ok (.baload, 1) := by decide +kernel
theorem own_d12_21 : decode jdk_43_method_13_code 21 = .ok (.if_icmp .eq 5, 3) := by decide +kernel
theorem own_d12_26 : decode jdk_43_method_13_code 26 = .ok (.iinc 2 1, 3) := by decide +kernel
theorem own_d12_29 : decode jdk_43_method_13_code 29 = .ok (.goto (-20), 3) := by decide +kernel
theorem own_d12_24 : decode jdk_43_method_13_code 24 = .ok (.iconst 0, 1) := by decide +kernel
theorem own_d12_25 : decode jdk_43_method_13_code 25 = .ok (.ireturn, 1) := by decide +kernel
theorem own_pl_12 : plainFor (⟨"java/lang/StringLatin1", "equals", "([B[B)Z"⟩ : MethodName) = true := plainFor_of_name (by first | (simp [plainName, overriddenIn]; done) | decide +kernel)
theorem own_ef_11 (p1 : Addr) (p2 : Addr)  (m : MethodId) : entryFrame m #[(.ref p1), (.ref p2)] 3 = mkF m 0 #[.val (.ref p1), .val (.ref p2), .unset] [] := by first | (simp [entryFrame, mkF, argsToLocals, Value.category]; done) | rfl
theorem own_d11_0 : decode jdk_42_method_66_code 0 = .ok (.aload_n 0, 1) := by decide +kernel
theorem own_d11_1 : decode jdk_42_method_66_code 1 = .ok (.aload_n 1, 1) := by decide +kernel
theorem own_d11_2 : decode jdk_42_method_66_code 2 = .ok (.if_acmp .ne 5, 3) := by decide +kernel
theorem own_d11_7 : decode jdk_42_method_66_code 7 = .ok (.aload_n 1, 1) := by decide +kernel
theorem own_d11_8 : decode jdk_42_method_66_code 8 = .ok (.instanceof 10, 3) := by decide +kernel
theorem own_d11_11 : decode jdk_42_method_66_code 11 = .ok (.ifCond .eq 43, 3) := by decide +kernel
theorem own_d11_14 : decode jdk_42_method_66_code 14 = .ok (.aload_n 1, 1) := by decide +kernel
theorem own_d11_15 : decode jdk_42_method_66_code 15 = .ok (.checkcast 10, 3) := by decide +kernel
theorem own_d11_18 : decode jdk_42_method_66_code 18 = .ok (.astore_n 2, 1) := by decide +kernel
theorem own_d11_19 : decode jdk_42_method_66_code 19 = .ok (.getstatic 38, 3) := by decide +kernel
theorem own_d11_22 : decode jdk_42_method_66_code 22 = .ok (.ifCond .eq 14, 3) := by decide +kernel
theorem own_d11_25 : decode jdk_42_method_66_code 25 = .ok (.aload_n 0, 1) := by decide +kernel
theorem own_d11_26 : decode jdk_42_method_66_code 26 = .ok (.getfield 15, 3) := by decide +kernel
theorem own_d11_29 : decode jdk_42_method_66_code 29 = .ok (.aload_n 2, 1) := by decide +kernel
theorem own_d11_30 : decode jdk_42_method_66_code 30 = .ok (.getfield 15, 3) := by decide +kernel
theorem own_d11_33 : decode jdk_42_method_66_code 33 = .ok (.if_icmp .ne 21, 3) := by decide +kernel
theorem own_d11_36 : decode jdk_42_method_66_code 36 = .ok (.aload_n 0, 1) := by decide +kernel
theorem own_d11_37 : decode jdk_42_method_66_code 37 = .ok (.getfield 9, 3) := by decide +kernel
theorem own_d11_40 : decode jdk_42_method_66_code 40 = .ok (.aload_n 2, 1) := by decide +kernel
theorem own_d11_41 : decode jdk_42_method_66_code 41 = .ok (.getfield 9, 3) := by decide +kernel
theorem own_d11_44 : decode jdk_42_method_66_code 44 = .ok (.invokestatic 541, 3) := by decide +kernel
theorem own_pd_10 : parseMethodDescriptor "([B[B)Z" = some ⟨[(.array .byte), (.array .byte)], some .boolean⟩ := by decide +kernel
theorem own_d11_47 : decode jdk_42_method_66_code 47 = .ok (.ifCond .eq 7, 3) := by decide +kernel
theorem own_d11_54 : decode jdk_42_method_66_code 54 = .ok (.iconst 0, 1) := by decide +kernel
theorem own_d11_55 : decode jdk_42_method_66_code 55 = .ok (.ireturn, 1) := by decide +kernel
theorem own_d11_50 : decode jdk_42_method_66_code 50 = .ok (.iconst 1, 1) := by decide +kernel
theorem own_d11_51 : decode jdk_42_method_66_code 51 = .ok (.goto 4, 3) := by decide +kernel
theorem own_d11_5 : decode jdk_42_method_66_code 5 = .ok (.iconst 1, 1) := by decide +kernel
theorem own_d11_6 : decode jdk_42_method_66_code 6 = .ok (.ireturn, 1) := by decide +kernel
theorem own_pl_11 : plainFor (⟨"java/lang/String", "equals", "(Ljava/lang/Object;)Z"⟩ : MethodName) = true := plainFor_of_name (by first | (simp [plainName, overriddenIn]; done) | decide +kernel)
theorem own_ef_3 (p1 : Int32) (p2 : Int32)  (m : MethodId) : entryFrame m #[(.int p1), (.int p2)] 2 = mkF m 0 #[.val (.int p1), .val (.int p2)] [] := by first | (simp [entryFrame, mkF, argsToLocals, Value.category]; done) | rfl
theorem own_d3_0 : decode jdk_29_method_69_code 0 = .ok (.iload_n 0, 1) := by decide +kernel
theorem own_d3_1 : decode jdk_29_method_69_code 1 = .ok (.iload_n 1, 1) := by decide +kernel
theorem own_d3_2 : decode jdk_29_method_69_code 2 = .ok (.if_icmp .gt 7, 3) := by decide +kernel
theorem own_d3_9 : decode jdk_29_method_69_code 9 = .ok (.iload_n 1, 1) := by decide +kernel
theorem own_d3_10 : decode jdk_29_method_69_code 10 = .ok (.ireturn, 1) := by decide +kernel
theorem own_d3_5 : decode jdk_29_method_69_code 5 = .ok (.iload_n 0, 1) := by decide +kernel
theorem own_d3_6 : decode jdk_29_method_69_code 6 = .ok (.goto 4, 3) := by decide +kernel
theorem own_pl_3 : plainFor (⟨"java/lang/Math", "min", "(II)I"⟩ : MethodName) = true := Jvm.Free.JP.mathPlain rfl (by decide +kernel)
theorem own_ef_2 (p1 : Int32)  (m : MethodId) : entryFrame m #[(.int p1)] 1 = mkF m 0 #[.val (.int p1)] [] := by first | (simp [entryFrame, mkF, argsToLocals, Value.category]; done) | rfl
theorem own_d2_0 : decode method_2_code 0 = .ok (.iload_n 0, 1) := by decide +kernel
theorem own_d2_1 : decode method_2_code 1 = .ok (.bipush 16, 2) := by decide +kernel
theorem own_d2_3 : decode method_2_code 3 = .ok (.iushr, 1) := by decide +kernel
theorem own_d2_4 : decode method_2_code 4 = .ok (.iconst 3, 1) := by decide +kernel
theorem own_d2_5 : decode method_2_code 5 = .ok (.iand, 1) := by decide +kernel
theorem own_d2_6 : decode method_2_code 6 = .ok (.iconst 2, 1) := by decide +kernel
theorem own_d2_7 : decode method_2_code 7 = .ok (.invokestatic 7, 3) := by decide +kernel
theorem own_pd_4 : parseMethodDescriptor "(II)I" = some ⟨[.int, .int], some .int⟩ := by decide +kernel
theorem own_d2_10 : decode method_2_code 10 = .ok (.ireturn, 1) := by decide +kernel
theorem own_pl_2 : plainFor (⟨"com/example/traceway/traceway/core/HeaderEqualsPinLaw", "len", "(I)I"⟩ : MethodName) = true := plainFor_of_name (by first | (simp [plainName, overriddenIn]; done) | decide +kernel)
theorem own_ef_13 (p1 : Int32)  (m : MethodId) : entryFrame m #[(.int p1)] 1 = mkF m 0 #[.val (.int p1)] [] := by first | (simp [entryFrame, mkF, argsToLocals, Value.category]; done) | rfl
theorem own_d13_0 : decode method_3_code 0 = .ok (.iload_n 0, 1) := by decide +kernel
theorem own_d13_1 : decode method_3_code 1 = .ok (.sipush 255, 3) := by decide +kernel
theorem own_d13_4 : decode method_3_code 4 = .ok (.iand, 1) := by decide +kernel
theorem own_d13_5 : decode method_3_code 5 = .ok (.i2c, 1) := by decide +kernel
theorem own_d13_6 : decode method_3_code 6 = .ok (.ireturn, 1) := by decide +kernel
theorem own_pl_13 : plainFor (⟨"com/example/traceway/traceway/core/HeaderEqualsPinLaw", "c0", "(I)C"⟩ : MethodName) = true := plainFor_of_name (by first | (simp [plainName, overriddenIn]; done) | decide +kernel)
theorem own_ef_14 (p1 : Int32)  (m : MethodId) : entryFrame m #[(.int p1)] 1 = mkF m 0 #[.val (.int p1)] [] := by first | (simp [entryFrame, mkF, argsToLocals, Value.category]; done) | rfl
theorem own_d14_0 : decode method_4_code 0 = .ok (.iload_n 0, 1) := by decide +kernel
theorem own_d14_1 : decode method_4_code 1 = .ok (.bipush 8, 2) := by decide +kernel
theorem own_d14_3 : decode method_4_code 3 = .ok (.iushr, 1) := by decide +kernel
theorem own_d14_4 : decode method_4_code 4 = .ok (.sipush 255, 3) := by decide +kernel
theorem own_d14_7 : decode method_4_code 7 = .ok (.iand, 1) := by decide +kernel
theorem own_d14_8 : decode method_4_code 8 = .ok (.i2c, 1) := by decide +kernel
theorem own_d14_9 : decode method_4_code 9 = .ok (.ireturn, 1) := by decide +kernel
theorem own_pl_14 : plainFor (⟨"com/example/traceway/traceway/core/HeaderEqualsPinLaw", "c1", "(I)C"⟩ : MethodName) = true := plainFor_of_name (by first | (simp [plainName, overriddenIn]; done) | decide +kernel)
theorem own_ef_1 (p1 : Int32)  (m : MethodId) : entryFrame m #[(.int p1)] 2 = mkF m 0 #[.val (.int p1), .unset] [] := by first | (simp [entryFrame, mkF, argsToLocals, Value.category]; done) | rfl
theorem own_d1_0 : decode method_5_code 0 = .ok (.iload_n 0, 1) := by decide +kernel
theorem own_d1_1 : decode method_5_code 1 = .ok (.invokestatic 13, 3) := by decide +kernel
theorem own_pd_2 : parseMethodDescriptor "(I)I" = some ⟨[.int], some .int⟩ := by decide +kernel
theorem own_d1_4 : decode method_5_code 4 = .ok (.istore_n 1, 1) := by decide +kernel
theorem own_d1_5 : decode method_5_code 5 = .ok (.iload_n 1, 1) := by decide +kernel
theorem own_d1_6 : decode method_5_code 6 = .ok (.ifCond .ne 14, 3) := by decide +kernel
theorem own_d1_20 : decode method_5_code 20 = .ok (.iload_n 1, 1) := by decide +kernel
theorem own_d1_21 : decode method_5_code 21 = .ok (.iconst 1, 1) := by decide +kernel
theorem own_d1_22 : decode method_5_code 22 = .ok (.if_icmp .ne 21, 3) := by decide +kernel
theorem own_d1_43 : decode method_5_code 43 = .ok (.new 19, 3) := by decide +kernel
theorem own_d1_46 : decode method_5_code 46 = .ok (.dup, 1) := by decide +kernel
theorem own_d1_47 : decode method_5_code 47 = .ok (.iconst 2, 1) := by decide +kernel
theorem own_d1_48 : decode method_5_code 48 = .ok (.newarray .char, 2) := by decide +kernel
theorem own_d1_50 : decode method_5_code 50 = .ok (.dup, 1) := by decide +kernel
theorem own_d1_51 : decode method_5_code 51 = .ok (.iconst 0, 1) := by decide +kernel
theorem own_d1_52 : decode method_5_code 52 = .ok (.iload_n 0, 1) := by decide +kernel
theorem own_d1_53 : decode method_5_code 53 = .ok (.invokestatic 24, 3) := by decide +kernel
theorem own_pd_1 : parseMethodDescriptor "(I)C" = some ⟨[.int], some .char⟩ := by decide +kernel
theorem own_d1_56 : decode method_5_code 56 = .ok (.castore, 1) := by decide +kernel
theorem own_d1_57 : decode method_5_code 57 = .ok (.dup, 1) := by decide +kernel
theorem own_d1_58 : decode method_5_code 58 = .ok (.iconst 1, 1) := by decide +kernel
theorem own_d1_59 : decode method_5_code 59 = .ok (.iload_n 0, 1) := by decide +kernel
theorem own_d1_60 : decode method_5_code 60 = .ok (.invokestatic 28, 3) := by decide +kernel
theorem own_d1_63 : decode method_5_code 63 = .ok (.castore, 1) := by decide +kernel
theorem own_d1_64 : decode method_5_code 64 = .ok (.invokespecial 21, 3) := by decide +kernel
theorem own_pd_11 : parseMethodDescriptor "([C)V" = some ⟨[(.array .char)], none⟩ := by decide +kernel
theorem own_d1_67 : decode method_5_code 67 = .ok (.areturn, 1) := by decide +kernel
theorem own_d1_25 : decode method_5_code 25 = .ok (.new 19, 3) := by decide +kernel
theorem own_d1_28 : decode method_5_code 28 = .ok (.dup, 1) := by decide +kernel
theorem own_d1_29 : decode method_5_code 29 = .ok (.iconst 1, 1) := by decide +kernel
theorem own_d1_30 : decode method_5_code 30 = .ok (.newarray .char, 2) := by decide +kernel
theorem own_d1_32 : decode method_5_code 32 = .ok (.dup, 1) := by decide +kernel
theorem own_d1_33 : decode method_5_code 33 = .ok (.iconst 0, 1) := by decide +kernel
theorem own_d1_34 : decode method_5_code 34 = .ok (.iload_n 0, 1) := by decide +kernel
theorem own_d1_35 : decode method_5_code 35 = .ok (.invokestatic 24, 3) := by decide +kernel
theorem own_d1_38 : decode method_5_code 38 = .ok (.castore, 1) := by decide +kernel
theorem own_d1_39 : decode method_5_code 39 = .ok (.invokespecial 21, 3) := by decide +kernel
theorem own_d1_42 : decode method_5_code 42 = .ok (.areturn, 1) := by decide +kernel
theorem own_d1_9 : decode method_5_code 9 = .ok (.new 19, 3) := by decide +kernel
theorem own_d1_12 : decode method_5_code 12 = .ok (.dup, 1) := by decide +kernel
theorem own_d1_13 : decode method_5_code 13 = .ok (.iconst 0, 1) := by decide +kernel
theorem own_d1_14 : decode method_5_code 14 = .ok (.newarray .char, 2) := by decide +kernel
theorem own_d1_16 : decode method_5_code 16 = .ok (.invokespecial 21, 3) := by decide +kernel
theorem own_d1_19 : decode method_5_code 19 = .ok (.areturn, 1) := by decide +kernel
theorem own_pl_1 : plainFor (⟨"com/example/traceway/traceway/core/HeaderEqualsPinLaw", "mk", "(I)Ljava/lang/String;"⟩ : MethodName) = true := plainFor_of_name (by first | (simp [plainName, overriddenIn]; done) | decide +kernel)
theorem own_ef_8 (p1 : Addr) (p2 : Addr)  (m : MethodId) : entryFrame m #[(.ref p1), (.ref p2)] 2 = mkF m 0 #[.val (.ref p1), .val (.ref p2)] [] := by first | (simp [entryFrame, mkF, argsToLocals, Value.category]; done) | rfl
theorem own_d8_0 : decode jdk_31_method_11_code 0 = .ok (.aload_n 0, 1) := by decide +kernel
theorem own_d8_1 : decode jdk_31_method_11_code 1 = .ok (.ifnonnull 12, 3) := by decide +kernel
theorem own_d8_13 : decode jdk_31_method_11_code 13 = .ok (.aload_n 0, 1) := by decide +kernel
theorem own_d8_14 : decode jdk_31_method_11_code 14 = .ok (.areturn, 1) := by decide +kernel
theorem own_pl_8 : plainFor (⟨"java/util/Objects", "requireNonNull", "(Ljava/lang/Object;Ljava/lang/String;)Ljava/lang/Object;"⟩ : MethodName) = true := plainFor_of_name (by first | (simp [plainName, overriddenIn]; done) | decide +kernel)
theorem own_ef_7 (p1 : Addr) (p2 : Addr) (p3 : Addr)  (m : MethodId) : entryFrame m #[(.ref p1), (.ref p2), (.ref p3)] 3 = mkF m 0 #[.val (.ref p1), .val (.ref p2), .val (.ref p3)] [] := by first | (simp [entryFrame, mkF, argsToLocals, Value.category]; done) | rfl
theorem own_d7_0 : decode prog_15_method_1_code 0 = .ok (.aload_n 0, 1) := by decide +kernel
theorem own_d7_1 : decode prog_15_method_1_code 1 = .ok (.invokespecial 1, 3) := by decide +kernel
theorem own_d7_4 : decode prog_15_method_1_code 4 = .ok (.aload_n 0, 1) := by decide +kernel
theorem own_d7_5 : decode prog_15_method_1_code 5 = .ok (.aload_n 1, 1) := by decide +kernel
theorem own_d7_6 : decode prog_15_method_1_code 6 = .ok (.ldc 7, 2) := by decide +kernel
theorem own_d7_8 : decode prog_15_method_1_code 8 = .ok (.invokestatic 9, 3) := by decide +kernel
theorem own_pd_7 : parseMethodDescriptor "(Ljava/lang/Object;Ljava/lang/String;)Ljava/lang/Object;" = some ⟨[(.object "java/lang/Object"), (.object "java/lang/String")], some (.object "java/lang/Object")⟩ := by decide +kernel
theorem own_d7_11 : decode prog_15_method_1_code 11 = .ok (.checkcast 15, 3) := by decide +kernel
theorem own_d7_14 : decode prog_15_method_1_code 14 = .ok (.putfield 17, 3) := by decide +kernel
theorem own_d7_17 : decode prog_15_method_1_code 17 = .ok (.aload_n 0, 1) := by decide +kernel
theorem own_d7_18 : decode prog_15_method_1_code 18 = .ok (.aload_n 2, 1) := by decide +kernel
theorem own_d7_19 : decode prog_15_method_1_code 19 = .ok (.ldc 22, 2) := by decide +kernel
theorem own_d7_21 : decode prog_15_method_1_code 21 = .ok (.invokestatic 9, 3) := by decide +kernel
theorem own_d7_24 : decode prog_15_method_1_code 24 = .ok (.checkcast 15, 3) := by decide +kernel
theorem own_d7_27 : decode prog_15_method_1_code 27 = .ok (.putfield 24, 3) := by decide +kernel
theorem own_d7_30 : decode prog_15_method_1_code 30 = .ok (.return_, 1) := by decide +kernel
theorem own_pl_7 : plainFor (⟨"com/example/traceway/traceway/core/Header", "<init>", "(Ljava/lang/String;Ljava/lang/String;)V"⟩ : MethodName) = true := plainFor_of_name (by first | (simp [plainName, overriddenIn]; done) | decide +kernel)
theorem own_ef_10n (p1 : Addr)  (m : MethodId) : entryFrame m #[(.ref p1), .null] 3 = mkF m 0 #[.val (.ref p1), .val .null, .unset] [] := by first | (simp [entryFrame, mkF, argsToLocals, Value.category]; done) | rfl
theorem own_d10_0 : decode prog_15_method_7_code 0 = .ok (.aload_n 1, 1) := by decide +kernel
theorem own_d10_1 : decode prog_15_method_7_code 1 = .ok (.instanceof 18, 3) := by decide +kernel
theorem own_d10_4 : decode prog_15_method_7_code 4 = .ok (.ifCond .eq 11, 3) := by decide +kernel
theorem own_d10_15 : decode prog_15_method_7_code 15 = .ok (.iconst 0, 1) := by decide +kernel
theorem own_d10_16 : decode prog_15_method_7_code 16 = .ok (.ireturn, 1) := by decide +kernel
theorem own_pl_10 : plainFor (⟨"com/example/traceway/traceway/core/Header", "equals", "(Ljava/lang/Object;)Z"⟩ : MethodName) = true := plainFor_of_name (by first | (simp [plainName, overriddenIn]; done) | decide +kernel)
theorem own_ef_10 (p1 : Addr) (p2 : Addr)  (m : MethodId) : entryFrame m #[(.ref p1), (.ref p2)] 3 = mkF m 0 #[.val (.ref p1), .val (.ref p2), .unset] [] := by first | (simp [entryFrame, mkF, argsToLocals, Value.category]; done) | rfl
theorem own_d10_7 : decode prog_15_method_7_code 7 = .ok (.aload_n 1, 1) := by decide +kernel
theorem own_d10_8 : decode prog_15_method_7_code 8 = .ok (.checkcast 18, 3) := by decide +kernel
theorem own_d10_11 : decode prog_15_method_7_code 11 = .ok (.astore_n 2, 1) := by decide +kernel
theorem own_d10_12 : decode prog_15_method_7_code 12 = .ok (.goto 5, 3) := by decide +kernel
theorem own_d10_17 : decode prog_15_method_7_code 17 = .ok (.aload_n 0, 1) := by decide +kernel
theorem own_d10_18 : decode prog_15_method_7_code 18 = .ok (.getfield 17, 3) := by decide +kernel
theorem own_d10_21 : decode prog_15_method_7_code 21 = .ok (.aload_n 2, 1) := by decide +kernel
theorem own_d10_22 : decode prog_15_method_7_code 22 = .ok (.getfield 17, 3) := by decide +kernel
theorem own_d10_25 : decode prog_15_method_7_code 25 = .ok (.invokevirtual 62, 3) := by decide +kernel
theorem own_pd_6 : parseMethodDescriptor "(Ljava/lang/Object;)Z" = some ⟨[(.object "java/lang/Object")], some .boolean⟩ := by decide +kernel
theorem own_d10_28 : decode prog_15_method_7_code 28 = .ok (.ifCond .eq 21, 3) := by decide +kernel
theorem own_d10_49 : decode prog_15_method_7_code 49 = .ok (.iconst 0, 1) := by decide +kernel
theorem own_d10_50 : decode prog_15_method_7_code 50 = .ok (.ireturn, 1) := by decide +kernel
theorem own_d10_31 : decode prog_15_method_7_code 31 = .ok (.aload_n 0, 1) := by decide +kernel
theorem own_d10_32 : decode prog_15_method_7_code 32 = .ok (.getfield 24, 3) := by decide +kernel
theorem own_d10_35 : decode prog_15_method_7_code 35 = .ok (.aload_n 2, 1) := by decide +kernel
theorem own_d10_36 : decode prog_15_method_7_code 36 = .ok (.getfield 24, 3) := by decide +kernel
theorem own_d10_39 : decode prog_15_method_7_code 39 = .ok (.invokevirtual 62, 3) := by decide +kernel
theorem own_d10_42 : decode prog_15_method_7_code 42 = .ok (.ifCond .eq 7, 3) := by decide +kernel
theorem own_d10_45 : decode prog_15_method_7_code 45 = .ok (.iconst 1, 1) := by decide +kernel
theorem own_d10_46 : decode prog_15_method_7_code 46 = .ok (.goto 4, 3) := by decide +kernel
theorem own_ef_9 (p1 : Int32) (p2 : Int32)  (m : MethodId) : entryFrame m #[(.int p1), (.int p2)] 2 = mkF m 0 #[.val (.int p1), .val (.int p2)] [] := by first | (simp [entryFrame, mkF, argsToLocals, Value.category]; done) | rfl
theorem own_d9_0 : decode method_6_code 0 = .ok (.iload_n 0, 1) := by decide +kernel
theorem own_d9_1 : decode method_6_code 1 = .ok (.invokestatic 13, 3) := by decide +kernel
theorem own_d9_4 : decode method_6_code 4 = .ok (.iload_n 1, 1) := by decide +kernel
theorem own_d9_5 : decode method_6_code 5 = .ok (.invokestatic 13, 3) := by decide +kernel
theorem own_d9_8 : decode method_6_code 8 = .ok (.if_icmp .eq 5, 3) := by decide +kernel
theorem own_d9_13 : decode method_6_code 13 = .ok (.iload_n 0, 1) := by decide +kernel
theorem own_d9_14 : decode method_6_code 14 = .ok (.invokestatic 13, 3) := by decide +kernel
theorem own_d9_17 : decode method_6_code 17 = .ok (.iconst 1, 1) := by decide +kernel
theorem own_d9_18 : decode method_6_code 18 = .ok (.if_icmp .lt 16, 3) := by decide +kernel
theorem own_d9_34 : decode method_6_code 34 = .ok (.iload_n 0, 1) := by decide +kernel
theorem own_d9_35 : decode method_6_code 35 = .ok (.invokestatic 13, 3) := by decide +kernel
theorem own_d9_38 : decode method_6_code 38 = .ok (.iconst 2, 1) := by decide +kernel
theorem own_d9_39 : decode method_6_code 39 = .ok (.if_icmp .lt 16, 3) := by decide +kernel
theorem own_d9_55 : decode method_6_code 55 = .ok (.iconst 1, 1) := by decide +kernel
theorem own_d9_56 : decode method_6_code 56 = .ok (.ireturn, 1) := by decide +kernel
theorem own_d9_42 : decode method_6_code 42 = .ok (.iload_n 0, 1) := by decide +kernel
theorem own_d9_43 : decode method_6_code 43 = .ok (.invokestatic 28, 3) := by decide +kernel
theorem own_d9_46 : decode method_6_code 46 = .ok (.iload_n 1, 1) := by decide +kernel
theorem own_d9_47 : decode method_6_code 47 = .ok (.invokestatic 28, 3) := by decide +kernel
theorem own_d9_50 : decode method_6_code 50 = .ok (.if_icmp .eq 5, 3) := by decide +kernel
theorem own_d9_53 : decode method_6_code 53 = .ok (.iconst 0, 1) := by decide +kernel
theorem own_d9_54 : decode method_6_code 54 = .ok (.ireturn, 1) := by decide +kernel
theorem own_d9_21 : decode method_6_code 21 = .ok (.iload_n 0, 1) := by decide +kernel
theorem own_d9_22 : decode method_6_code 22 = .ok (.invokestatic 24, 3) := by decide +kernel
theorem own_d9_25 : decode method_6_code 25 = .ok (.iload_n 1, 1) := by decide +kernel
theorem own_d9_26 : decode method_6_code 26 = .ok (.invokestatic 24, 3) := by decide +kernel
theorem own_d9_29 : decode method_6_code 29 = .ok (.if_icmp .eq 5, 3) := by decide +kernel
theorem own_d9_32 : decode method_6_code 32 = .ok (.iconst 0, 1) := by decide +kernel
theorem own_d9_33 : decode method_6_code 33 = .ok (.ireturn, 1) := by decide +kernel
theorem own_d9_11 : decode method_6_code 11 = .ok (.iconst 0, 1) := by decide +kernel
theorem own_d9_12 : decode method_6_code 12 = .ok (.ireturn, 1) := by decide +kernel
theorem own_pl_9 : plainFor (⟨"com/example/traceway/traceway/core/HeaderEqualsPinLaw", "same", "(II)Z"⟩ : MethodName) = true := plainFor_of_name (by first | (simp [plainName, overriddenIn]; done) | decide +kernel)
theorem own_ef_0 (q0 : Int32) (q1 : Int32) (q2 : Int32) (q3 : Int32) (q4 : Int32)  (m : MethodId) : entryFrame m #[(.int q0), (.int q1), (.int q2), (.int q3), (.int q4)] maxLocals = mkF m 0 #[.val (.int q0), .val (.int q1), .val (.int q2), .val (.int q3), .val (.int q4), .unset, .unset, .unset, .unset, .unset, .unset, .unset, .unset] [] := by first | (simp [entryFrame, mkF, argsToLocals, Value.category, maxLocals]; done) | rfl
theorem own_pd_3 : parseMethodDescriptor "(I)Ljava/lang/String;" = some ⟨[.int], some (.object "java/lang/String")⟩ := by decide +kernel
theorem own_pd_8 : parseMethodDescriptor "(Ljava/lang/String;Ljava/lang/String;)V" = some ⟨[(.object "java/lang/String"), (.object "java/lang/String")], none⟩ := by decide +kernel
theorem own_pd_5 : parseMethodDescriptor "(II)Z" = some ⟨[.int, .int], some .boolean⟩ := by decide +kernel
theorem own_pl_0 : plainFor x = true := plainFor_of_name (by first | (simp [plainName, overriddenIn]; done) | decide +kernel)
def own_len (x : Int32) : Int32 := if (2 : Int32).toInt < (XT.ushr x (16 : Int32) &&& (3 : Int32)).toInt then (2 : Int32) else (XT.ushr x (16 : Int32) &&& (3 : Int32))
theorem own_lenr (x : Int32) : 0 ≤ (own_len x).toInt ∧ (own_len x).toInt ≤ 2 := by
  have h1 := c_and (XT.ushr x (16 : Int32)) (3 : Int32) (by decide)
  have h2 : (2 : Int32).toInt = 2 := by decide
  unfold own_len
  split <;> omega
def own_Sg (Z : State) (h : Heap) (a t : Addr) (k : ClassId) (z : Int32) (vs : List Value) : Prop := Exa Z h a "java/lang/String" ∧ Fld Z h a "java/lang/String" "coder" "B" (.int (0 : Int32)) ∧ Fld Z h a "java/lang/String" "value" "[B" (.ref t) ∧ Arv Z h t k .byte z vs (.int (0 : Int32))
def own_eqI (z1 x0 x1 z2 y0 y1 : Int) : Int32 := if z1 = z2 ∧ (0 < z1 → x0 = y0) ∧ (1 < z1 → x1 = y1) then 1 else 0
theorem own_eq1 {z1 x0 x1 z2 y0 y1 : Int} (h : z1 = z2 ∧ (0 < z1 → x0 = y0) ∧ (1 < z1 → x1 = y1)) : own_eqI z1 x0 x1 z2 y0 y1 = 1 := if_pos h
theorem own_eq0 {z1 x0 x1 z2 y0 y1 : Int} (h : ¬ (z1 = z2 ∧ (0 < z1 → x0 = y0) ∧ (1 < z1 → x1 = y1))) : own_eqI z1 x0 x1 z2 y0 y1 = 0 := if_neg h
theorem own_eqc (z1 x0 x1 z2 y0 y1 : Int) : (own_eqI z1 x0 x1 z2 y0 y1 = 1 ∧ (z1 = z2 ∧ (0 < z1 → x0 = y0) ∧ (1 < z1 → x1 = y1))) ∨ (own_eqI z1 x0 x1 z2 y0 y1 = 0 ∧ ¬ (z1 = z2 ∧ (0 < z1 → x0 = y0) ∧ (1 < z1 → x1 = y1))) := by
  by_cases h : z1 = z2 ∧ (0 < z1 → x0 = y0) ∧ (1 < z1 → x1 = y1)
  · exact Or.inl ⟨own_eq1 h, h⟩
  · exact Or.inr ⟨own_eq0 h, h⟩
theorem own_nar1 : nar .boolean (1 : Int32) = 1 := by decide
theorem own_nar0 : nar .boolean (0 : Int32) = 0 := by decide
theorem own_eqn {z1 x0 x1 z2 y0 y1 : Int} (h : ¬ (own_eqI z1 x0 x1 z2 y0 y1).toInt = 0) : some (Value.int (nar .boolean (1 : Int32))) = some (.int (own_eqI z1 x0 x1 z2 y0 y1)) := by
  rcases own_eqc z1 x0 x1 z2 y0 y1 with ⟨q, _⟩ | ⟨q, _⟩
  · rw [q, own_nar1]
  · rw [q] at h; exact absurd (by decide) h
theorem own_eqz {z1 x0 x1 z2 y0 y1 : Int} (h : (own_eqI z1 x0 x1 z2 y0 y1).toInt = 0) : some (Value.int (nar .boolean (0 : Int32))) = some (.int (own_eqI z1 x0 x1 z2 y0 y1)) := by
  rcases own_eqc z1 x0 x1 z2 y0 y1 with ⟨q, _⟩ | ⟨q, _⟩
  · rw [q] at h; exact absurd h (by decide)
  · rw [q, own_nar0]
theorem own_narb (x : Int32) : nar .byte x.toInt8.toInt32 = x.toInt8.toInt32 := by
  show (x.toInt8.toInt32).toInt8.toInt32 = _
  simp
theorem own_fldEq {Z : State} {h : Heap} {a : Addr} {C n d : String} {v w : Value} (F : Fld Z h a C n d v) (G : Fld Z h a C n d w) : v = w := by
  obtain ⟨c1, cf1, k1, i1, f1, a1, b1, -, -, -, -, e1⟩ := F
  obtain ⟨c2, cf2, k2, i2, f2, a2, b2, -, -, -, -, e2⟩ := G
  cases a1.symm.trans a2
  cases b1.symm.trans b2
  exact Option.some.inj (e1.symm.trans e2)
theorem own_arvEq {Z : State} {h : Heap} {a : Addr} {k1 k2 : ClassId} {t1 t2 : FieldType} {z1 z2 : Int32} {v1 v2 : List Value} {d1 d2 : Value} (F : Arv Z h a k1 t1 z1 v1 d1) (G : Arv Z h a k2 t2 z2 v2 d2) : z1.toInt = z2.toInt ∧ ∀ i : Nat, (i : Int) < z1.toInt → v1.getD i d1 = v2.getD i d2 := by
  obtain ⟨c1, a1, -, s1, n1, h1, -⟩ := F
  obtain ⟨c2, a2, -, s2, n2, h2, -⟩ := G
  cases a1.1.symm.trans a2.1
  have q1 := nat_of n1
  have q2 := nat_of n2
  refine ⟨by omega, fun i hi => ?_⟩
  exact Option.some.inj ((h1 i (by omega)).symm.trans (h2 i (by omega)))
/-- one String, said twice -/
theorem own_same {Z : State} {h : Heap} {a b t u : Addr} {k1 k2 : ClassId} {z1 z2 x0 x1 y0 y1 : Int32} (e : (Value.ref a) = .ref b) (F : own_Sg Z h a t k1 z1 [.int x0, .int x1]) (G : own_Sg Z h b u k2 z2 [.int y0, .int y1]) : z1.toInt = z2.toInt ∧ (0 < z1.toInt → x0.toInt = y0.toInt) ∧ (1 < z1.toInt → x1.toInt = y1.toInt) := by
  cases e
  have e1 := own_fldEq F.2.2.1 G.2.2.1
  cases e1
  obtain ⟨q, r⟩ := own_arvEq F.2.2.2 G.2.2.2
  refine ⟨q, fun h0 => ?_, fun h0 => ?_⟩
  · have := r 0 (by omega); simp at this; rw [this]
  · have := r 1 (by omega); simp at this; rw [this]
/-- an object of an ordinary class is no array -/
theorem own_nek {Z : State} {a0 : Array Value} {h : Heap} {x t : Addr} {C : String} {n : Nat} {k : ClassId} {ty : FieldType} {z : Int32} {vs : List Value} {d : Value} (w : (Cond.instantiable C n).before a0 Z = true) (E : Exa Z h x C) (A : Arv Z h t k ty z vs d) : x ≠ t := fun e => by
  subst e
  obtain ⟨cell, kk, e1, e2, e3, -, -⟩ := E
  obtain ⟨c, ⟨a1, ⟨-, kA, hkA, comp, hk⟩, -⟩, -⟩ := A
  cases e1.symm.trans a1
  obtain ⟨c', k', q0, q1, q2, -⟩ := Cond.instantiable_spec (show (Cond.instantiable C n).holds a0 Z none Z [] = true from w)
  cases e3.symm.trans hkA
  cases q0.symm.trans e2
  cases q1.symm.trans e3
  rw [hk] at q2
  cases q2
theorem own_no {Z : State} {a0 : Array Value} {C S K : String} {n : Nat} (w1 : (Cond.superclass C S).before a0 Z = true) (w2 : (Cond.noSuperclass S).before a0 Z = true) (wk : (Cond.instantiable K n).before a0 Z = true) (h1 : C ≠ K) (h2 : S ≠ K) : ∃ c t, Z.vm.findClass C = some c ∧ Z.vm.findClass K = some t ∧ Z.vm.assignable c t = false := by
  obtain ⟨c, h0⟩ := found_sup w1
  obtain ⟨p, k, kp, g1, g2, g3, g4, g5, -, g7⟩ := Cond.superclass_spec h0 w1
  obtain ⟨c', k', r1, r2, r3, -, -⟩ := Cond.noSuperclass_spec w2
  cases g1.symm.trans r1
  obtain ⟨t, kt, ht, q1, q2, q3, -⟩ := Cond.instantiable_spec (show (Cond.instantiable K n).holds a0 Z none Z [] = true from wk)
  have q4 : kt.isInterface = false := by simp at q3; exact q3.1
  have ne1 := ids_ne h0 ht h1
  have ne2 := ids_ne r1 ht h2
  refine ⟨c, t, h0, ht, ?_⟩
  have n3 : ∀ fuel, Z.vm.isSubclassAux fuel c t = false := fun fuel => by
    cases fuel with
    | zero => rfl
    | succ f =>
      cases f with
      | zero => simp [Vm.isSubclassAux, ne1, g2, g4]
      | succ f => simp [Vm.isSubclassAux, ne1, ne2, g2, g4, r2, r3]
  show Z.vm.assignableAux (255 + 1) c t = false
  simp [Vm.assignableAux, ne1, g2, q1, g5, q2, q4, Vm.isSubclass, n3]
theorem own_safeS {Z : State} {EL : List (String × Nat)} {vm : Vm} {h : Heap} {x : Addr} (hZ : Z.Warmed39 vm) (E : Exa Z h x "java/lang/String") (F : Fld Z h x "java/lang/String" "value" "[B" .null) : Safe Z EL vm h x := fun B => by
  have hal := hZ.alike
  obtain ⟨cell, k, e1, e2, e3, -, -⟩ := E
  obtain ⟨p, -, u, a, -, q, -, G, rfl | rfl⟩ := B
  · cases (show h[q.sa]? = some q.sC from G.ha).symm.trans e1
    obtain ⟨c1, cf1, k1, i1, f1, a1, b1, -, -, -, -, d1⟩ := F
    cases a1.symm.trans e1
    obtain ⟨cS, ⟨⟨s1, s2, s3, ⟨cv, kv, iv, s4, s4'⟩, -, s6, s7, s8, -⟩, -⟩, -⟩ := G
    obtain ⟨kv', z4⟩ := ff_back (U := Wst Z vm h) hal s4
    cases b1.symm.trans z4
    cases s8.symm.trans d1
  · cases (show h[q.sd]? = some q.SA from G.hd).symm.trans e1
    obtain ⟨cS, -, -, f, -⟩ := G
    rw [show (Wst Z vm h).vm = vm from rfl, hal.findClass] at f
    obtain ⟨k1, q1, q2⟩ := Vm.findClass_spec f
    obtain ⟨k2, q3, q4⟩ := Vm.findClass_spec e2
    cases q1.symm.trans q3
    exact absurd (q2.symm.trans q4) (by decide)
theorem own_narc {x : Int32} (h : 0 ≤ x.toInt ∧ x.toInt ≤ 255) : nar .char x = x := by
  have := c_i2c x
  refine Int32.toInt_inj.mp ?_
  show (x.toUInt32.toUInt16.toUInt32.toInt32).toInt = _
  omega
theorem own_m255 (x : Int32) : 0 ≤ (x &&& (255 : Int32)).toInt ∧ (x &&& (255 : Int32)).toInt ≤ 255 := c_and x 255 (by decide)
theorem own_ch (x : Int32) : nar .char ((x &&& (255 : Int32)).toUInt32.toUInt16.toUInt32.toInt32) = x &&& (255 : Int32) := by rw [i2c_mask, own_narc (own_m255 _)]
def own_b0 (x : Int32) : Int32 := (x &&& (255 : Int32)).toInt8.toInt32
def own_b1 (x : Int32) : Int32 := ((XT.ushr x (8 : Int32)) &&& (255 : Int32)).toInt8.toInt32
theorem own_arv {Z : State} {h : Heap} {a : Addr} {k : ClassId} {ty : FieldType} {z z' : Int32} {vs ws : List Value} {d : Value} (F : Arv Z h a k ty z vs d) (e : z = z') (q : ∀ i : Nat, (i : Int) < z.toInt → vs.getD i d = ws.getD i d) : Arv Z h a k ty z' ws d := by
  subst e
  obtain ⟨c, A, k1, s1, n1, H, G⟩ := F
  have := nat_of n1
  refine ⟨c, A, k1, s1, n1, fun i hi => ?_, fun i hi => ?_⟩
  · rw [H i hi, q i (by omega)]
  · rw [← q i (by omega)]; exact G i hi
def own_both (a b : Int32) : Int32 := if a.toInt = 0 then 0 else if b.toInt = 0 then 0 else 1
theorem own_bo1 {a b : Int32} (h1 : ¬ a.toInt = 0) (h2 : ¬ b.toInt = 0) : own_both a b = 1 := by unfold own_both; rw [if_neg h1, if_neg h2]
theorem own_bol {a b : Int32} (h1 : a.toInt = 0) : own_both a b = 0 := by unfold own_both; rw [if_pos h1]
theorem own_bor {a b : Int32} (h2 : b.toInt = 0) : own_both a b = 0 := by unfold own_both; rw [if_pos h2]; split <;> rfl
theorem own_i1 : (1 : Int32).toInt = 1 := by decide
theorem own_i0 : (0 : Int32).toInt = 0 := by decide
theorem own_refl (za x0 x1 : Int) : own_eqI za x0 x1 za x0 x1 = 1 := own_eq1 ⟨rfl, fun _ => rfl, fun _ => rfl⟩
theorem own_bself (za x0 x1 zb y0 y1 : Int) : nar .boolean (own_both (own_eqI za x0 x1 za x0 x1) (own_eqI zb y0 y1 zb y0 y1)) = 1 := by
  rw [own_refl, own_refl]; decide
theorem own_sym (za x0 x1 zb y0 y1 : Int) : own_eqI za x0 x1 zb y0 y1 = own_eqI zb y0 y1 za x0 x1 := by
  rcases own_eqc zb y0 y1 za x0 x1 with ⟨q, r⟩ | ⟨q, r⟩
  · rw [q, own_eq1 (by omega)]
  · rw [q, own_eq0 (by omega)]
theorem own_bc (a c0 d0 b c1 d1 : Int32) (z1 z2 : Int) (h0 : 0 ≤ a.toInt ∧ a.toInt ≤ 255) (h1 : 0 ≤ b.toInt ∧ b.toInt ≤ 255) (h2 : 0 ≤ c0.toInt ∧ c0.toInt ≤ 255) (h3 : 0 ≤ c1.toInt ∧ c1.toInt ≤ 255) :
    own_eqI z1 a.toInt8.toInt32.toInt c0.toInt8.toInt32.toInt z2 b.toInt8.toInt32.toInt c1.toInt8.toInt32.toInt = own_eqI z1 a.toInt c0.toInt z2 b.toInt c1.toInt := by
  have := c_i2b a; have := c_i2b b; have := c_i2b c0; have := c_i2b c1
  rcases own_eqc z1 a.toInt c0.toInt z2 b.toInt c1.toInt with ⟨q, r⟩ | ⟨q, r⟩
  · rw [q, own_eq1 (by omega)]
  · rw [q, own_eq0 (by omega)]
def own_sameI (x y : Int32) : Int32 := own_eqI (own_len x).toInt (x &&& (255 : Int32)).toInt ((XT.ushr x (8 : Int32)) &&& (255 : Int32)).toInt (own_len y).toInt (y &&& (255 : Int32)).toInt ((XT.ushr y (8 : Int32)) &&& (255 : Int32)).toInt
def own_str (x y : Int32) : Int32 := own_eqI (own_len x).toInt (own_b0 x).toInt (own_b1 x).toInt (own_len y).toInt (own_b0 y).toInt (own_b1 y).toInt
theorem own_strs (x y : Int32) : own_str x y = own_sameI x y := own_bc _ _ 0 _ _ 0 _ _ (own_m255 _) (own_m255 _) (own_m255 _) (own_m255 _)
theorem own_strs' (x y : Int32) : own_str y x = own_sameI x y := by rw [← own_strs]; exact own_sym _ _ _ _ _ _
theorem own_cs {s : State} {args : Array Value} {t : Term} {n : Int32} (ex : t.eval args s none [] s = some (.int n)) (h : (Jvm.Cond.not (Jvm.Cond.eq t (Jvm.Term.int (0 : Int32)))).before args s = true) : ¬ n.toInt = 0 := fun q => by
  have e : n = 0 := Int32.toInt_inj.mp (by rw [q]; decide)
  subst e
  simp [Cond.before, Cond.holds, Cond.value, ex, Term.int_eval] at h

def own_Qmet16_1 (Z : State) (h0 : Heap) (n0 : Nat) (p1 : Addr) (p3 : Addr) (kA kB : ClassId) (c0 : Int32) (v : Option Value) (h : Heap) (L : List Loc) : Prop := v = some (.int (1 : Int32)) ∧ Fr n0 L ∧ Keep h0 h [p3] ∧ Arv Z h p3 kB .byte (1 : Int32) [.int c0.toInt8.toInt32] (.int (0 : Int32))
set_option maxRecDepth 65536 in
set_option maxHeartbeats 40000000 in
theorem own_met16_1 (l : Launch) (Z : State) (a0 : Array Value) (hw : ∀ d ∈ tables_1, d.before a0 Z = true) (h0 : Heap) (n0 : Nat) (Z0 : n0 ≤ h0.size) (p1 : Addr) (p3 : Addr) (kA kB : ClassId) (c0 : Int32) (ge_p3 : n0 ≤ p3) (Va : Arv Z h0 p1 kA .char (1 : Int32) [.int c0] (.int (0 : Int32))) (Vc : Arv Z h0 p3 kB .byte (1 : Int32) [.int (0 : Int32)] (.int (0 : Int32))) (ne0 : p1 ≠ p3) (r_c0 : 0 ≤ c0.toInt ∧ c0.toInt ≤ 255) :
    MetFree l (⟨"java/lang/StringUTF16", "compress", "([CI[BII)I"⟩ : MethodName) (head1 [Jvm.Cond.code (⟨"java/lang/StringUTF16", "compress", "([CI[BII)I"⟩ : MethodName) jdk_52_method_21_code 7 (some .int)] ({ frames := 0, cells := 0, slots := 0, locals := 0 } : Room)) (fun a U => a = #[(.ref p1), (.int (0 : Int32)), (.ref p3), (.int (0 : Int32)), (.int (1 : Int32))] ∧ Z.Warmed39 U.vm ∧ U.heap = h0) (fun _ _ _ _ _ => True) (fun _ U o U' => ∃ v L, o = .returned v ∧ (own_Qmet16_1 Z h0 n0 p1 p3 kA kB c0) v U'.heap L ∧ FrameEnd U o U' L ({ frames := 0, cells := 0, slots := 0, locals := 0 } : Room).cells ({ frames := 0, cells := 0, slots := 0, locals := 0 } : Room).slots) := by
  refine OwnK.met (Q := (own_Qmet16_1 Z h0 n0 p1 p3 kA kB c0)) (C := ({ frames := 0, cells := 0, slots := 0, locals := 0 } : Room).cells) (N := ({ frames := 0, cells := 0, slots := 0, locals := 0 } : Room).slots) own_pl_16 (own_ef_16_0_0_1 p1 p3) ?_
  intro p e s m below meth c T0 X0 hx hZ hby hml hown hnm hret hlk e0
  have N0 := Fr.nil n0
  have K0 := Keep.refl h0 [p3]
  refine OwnK.iconst X0 hx (hb hby own_d16_0) (pc' := 1) rfl (v := (0 : Int32)) (by decide) ?_
  refine OwnK.istore X0 hx (hb hby own_d16_1) (pc' := 3) rfl (Ls' := #[.val (.ref p1), .val (.int (0 : Int32)), .val (.ref p3), .val (.int (0 : Int32)), .val (.int (1 : Int32)), .val (.int (0 : Int32)), .unset]) rfl ?_
  refine OwnK.iload X0 hx (hb hby own_d16_3) (pc' := 5) rfl (v := (0 : Int32)) rfl ?_
  refine OwnK.iload X0 hx (hb hby own_d16_5) (pc' := 7) rfl (v := (1 : Int32)) rfl ?_
  refine OwnK.icmp_ge X0 hx (hb hby own_d16_7) (by decide) (pcT := 44) (by decide) (pc' := 10) rfl (fun (hc7 : 1 ≤ 0) => absurd hc7 (by decide)) (fun hc7 => ?_)
  refine OwnK.aloadN X0 hx (hb hby own_d16_10) (pc' := 11) rfl (v := (.ref p1)) rfl rfl ?_
  refine OwnK.iloadN X0 hx (hb hby own_d16_11) (pc' := 12) rfl (v := (0 : Int32)) rfl ?_
  refine OwnK.caload X0 hx hZ e0 Va (by decide) (by first | decide | omega) (v := (.int c0)) rfl (hb hby own_d16_12) (pc' := 13) rfl ?_
  refine OwnK.istore X0 hx (hb hby own_d16_13) (pc' := 15) rfl (Ls' := #[.val (.ref p1), .val (.int (0 : Int32)), .val (.ref p3), .val (.int (0 : Int32)), .val (.int (1 : Int32)), .val (.int (0 : Int32)), .val (.int c0)]) rfl ?_
  refine OwnK.iload X0 hx (hb hby own_d16_15) (pc' := 17) rfl (v := c0) rfl ?_
  refine OwnK.sipush X0 hx (hb hby own_d16_17) (pc' := 20) rfl (v := (255 : Int32)) (by decide) ?_
  refine OwnK.icmp_le X0 hx (hb hby own_d16_20) (by decide) (pcT := 26) (by decide) (pc' := 23) rfl (fun hc20 => ?_) (fun (hc20 : 255 < c0.toInt) => by omega)
  refine OwnK.aloadN X0 hx (hb hby own_d16_26) (pc' := 27) rfl (v := (.ref p3)) rfl rfl ?_
  refine OwnK.iloadN X0 hx (hb hby own_d16_27) (pc' := 28) rfl (v := (0 : Int32)) rfl ?_
  refine OwnK.iload X0 hx (hb hby own_d16_28) (pc' := 30) rfl (v := c0) rfl ?_
  refine OwnK.i2b X0 hx (hb hby own_d16_30) (pc' := 31) rfl ?_
  refine OwnK.bastore X0 hx hZ e0 Vc (i := 0) (by decide) (by first | decide | omega) (Nat.le_of_ble_eq_true rfl) (hb hby own_d16_31) (pc' := 32) rfl (fun T1 h1 X1 e1 W1 V1 => ?_)
  have f2 := Va.other W1 ne0
  have f3 : Arv Z h1 p3 _ .byte (1 : Int32) [(.int (c0.toInt8.toInt32))] (.int (0 : Int32)) := (by have q := V1; rw [own_narb] at q; exact q)
  have N4 := Fr.snoc X1 N0 ge_p3
  have K5 := K0.wr W1 (Or.inl (List.mem_of_getElem? (i := 0) rfl))
  have z6 : n0 ≤ h1.size := Nat.le_trans Z0 (Keep.of_wr W1).1
  refine OwnK.iincL X1 hx (hb hby own_d16_32) (pc' := 35) rfl (x := (0 : Int32)) rfl (v := (1 : Int32)) (by decide) (Ls' := #[.val (.ref p1), .val (.int (1 : Int32)), .val (.ref p3), .val (.int (0 : Int32)), .val (.int (1 : Int32)), .val (.int (0 : Int32)), .val (.int c0)]) rfl ?_
  refine OwnK.iincL X1 hx (hb hby own_d16_35) (pc' := 38) rfl (x := (0 : Int32)) rfl (v := (1 : Int32)) (by decide) (Ls' := #[.val (.ref p1), .val (.int (1 : Int32)), .val (.ref p3), .val (.int (1 : Int32)), .val (.int (1 : Int32)), .val (.int (0 : Int32)), .val (.int c0)]) rfl ?_
  refine OwnK.iincL X1 hx (hb hby own_d16_38) (pc' := 41) rfl (x := (0 : Int32)) rfl (v := (1 : Int32)) (by decide) (Ls' := #[.val (.ref p1), .val (.int (1 : Int32)), .val (.ref p3), .val (.int (1 : Int32)), .val (.int (1 : Int32)), .val (.int (1 : Int32)), .val (.int c0)]) rfl ?_
  refine OwnK.goto_ X1 hx (hb hby own_d16_41) (by decide) (pc' := 3) (by decide) ?_
  refine OwnK.iload X1 hx (hb hby own_d16_3) (pc' := 5) rfl (v := (1 : Int32)) rfl ?_
  refine OwnK.iload X1 hx (hb hby own_d16_5) (pc' := 7) rfl (v := (1 : Int32)) rfl ?_
  refine OwnK.icmp_ge X1 hx (hb hby own_d16_7) (by decide) (pcT := 44) (by decide) (pc' := 10) rfl (fun hc7 => ?_) (fun (hc7 : 1 < 1) => absurd hc7 (by decide))
  refine OwnK.iload X1 hx (hb hby own_d16_44) (pc' := 46) rfl (v := (1 : Int32)) rfl ?_
  refine OwnK.retI_ X1 hx hret hlk (hb hby own_d16_46) (by decide) (by decide) ?_
  rw [show T1.heap = h1 from e1]
  exact ⟨rfl, N4, K5, f3⟩
def own_Qmet15_1 (Z : State) (h0 : Heap) (n0 : Nat) (p1 : Addr) (kA : ClassId) (c0 : Int32) (v : Option Value) (h : Heap) (L : List Loc) : Prop := ∃ r kR, v = some (.ref r) ∧ Fr n0 L ∧ Keep h0 h [] ∧ h0.size ≤ r ∧ Arv Z h r kR .byte (1 : Int32) [.int c0.toInt8.toInt32] (.int (0 : Int32))
set_option maxRecDepth 65536 in
set_option maxHeartbeats 40000000 in
theorem own_met15_1 (l : Launch) (Z : State) (a0 : Array Value) (hw : ∀ d ∈ tables_1, d.before a0 Z = true) (h0 : Heap) (n0 : Nat) (Z0 : n0 ≤ h0.size) (p1 : Addr) (kA : ClassId) (c0 : Int32) (Va : Arv Z h0 p1 kA .char (1 : Int32) [.int c0] (.int (0 : Int32))) (r_c0 : 0 ≤ c0.toInt ∧ c0.toInt ≤ 255) :
    MetFree l (⟨"java/lang/StringUTF16", "compress", "([CII)[B"⟩ : MethodName) (head1 [Jvm.Cond.code (⟨"java/lang/StringUTF16", "compress", "([CII)[B"⟩ : MethodName) jdk_52_method_16_code 6 (some (.array .byte))] ({ frames := 1, cells := 1, slots := 1, locals := 18 } : Room)) (fun a U => a = #[(.ref p1), (.int (0 : Int32)), (.int (1 : Int32))] ∧ Z.Warmed39 U.vm ∧ U.heap = h0) (fun _ _ _ _ _ => True) (fun _ U o U' => ∃ v L, o = .returned v ∧ (own_Qmet15_1 Z h0 n0 p1 kA c0) v U'.heap L ∧ FrameEnd U o U' L ({ frames := 1, cells := 1, slots := 1, locals := 18 } : Room).cells ({ frames := 1, cells := 1, slots := 1, locals := 18 } : Room).slots) := by
  refine OwnK.met (Q := (own_Qmet15_1 Z h0 n0 p1 kA c0)) (C := ({ frames := 1, cells := 1, slots := 1, locals := 18 } : Room).cells) (N := ({ frames := 1, cells := 1, slots := 1, locals := 18 } : Room).slots) own_pl_15 (own_ef_15_0_1 p1) ?_
  intro p e s m below meth c T0 X0 hx hZ hby hml hown hnm hret hlk e0
  have N0 := Fr.nil n0
  have K0 := Keep.refl h0 []
  refine OwnK.iloadN X0 hx (hb hby own_d15_0) (pc' := 1) rfl (v := (1 : Int32)) rfl ?_
  refine OwnK.newP_ X0 hx hZ (hw _ (List.mem_of_getElem? (i := 29) rfl)) e0 (hb hby own_d15_1) (pc' := 3) rfl (n := (1 : Int32)) (by decide) (cap := 1) (by decide) (by decide) (by decide) (by decide) (ad := "[B") (by decide) (fun T1 h1 a1 k1 X1 e1 g1 E1 V1 Q1 => ?_)
  have q2 : p1 ≠ a1 := Nat.ne_of_lt (Nat.lt_of_lt_of_le Va.lt (Nat.le_of_eq g1.symm))
  have ge_a1 : n0 ≤ a1 := Nat.le_trans Z0 (Nat.le_of_eq g1.symm)
  have sz_a1 : h0.size ≤ a1 := Nat.le_trans K0.1 (Nat.le_of_eq g1.symm)
  have z3 : n0 ≤ h1.size := Nat.le_trans Z0 E1.1
  have K4 := K0.ext E1
  have f5 := Va.ext E1
  have f6 : Arv Z h1 a1 k1 .byte (1 : Int32) [(.int (0 : Int32))] (.int (0 : Int32)) := V1.pad (pad_rep [] (.int (0 : Int32)) 1)
  refine OwnK.astoreN X1 hx (hb hby own_d15_3) (pc' := 4) rfl rfl (Ls' := #[.val (.ref p1), .val (.int (0 : Int32)), .val (.int (1 : Int32)), .val (.ref a1), .unset, .unset]) rfl ?_
  refine OwnK.aloadN X1 hx (hb hby own_d15_4) (pc' := 5) rfl (v := (.ref p1)) rfl rfl ?_
  refine OwnK.iloadN X1 hx (hb hby own_d15_5) (pc' := 6) rfl (v := (0 : Int32)) rfl ?_
  refine OwnK.aloadN X1 hx (hb hby own_d15_6) (pc' := 7) rfl (v := (.ref a1)) rfl rfl ?_
  refine OwnK.iconst X1 hx (hb hby own_d15_7) (pc' := 8) rfl (v := (0 : Int32)) (by decide) ?_
  refine OwnK.iloadN X1 hx (hb hby own_d15_8) (pc' := 9) rfl (v := (1 : Int32)) rfl ?_
  refine OwnK.callS_ X1 hx hZ hown (y := (⟨"java/lang/StringUTF16", "compress", "([CI[BII)I"⟩ : MethodName)) (hw _ (List.mem_of_getElem? (i := 82) rfl)) (hw _ (List.mem_of_getElem? (i := 83) rfl)) (hw _ (List.mem_of_getElem? (i := 80) rfl)) (hw _ (List.mem_of_getElem? (i := 84) rfl)) (by decide) (own_met16_1 l Z a0 hw h1 n0 z3 p1 a1 _ _ c0  ge_a1 f5 f6 q2 r_c0 ) (by decide) (W := 0) (by decide) e1 (by rw [hml]; rfl) own_pd_14 (argsL := [(.ref p1), (.int (0 : Int32)), (.ref a1), (.int (0 : Int32)), (.int (1 : Int32))]) rfl (S := []) rfl (Nat.le_of_eq rfl) (hb hby own_d15_9) (pc' := 12) rfl (by decide) (by decide) (fun T7 v7 L7 X7 hQ7 => ?_)
  obtain ⟨rfl, N7q, K7, V7⟩ := hQ7
  have N8 := Fr.app N0 N7q
  have f9 := f5.keep K7 (ninS q2 nin0)
  have f10 := Q1.keep K7
  have z11 : n0 ≤ T7.heap.size := Nat.le_trans z3 K7.1
  have K12 := K4.trans K7 (allS (Or.inr sz_a1) all0)
  refine OwnK.istore X7 hx (hb hby own_d15_12) (pc' := 14) rfl (Ls' := #[.val (.ref p1), .val (.int (0 : Int32)), .val (.int (1 : Int32)), .val (.ref a1), .val (.int (1 : Int32)), .unset]) rfl ?_
  refine OwnK.iload X7 hx (hb hby own_d15_14) (pc' := 16) rfl (v := (1 : Int32)) rfl ?_
  refine OwnK.iloadN X7 hx (hb hby own_d15_16) (pc' := 17) rfl (v := (1 : Int32)) rfl ?_
  refine OwnK.icmp_eq X7 hx (hb hby own_d15_17) (by decide) (pcT := 57) (by decide) (pc' := 20) rfl (fun hc17 => ?_) (fun (hc17 : ¬ 1 = 1) => absurd hc17 (by decide))
  refine OwnK.aloadN X7 hx (hb hby own_d15_57) (pc' := 58) rfl (v := (.ref a1)) rfl rfl ?_
  refine OwnK.retA_ X7 hx hret rfl rfl hlk (hb hby own_d15_58) (by decide) (by decide) ?_
  exact ⟨a1, _, rfl, N8, K12, sz_a1, V7⟩
def own_Qmet17_1 (h0 : Heap) (p1 : Addr) (kA : ClassId) (vs : List Value) (v : Option Value) (h : Heap) (L : List Loc) : Prop := v = some (.int (0 : Int32)) ∧ h = h0 ∧ L = []
set_option maxRecDepth 65536 in
set_option maxHeartbeats 40000000 in
theorem own_met17_1 (l : Launch) (Z : State) (a0 : Array Value) (hw : ∀ d ∈ tables_1, d.before a0 Z = true) (h0 : Heap) (p1 : Addr) (kA : ClassId) (vs : List Value) (Va : Arv Z h0 p1 kA .byte (1 : Int32) vs (.int (0 : Int32))) :
    MetFree l (⟨"java/lang/StringUTF16", "coderFromArrayLen", "([BI)B"⟩ : MethodName) (head1 [Jvm.Cond.code (⟨"java/lang/StringUTF16", "coderFromArrayLen", "([BI)B"⟩ : MethodName) jdk_52_method_15_code 2 (some .byte)] ({ frames := 0, cells := 0, slots := 0, locals := 0 } : Room)) (fun a U => a = #[(.ref p1), (.int (1 : Int32))] ∧ Z.Warmed39 U.vm ∧ U.heap = h0) (fun _ _ _ _ _ => True) (fun _ U o U' => ∃ v L, o = .returned v ∧ (own_Qmet17_1 h0 p1 kA vs) v U'.heap L ∧ FrameEnd U o U' L ({ frames := 0, cells := 0, slots := 0, locals := 0 } : Room).cells ({ frames := 0, cells := 0, slots := 0, locals := 0 } : Room).slots) := by
  refine OwnK.met (Q := (own_Qmet17_1 h0 p1 kA vs)) (C := ({ frames := 0, cells := 0, slots := 0, locals := 0 } : Room).cells) (N := ({ frames := 0, cells := 0, slots := 0, locals := 0 } : Room).slots) own_pl_17 (own_ef_17_1 p1) ?_
  intro p e s m below meth c T0 X0 hx hZ hby hml hown hnm hret hlk e0
  refine OwnK.iloadN X0 hx (hb hby own_d17_0) (pc' := 1) rfl (v := (1 : Int32)) rfl ?_
  refine OwnK.aloadN X0 hx (hb hby own_d17_1) (pc' := 2) rfl (v := (.ref p1)) rfl rfl ?_
  refine OwnK.arrlen X0 hx hZ e0 Va (hb hby own_d17_2) (pc' := 3) rfl ?_
  refine OwnK.isubL X0 hx (hb hby own_d17_3) (pc' := 4) rfl (z := (0 : Int32)) (by decide) ?_
  refine OwnK.bipush X0 hx (hb hby own_d17_4) (pc' := 6) rfl (v := (31 : Int32)) (by decide) ?_
  refine OwnK.iushrL X0 hx (hb hby own_d17_6) (pc' := 7) rfl (z := (0 : Int32)) (by decide) ?_
  refine OwnK.i2b X0 hx (hb hby own_d17_7) (pc' := 8) rfl ?_
  refine OwnK.retN_ X0 hx hret (by simp) hlk (hb hby own_d17_8) (by decide) (by decide) ?_
  exact ⟨congrArg (fun z => some (Value.int z)) (show nar .byte _ = _ by decide), e0, rfl⟩
def own_Qmet5_1 (Z : State) (h0 : Heap) (n0 : Nat) (p1 : Addr) (p2 : Addr) (kA : ClassId) (c0 cs : Int32) (v : Option Value) (h : Heap) (L : List Loc) : Prop := ∃ t kt, v = none ∧ Fr n0 L ∧ Keep h0 h [p1] ∧ own_Sg Z h p1 t kt (1 : Int32) [.int c0.toInt8.toInt32]
set_option maxRecDepth 65536 in
set_option maxHeartbeats 40000000 in
theorem own_met5_1 (l : Launch) (Z : State) (a0 : Array Value) (hw : ∀ d ∈ tables_1, d.before a0 Z = true) (h0 : Heap) (n0 : Nat) (Z0 : n0 ≤ h0.size) (p1 : Addr) (p2 : Addr) (kA : ClassId) (c0 cs : Int32) (O0 : Old Z n0 h0) (ge_p1 : n0 ≤ p1) (E0 : Exa Z h0 p1 "java/lang/String") (F0 : Fld Z h0 p1 "java/lang/String" "value" "[B" .null) (F1 : Fld Z h0 p1 "java/lang/String" "coder" "B" (.int (0 : Int32))) (Vb : Arv Z h0 p2 kA .char (1 : Int32) [.int c0] (.int (0 : Int32))) (ne0 : p1 ≠ p2) (r_c0 : 0 ≤ c0.toInt ∧ c0.toInt ≤ 255) (hcs : ¬ cs.toInt = 0) (SS : Sta Z Z.heap "java/lang/String" "COMPACT_STRINGS" "Z" (.int cs)) :
    MetFree l (⟨"java/lang/String", "<init>", "([CIILjava/lang/Void;)V"⟩ : MethodName) (head1 [Jvm.Cond.code (⟨"java/lang/String", "<init>", "([CIILjava/lang/Void;)V"⟩ : MethodName) jdk_42_method_149_code 6 none] ({ frames := 2, cells := 1, slots := 1, locals := 35 } : Room)) (fun a U => a = #[(.ref p1), (.ref p2), (.int (0 : Int32)), (.int (1 : Int32)), .null] ∧ Z.Warmed39 U.vm ∧ U.heap = h0) (fun _ _ _ _ _ => True) (fun _ U o U' => ∃ v L, o = .returned v ∧ (own_Qmet5_1 Z h0 n0 p1 p2 kA c0 cs) v U'.heap L ∧ FrameEnd U o U' L ({ frames := 2, cells := 1, slots := 1, locals := 35 } : Room).cells ({ frames := 2, cells := 1, slots := 1, locals := 35 } : Room).slots) := by
  refine OwnK.met (Q := (own_Qmet5_1 Z h0 n0 p1 p2 kA c0 cs)) (C := ({ frames := 2, cells := 1, slots := 1, locals := 35 } : Room).cells) (N := ({ frames := 2, cells := 1, slots := 1, locals := 35 } : Room).slots) own_pl_5 (own_ef_5n_0_1 p1 p2) ?_
  intro p e s m below meth c T0 X0 hx hZ hby hml hown hnm hret hlk e0
  have N0 := Fr.nil n0
  have K0 := Keep.refl h0 [p1]
  refine OwnK.aloadN X0 hx (hb hby own_d5_0) (pc' := 1) rfl (v := (.ref p1)) rfl rfl ?_
  refine OwnK.initO_ X0 hx hZ hown (hw _ (List.mem_of_getElem? (i := 25) rfl)) (hw _ (List.mem_of_getElem? (i := 26) rfl)) (hw _ (List.mem_of_getElem? (i := 27) rfl)) e0 (by rw [hml]; rfl) (hb hby own_d5_1) (pc' := 4) rfl (by decide) (W := 0) (Nat.le_of_eq rfl) (by decide) (fun T1 X1 e1 => ?_)
  refine OwnK.iloadN X1 hx (hb hby own_d5_4) (pc' := 5) rfl (v := (1 : Int32)) rfl ?_
  refine OwnK.if_ne X1 hx (hb hby own_d5_5) (by decide) (pcT := 27) (by decide) (pc' := 8) rfl (fun hc5 => ?_) (fun (hc5 : 1 = 0) => absurd hc5 (by decide))
  refine OwnK.getS_ X1 hx hZ hown (host := "") (Or.inl (hw _ (List.mem_of_getElem? (i := 67) rfl))) Via.refl e1 (SS.ext O0.2) (hb hby own_d5_27) (pc' := 30) rfl (fun T2 X2 e2 => ?_)
  refine OwnK.if_eq X2 hx (hb hby own_d5_30) (by decide) (pcT := 58) (by decide) (pc' := 33) rfl (fun (hc30 : cs.toInt = 0) => absurd hc30 hcs) (fun hc30 => ?_)
  refine OwnK.aloadN X2 hx (hb hby own_d5_33) (pc' := 34) rfl (v := (.ref p2)) rfl rfl ?_
  refine OwnK.iloadN X2 hx (hb hby own_d5_34) (pc' := 35) rfl (v := (0 : Int32)) rfl ?_
  refine OwnK.iloadN X2 hx (hb hby own_d5_35) (pc' := 36) rfl (v := (1 : Int32)) rfl ?_
  refine OwnK.callS_ X2 hx hZ hown (y := (⟨"java/lang/StringUTF16", "compress", "([CII)[B"⟩ : MethodName)) (hw _ (List.mem_of_getElem? (i := 78) rfl)) (hw _ (List.mem_of_getElem? (i := 79) rfl)) (hw _ (List.mem_of_getElem? (i := 80) rfl)) (hw _ (List.mem_of_getElem? (i := 81) rfl)) (by decide) (own_met15_1 l Z a0 hw h0 n0 Z0 p2 _ c0   Vb r_c0 ) (by decide) (W := 0) (by decide) e2 (by rw [hml]; rfl) own_pd_12 (argsL := [(.ref p2), (.int (0 : Int32)), (.int (1 : Int32))]) rfl (S := []) rfl (Nat.le_of_eq rfl) (hb hby own_d5_36) (pc' := 39) rfl (by decide) (by decide) (fun T3 v3 L3 X3 hQ3 => ?_)
  obtain ⟨r3, kr3, rfl, N3q, K3, hr3, V3⟩ := hQ3
  have N4 := Fr.app N0 N3q
  have q5 : p1 ≠ r3 := Nat.ne_of_lt (Nat.lt_of_lt_of_le E0.lt hr3)
  have q6 : p2 ≠ r3 := Nat.ne_of_lt (Nat.lt_of_lt_of_le Vb.lt hr3)
  have ge_r3 : n0 ≤ r3 := Nat.le_trans Z0 hr3
  have sz_r3 : h0.size ≤ r3 := Nat.le_trans K0.1 hr3
  have f7 := E0.keep K3
  have f8 := F0.keep K3 nin0
  have f9 := F1.keep K3 nin0
  have f10 := Vb.keep K3 nin0
  have z11 : n0 ≤ T3.heap.size := Nat.le_trans Z0 K3.1
  have O12 := O0.keep K3 all0
  have K13 := K0.trans K3 all0
  refine OwnK.astore X3 hx (hb hby own_d5_39) (pc' := 41) rfl rfl (Ls' := #[.val (.ref p1), .val (.ref p2), .val (.int (0 : Int32)), .val (.int (1 : Int32)), .val .null, .val (.ref r3)]) rfl ?_
  refine OwnK.aloadN X3 hx (hb hby own_d5_41) (pc' := 42) rfl (v := (.ref p1)) rfl rfl ?_
  refine OwnK.aload X3 hx (hb hby own_d5_42) (pc' := 44) rfl (v := (.ref r3)) rfl rfl ?_
  refine OwnK.iloadN X3 hx (hb hby own_d5_44) (pc' := 45) rfl (v := (1 : Int32)) rfl ?_
  refine OwnK.callS_ X3 hx hZ hown (y := (⟨"java/lang/StringUTF16", "coderFromArrayLen", "([BI)B"⟩ : MethodName)) (hw _ (List.mem_of_getElem? (i := 85) rfl)) (hw _ (List.mem_of_getElem? (i := 86) rfl)) (hw _ (List.mem_of_getElem? (i := 80) rfl)) (hw _ (List.mem_of_getElem? (i := 87) rfl)) (by decide) (own_met17_1 l Z a0 hw T3.heap r3 _ _ V3 ) (by decide) (W := 1) (by decide) rfl (by rw [hml]; rfl) own_pd_9 (argsL := [(.ref r3), (.int (1 : Int32))]) rfl (S := [(.ref p1)]) rfl (Nat.le_of_eq rfl) (hb hby own_d5_45) (pc' := 48) rfl (by decide) (by decide) (fun T14 v14 L14 X14 hQ14 => ?_)
  obtain ⟨rfl, e14, rfl⟩ := hQ14
  have N15 := Fr.app N4 (Fr.nil n0)
  refine OwnK.putF_ X14 hx hZ hown (hw _ (List.mem_of_getElem? (i := 35) rfl)) Via.refl e14 f9 f7 (Or.inr ⟨(hw _ (List.mem_of_getElem? (i := 31) rfl)), rfl, hnm⟩) (hw _ (List.mem_of_getElem? (i := 15) rfl)) (ty := .byte) (by decide) (v' := (.int (0 : Int32))) (by first | rfl | decide) (by first | rfl | decide) (hb hby own_d5_48) (pc' := 51) rfl (fun T16 h16 X16 e16 W16 => ?_)
  have f17 := f9.same W16
  have f18 := f7.wr W16
  have f19 := f8.other W16 (Or.inr (slot_ne (Or.inr (hw _ (List.mem_of_getElem? (i := 30) rfl))) (Or.inr (hw _ (List.mem_of_getElem? (i := 31) rfl))) (by decide) (t := (.array .byte)) (t' := .byte) (by decide) (by decide)))
  have f20 := f10.other W16 (Ne.symm ne0)
  have f21 := V3.other W16 (Ne.symm q5)
  have N22 := Fr.snoc X16 N15 ge_p1
  have K23 := K13.wr W16 (Or.inl (List.mem_of_getElem? (i := 0) rfl))
  have O24 := O12.wr W16 ge_p1
  have z25 : n0 ≤ h16.size := Nat.le_trans z11 (Keep.of_wr W16).1
  refine OwnK.aloadN X16 hx (hb hby own_d5_51) (pc' := 52) rfl (v := (.ref p1)) rfl rfl ?_
  refine OwnK.aload X16 hx (hb hby own_d5_52) (pc' := 54) rfl (v := (.ref r3)) rfl rfl ?_
  refine OwnK.putF_ X16 hx hZ hown (hw _ (List.mem_of_getElem? (i := 34) rfl)) Via.refl e16 f19 f18 (Or.inr ⟨(hw _ (List.mem_of_getElem? (i := 30) rfl)), rfl, hnm⟩) (hw _ (List.mem_of_getElem? (i := 15) rfl)) (ty := (.array .byte)) (by decide) (v' := (.ref r3)) rfl rfl (hb hby own_d5_54) (pc' := 57) rfl (fun T26 h26 X26 e26 W26 => ?_)
  have f27 := f19.same W26
  have f28 := f18.wr W26
  have f29 := f17.other W26 (Or.inr (slot_ne (Or.inr (hw _ (List.mem_of_getElem? (i := 31) rfl))) (Or.inr (hw _ (List.mem_of_getElem? (i := 30) rfl))) (by decide) (t := .byte) (t' := (.array .byte)) (by decide) (by decide)))
  have f30 := f20.other W26 (Ne.symm ne0)
  have f31 := f21.other W26 (Ne.symm q5)
  have N32 := Fr.snoc X26 N22 ge_p1
  have K33 := K23.wr W26 (Or.inl (List.mem_of_getElem? (i := 0) rfl))
  have O34 := O24.wr W26 ge_p1
  have z35 : n0 ≤ h26.size := Nat.le_trans z25 (Keep.of_wr W26).1
  refine OwnK.retV_ X26 hx hret hlk (hb hby own_d5_57) (by decide) (by decide) ?_
  rw [show T26.heap = h26 from e26]
  exact ⟨r3, _, rfl, N32, K33, f28, f29, f27, f31⟩
def own_Qmet4_1 (Z : State) (h0 : Heap) (n0 : Nat) (p1 : Addr) (p2 : Addr) (kA : ClassId) (c0 cs : Int32) (v : Option Value) (h : Heap) (L : List Loc) : Prop := ∃ t kt, v = none ∧ Fr n0 L ∧ Keep h0 h [p1] ∧ own_Sg Z h p1 t kt (1 : Int32) [.int c0.toInt8.toInt32]
set_option maxRecDepth 65536 in
set_option maxHeartbeats 40000000 in
theorem own_met4_1 (l : Launch) (Z : State) (a0 : Array Value) (hw : ∀ d ∈ tables_1, d.before a0 Z = true) (h0 : Heap) (n0 : Nat) (Z0 : n0 ≤ h0.size) (p1 : Addr) (p2 : Addr) (kA : ClassId) (c0 cs : Int32) (O0 : Old Z n0 h0) (ge_p1 : n0 ≤ p1) (E0 : Exa Z h0 p1 "java/lang/String") (F0 : Fld Z h0 p1 "java/lang/String" "value" "[B" .null) (F1 : Fld Z h0 p1 "java/lang/String" "coder" "B" (.int (0 : Int32))) (Vb : Arv Z h0 p2 kA .char (1 : Int32) [.int c0] (.int (0 : Int32))) (ne0 : p1 ≠ p2) (r_c0 : 0 ≤ c0.toInt ∧ c0.toInt ≤ 255) (hcs : ¬ cs.toInt = 0) (SS : Sta Z Z.heap "java/lang/String" "COMPACT_STRINGS" "Z" (.int cs)) :
    MetFree l (⟨"java/lang/String", "<init>", "([C)V"⟩ : MethodName) (head1 [Jvm.Cond.code (⟨"java/lang/String", "<init>", "([C)V"⟩ : MethodName) jdk_42_method_3_code 2 none] ({ frames := 3, cells := 1, slots := 1, locals := 52 } : Room)) (fun a U => a = #[(.ref p1), (.ref p2)] ∧ Z.Warmed39 U.vm ∧ U.heap = h0) (fun _ _ _ _ _ => True) (fun _ U o U' => ∃ v L, o = .returned v ∧ (own_Qmet4_1 Z h0 n0 p1 p2 kA c0 cs) v U'.heap L ∧ FrameEnd U o U' L ({ frames := 3, cells := 1, slots := 1, locals := 52 } : Room).cells ({ frames := 3, cells := 1, slots := 1, locals := 52 } : Room).slots) := by
  refine OwnK.met (Q := (own_Qmet4_1 Z h0 n0 p1 p2 kA c0 cs)) (C := ({ frames := 3, cells := 1, slots := 1, locals := 52 } : Room).cells) (N := ({ frames := 3, cells := 1, slots := 1, locals := 52 } : Room).slots) own_pl_4 (own_ef_4 p1 p2) ?_
  intro p e s m below meth c T0 X0 hx hZ hby hml hown hnm hret hlk e0
  have N0 := Fr.nil n0
  have K0 := Keep.refl h0 [p1]
  refine OwnK.aloadN X0 hx (hb hby own_d4_0) (pc' := 1) rfl (v := (.ref p1)) rfl rfl ?_
  refine OwnK.aloadN X0 hx (hb hby own_d4_1) (pc' := 2) rfl (v := (.ref p2)) rfl rfl ?_
  refine OwnK.iconst X0 hx (hb hby own_d4_2) (pc' := 3) rfl (v := (0 : Int32)) (by decide) ?_
  refine OwnK.aloadN X0 hx (hb hby own_d4_3) (pc' := 4) rfl (v := (.ref p2)) rfl rfl ?_
  refine OwnK.arrlen X0 hx hZ e0 Vb (hb hby own_d4_4) (pc' := 5) rfl ?_
  refine OwnK.aconstNull X0 hx (hb hby own_d4_5) (pc' := 6) rfl ?_
  refine OwnK.callI_ X0 hx hZ hown (y := (⟨"java/lang/String", "<init>", "([CIILjava/lang/Void;)V"⟩ : MethodName)) (a := p1) rfl (hw _ (List.mem_of_getElem? (i := 21) rfl)) (hw _ (List.mem_of_getElem? (i := 22) rfl)) (hw _ (List.mem_of_getElem? (i := 16) rfl)) (hw _ (List.mem_of_getElem? (i := 24) rfl)) rfl (by decide) (own_met5_1 l Z a0 hw h0 n0 Z0 p1 p2 _ c0 cs O0 ge_p1 E0 F0 F1 Vb ne0 r_c0 hcs SS ) (by decide) (W := 0) (by decide) e0 (by rw [hml]; rfl) own_pd_13 (argsL := [(.ref p2), (.int (0 : Int32)), (.int (1 : Int32)), .null]) rfl (S := []) rfl (Nat.le_of_eq rfl) (hb hby own_d4_6) (pc' := 9) rfl (by decide) (by decide) (fun T1 v1 L1 X1 hQ1 => ?_)
  obtain ⟨t1, kt1, rfl, N1q, K1, Eq1, Cq1, Vq1, Bq1⟩ := hQ1
  have N2 := Fr.app N0 N1q
  have f3 := E0.keep K1
  have f4 := Vb.keep K1 (ninS (Ne.symm ne0) nin0)
  have z5 : n0 ≤ T1.heap.size := Nat.le_trans Z0 K1.1
  have O6 := O0.keep K1 (allS ge_p1 all0)
  have K7 := K0.trans K1 (allS (Or.inl (List.mem_of_getElem? (i := 0) rfl)) all0)
  refine OwnK.retV_ X1 hx hret hlk (hb hby own_d4_9) (by decide) (by decide) ?_
  exact ⟨t1, _, rfl, N2, K7, Eq1, Cq1, Vq1, Bq1⟩
def own_Qmet16_2 (Z : State) (h0 : Heap) (n0 : Nat) (p1 : Addr) (p3 : Addr) (kA kB : ClassId) (c0 c1 : Int32) (v : Option Value) (h : Heap) (L : List Loc) : Prop := v = some (.int (2 : Int32)) ∧ Fr n0 L ∧ Keep h0 h [p3] ∧ Arv Z h p3 kB .byte (2 : Int32) [.int c0.toInt8.toInt32, .int c1.toInt8.toInt32] (.int (0 : Int32))
set_option maxRecDepth 65536 in
set_option maxHeartbeats 40000000 in
theorem own_met16_2 (l : Launch) (Z : State) (a0 : Array Value) (hw : ∀ d ∈ tables_1, d.before a0 Z = true) (h0 : Heap) (n0 : Nat) (Z0 : n0 ≤ h0.size) (p1 : Addr) (p3 : Addr) (kA kB : ClassId) (c0 c1 : Int32) (ge_p3 : n0 ≤ p3) (Va : Arv Z h0 p1 kA .char (2 : Int32) [.int c0, .int c1] (.int (0 : Int32))) (Vc : Arv Z h0 p3 kB .byte (2 : Int32) [.int (0 : Int32), .int (0 : Int32)] (.int (0 : Int32))) (ne0 : p1 ≠ p3) (r_c0 : 0 ≤ c0.toInt ∧ c0.toInt ≤ 255) (r_c1 : 0 ≤ c1.toInt ∧ c1.toInt ≤ 255) :
    MetFree l (⟨"java/lang/StringUTF16", "compress", "([CI[BII)I"⟩ : MethodName) (head1 [Jvm.Cond.code (⟨"java/lang/StringUTF16", "compress", "([CI[BII)I"⟩ : MethodName) jdk_52_method_21_code 7 (some .int)] ({ frames := 0, cells := 0, slots := 0, locals := 0 } : Room)) (fun a U => a = #[(.ref p1), (.int (0 : Int32)), (.ref p3), (.int (0 : Int32)), (.int (2 : Int32))] ∧ Z.Warmed39 U.vm ∧ U.heap = h0) (fun _ _ _ _ _ => True) (fun _ U o U' => ∃ v L, o = .returned v ∧ (own_Qmet16_2 Z h0 n0 p1 p3 kA kB c0 c1) v U'.heap L ∧ FrameEnd U o U' L ({ frames := 0, cells := 0, slots := 0, locals := 0 } : Room).cells ({ frames := 0, cells := 0, slots := 0, locals := 0 } : Room).slots) := by
  refine OwnK.met (Q := (own_Qmet16_2 Z h0 n0 p1 p3 kA kB c0 c1)) (C := ({ frames := 0, cells := 0, slots := 0, locals := 0 } : Room).cells) (N := ({ frames := 0, cells := 0, slots := 0, locals := 0 } : Room).slots) own_pl_16 (own_ef_16_0_0_2 p1 p3) ?_
  intro p e s m below meth c T0 X0 hx hZ hby hml hown hnm hret hlk e0
  have N0 := Fr.nil n0
  have K0 := Keep.refl h0 [p3]
  refine OwnK.iconst X0 hx (hb hby own_d16_0) (pc' := 1) rfl (v := (0 : Int32)) (by decide) ?_
  refine OwnK.istore X0 hx (hb hby own_d16_1) (pc' := 3) rfl (Ls' := #[.val (.ref p1), .val (.int (0 : Int32)), .val (.ref p3), .val (.int (0 : Int32)), .val (.int (2 : Int32)), .val (.int (0 : Int32)), .unset]) rfl ?_
  refine OwnK.iload X0 hx (hb hby own_d16_3) (pc' := 5) rfl (v := (0 : Int32)) rfl ?_
  refine OwnK.iload X0 hx (hb hby own_d16_5) (pc' := 7) rfl (v := (2 : Int32)) rfl ?_
  refine OwnK.icmp_ge X0 hx (hb hby own_d16_7) (by decide) (pcT := 44) (by decide) (pc' := 10) rfl (fun (hc7 : 2 ≤ 0) => absurd hc7 (by decide)) (fun hc7 => ?_)
  refine OwnK.aloadN X0 hx (hb hby own_d16_10) (pc' := 11) rfl (v := (.ref p1)) rfl rfl ?_
  refine OwnK.iloadN X0 hx (hb hby own_d16_11) (pc' := 12) rfl (v := (0 : Int32)) rfl ?_
  refine OwnK.caload X0 hx hZ e0 Va (by decide) (by first | decide | omega) (v := (.int c0)) rfl (hb hby own_d16_12) (pc' := 13) rfl ?_
  refine OwnK.istore X0 hx (hb hby own_d16_13) (pc' := 15) rfl (Ls' := #[.val (.ref p1), .val (.int (0 : Int32)), .val (.ref p3), .val (.int (0 : Int32)), .val (.int (2 : Int32)), .val (.int (0 : Int32)), .val (.int c0)]) rfl ?_
  refine OwnK.iload X0 hx (hb hby own_d16_15) (pc' := 17) rfl (v := c0) rfl ?_
  refine OwnK.sipush X0 hx (hb hby own_d16_17) (pc' := 20) rfl (v := (255 : Int32)) (by decide) ?_
  refine OwnK.icmp_le X0 hx (hb hby own_d16_20) (by decide) (pcT := 26) (by decide) (pc' := 23) rfl (fun hc20 => ?_) (fun (hc20 : 255 < c0.toInt) => by omega)
  refine OwnK.aloadN X0 hx (hb hby own_d16_26) (pc' := 27) rfl (v := (.ref p3)) rfl rfl ?_
  refine OwnK.iloadN X0 hx (hb hby own_d16_27) (pc' := 28) rfl (v := (0 : Int32)) rfl ?_
  refine OwnK.iload X0 hx (hb hby own_d16_28) (pc' := 30) rfl (v := c0) rfl ?_
  refine OwnK.i2b X0 hx (hb hby own_d16_30) (pc' := 31) rfl ?_
  refine OwnK.bastore X0 hx hZ e0 Vc (i := 0) (by decide) (by first | decide | omega) (Nat.le_of_ble_eq_true rfl) (hb hby own_d16_31) (pc' := 32) rfl (fun T1 h1 X1 e1 W1 V1 => ?_)
  have f2 := Va.other W1 ne0
  have f3 : Arv Z h1 p3 _ .byte (2 : Int32) [(.int (c0.toInt8.toInt32)), (.int (0 : Int32))] (.int (0 : Int32)) := (by have q := V1; rw [own_narb] at q; exact q)
  have N4 := Fr.snoc X1 N0 ge_p3
  have K5 := K0.wr W1 (Or.inl (List.mem_of_getElem? (i := 0) rfl))
  have z6 : n0 ≤ h1.size := Nat.le_trans Z0 (Keep.of_wr W1).1
  refine OwnK.iincL X1 hx (hb hby own_d16_32) (pc' := 35) rfl (x := (0 : Int32)) rfl (v := (1 : Int32)) (by decide) (Ls' := #[.val (.ref p1), .val (.int (1 : Int32)), .val (.ref p3), .val (.int (0 : Int32)), .val (.int (2 : Int32)), .val (.int (0 : Int32)), .val (.int c0)]) rfl ?_
  refine OwnK.iincL X1 hx (hb hby own_d16_35) (pc' := 38) rfl (x := (0 : Int32)) rfl (v := (1 : Int32)) (by decide) (Ls' := #[.val (.ref p1), .val (.int (1 : Int32)), .val (.ref p3), .val (.int (1 : Int32)), .val (.int (2 : Int32)), .val (.int (0 : Int32)), .val (.int c0)]) rfl ?_
  refine OwnK.iincL X1 hx (hb hby own_d16_38) (pc' := 41) rfl (x := (0 : Int32)) rfl (v := (1 : Int32)) (by decide) (Ls' := #[.val (.ref p1), .val (.int (1 : Int32)), .val (.ref p3), .val (.int (1 : Int32)), .val (.int (2 : Int32)), .val (.int (1 : Int32)), .val (.int c0)]) rfl ?_
  refine OwnK.goto_ X1 hx (hb hby own_d16_41) (by decide) (pc' := 3) (by decide) ?_
  refine OwnK.iload X1 hx (hb hby own_d16_3) (pc' := 5) rfl (v := (1 : Int32)) rfl ?_
  refine OwnK.iload X1 hx (hb hby own_d16_5) (pc' := 7) rfl (v := (2 : Int32)) rfl ?_
  refine OwnK.icmp_ge X1 hx (hb hby own_d16_7) (by decide) (pcT := 44) (by decide) (pc' := 10) rfl (fun (hc7 : 2 ≤ 1) => absurd hc7 (by decide)) (fun hc7 => ?_)
  refine OwnK.aloadN X1 hx (hb hby own_d16_10) (pc' := 11) rfl (v := (.ref p1)) rfl rfl ?_
  refine OwnK.iloadN X1 hx (hb hby own_d16_11) (pc' := 12) rfl (v := (1 : Int32)) rfl ?_
  refine OwnK.caload X1 hx hZ e1 f2 (by decide) (by first | decide | omega) (v := (.int c1)) rfl (hb hby own_d16_12) (pc' := 13) rfl ?_
  refine OwnK.istore X1 hx (hb hby own_d16_13) (pc' := 15) rfl (Ls' := #[.val (.ref p1), .val (.int (1 : Int32)), .val (.ref p3), .val (.int (1 : Int32)), .val (.int (2 : Int32)), .val (.int (1 : Int32)), .val (.int c1)]) rfl ?_
  refine OwnK.iload X1 hx (hb hby own_d16_15) (pc' := 17) rfl (v := c1) rfl ?_
  refine OwnK.sipush X1 hx (hb hby own_d16_17) (pc' := 20) rfl (v := (255 : Int32)) (by decide) ?_
  refine OwnK.icmp_le X1 hx (hb hby own_d16_20) (by decide) (pcT := 26) (by decide) (pc' := 23) rfl (fun hc20 => ?_) (fun (hc20 : 255 < c1.toInt) => by omega)
  refine OwnK.aloadN X1 hx (hb hby own_d16_26) (pc' := 27) rfl (v := (.ref p3)) rfl rfl ?_
  refine OwnK.iloadN X1 hx (hb hby own_d16_27) (pc' := 28) rfl (v := (1 : Int32)) rfl ?_
  refine OwnK.iload X1 hx (hb hby own_d16_28) (pc' := 30) rfl (v := c1) rfl ?_
  refine OwnK.i2b X1 hx (hb hby own_d16_30) (pc' := 31) rfl ?_
  refine OwnK.bastore X1 hx hZ e1 f3 (i := 1) (by decide) (by first | decide | omega) (Nat.le_of_ble_eq_true rfl) (hb hby own_d16_31) (pc' := 32) rfl (fun T7 h7 X7 e7 W7 V7 => ?_)
  have f8 := f2.other W7 ne0
  have f9 : Arv Z h7 p3 _ .byte (2 : Int32) [(.int (c0.toInt8.toInt32)), (.int (c1.toInt8.toInt32))] (.int (0 : Int32)) := (by have q := V7; rw [own_narb] at q; exact q)
  have N10 := Fr.snoc X7 N4 ge_p3
  have K11 := K5.wr W7 (Or.inl (List.mem_of_getElem? (i := 0) rfl))
  have z12 : n0 ≤ h7.size := Nat.le_trans z6 (Keep.of_wr W7).1
  refine OwnK.iincL X7 hx (hb hby own_d16_32) (pc' := 35) rfl (x := (1 : Int32)) rfl (v := (2 : Int32)) (by decide) (Ls' := #[.val (.ref p1), .val (.int (2 : Int32)), .val (.ref p3), .val (.int (1 : Int32)), .val (.int (2 : Int32)), .val (.int (1 : Int32)), .val (.int c1)]) rfl ?_
  refine OwnK.iincL X7 hx (hb hby own_d16_35) (pc' := 38) rfl (x := (1 : Int32)) rfl (v := (2 : Int32)) (by decide) (Ls' := #[.val (.ref p1), .val (.int (2 : Int32)), .val (.ref p3), .val (.int (2 : Int32)), .val (.int (2 : Int32)), .val (.int (1 : Int32)), .val (.int c1)]) rfl ?_
  refine OwnK.iincL X7 hx (hb hby own_d16_38) (pc' := 41) rfl (x := (1 : Int32)) rfl (v := (2 : Int32)) (by decide) (Ls' := #[.val (.ref p1), .val (.int (2 : Int32)), .val (.ref p3), .val (.int (2 : Int32)), .val (.int (2 : Int32)), .val (.int (2 : Int32)), .val (.int c1)]) rfl ?_
  refine OwnK.goto_ X7 hx (hb hby own_d16_41) (by decide) (pc' := 3) (by decide) ?_
  refine OwnK.iload X7 hx (hb hby own_d16_3) (pc' := 5) rfl (v := (2 : Int32)) rfl ?_
  refine OwnK.iload X7 hx (hb hby own_d16_5) (pc' := 7) rfl (v := (2 : Int32)) rfl ?_
  refine OwnK.icmp_ge X7 hx (hb hby own_d16_7) (by decide) (pcT := 44) (by decide) (pc' := 10) rfl (fun hc7 => ?_) (fun (hc7 : 2 < 2) => absurd hc7 (by decide))
  refine OwnK.iload X7 hx (hb hby own_d16_44) (pc' := 46) rfl (v := (2 : Int32)) rfl ?_
  refine OwnK.retI_ X7 hx hret hlk (hb hby own_d16_46) (by decide) (by decide) ?_
  rw [show T7.heap = h7 from e7]
  exact ⟨rfl, N10, K11, f9⟩
def own_Qmet15_2 (Z : State) (h0 : Heap) (n0 : Nat) (p1 : Addr) (kA : ClassId) (c0 c1 : Int32) (v : Option Value) (h : Heap) (L : List Loc) : Prop := ∃ r kR, v = some (.ref r) ∧ Fr n0 L ∧ Keep h0 h [] ∧ h0.size ≤ r ∧ Arv Z h r kR .byte (2 : Int32) [.int c0.toInt8.toInt32, .int c1.toInt8.toInt32] (.int (0 : Int32))
set_option maxRecDepth 65536 in
set_option maxHeartbeats 40000000 in
theorem own_met15_2 (l : Launch) (Z : State) (a0 : Array Value) (hw : ∀ d ∈ tables_1, d.before a0 Z = true) (h0 : Heap) (n0 : Nat) (Z0 : n0 ≤ h0.size) (p1 : Addr) (kA : ClassId) (c0 c1 : Int32) (Va : Arv Z h0 p1 kA .char (2 : Int32) [.int c0, .int c1] (.int (0 : Int32))) (r_c0 : 0 ≤ c0.toInt ∧ c0.toInt ≤ 255) (r_c1 : 0 ≤ c1.toInt ∧ c1.toInt ≤ 255) :
    MetFree l (⟨"java/lang/StringUTF16", "compress", "([CII)[B"⟩ : MethodName) (head1 [Jvm.Cond.code (⟨"java/lang/StringUTF16", "compress", "([CII)[B"⟩ : MethodName) jdk_52_method_16_code 6 (some (.array .byte))] ({ frames := 1, cells := 1, slots := 2, locals := 18 } : Room)) (fun a U => a = #[(.ref p1), (.int (0 : Int32)), (.int (2 : Int32))] ∧ Z.Warmed39 U.vm ∧ U.heap = h0) (fun _ _ _ _ _ => True) (fun _ U o U' => ∃ v L, o = .returned v ∧ (own_Qmet15_2 Z h0 n0 p1 kA c0 c1) v U'.heap L ∧ FrameEnd U o U' L ({ frames := 1, cells := 1, slots := 2, locals := 18 } : Room).cells ({ frames := 1, cells := 1, slots := 2, locals := 18 } : Room).slots) := by
  refine OwnK.met (Q := (own_Qmet15_2 Z h0 n0 p1 kA c0 c1)) (C := ({ frames := 1, cells := 1, slots := 2, locals := 18 } : Room).cells) (N := ({ frames := 1, cells := 1, slots := 2, locals := 18 } : Room).slots) own_pl_15 (own_ef_15_0_2 p1) ?_
  intro p e s m below meth c T0 X0 hx hZ hby hml hown hnm hret hlk e0
  have N0 := Fr.nil n0
  have K0 := Keep.refl h0 []
  refine OwnK.iloadN X0 hx (hb hby own_d15_0) (pc' := 1) rfl (v := (2 : Int32)) rfl ?_
  refine OwnK.newP_ X0 hx hZ (hw _ (List.mem_of_getElem? (i := 29) rfl)) e0 (hb hby own_d15_1) (pc' := 3) rfl (n := (2 : Int32)) (by decide) (cap := 2) (by decide) (by decide) (by decide) (by decide) (ad := "[B") (by decide) (fun T1 h1 a1 k1 X1 e1 g1 E1 V1 Q1 => ?_)
  have q2 : p1 ≠ a1 := Nat.ne_of_lt (Nat.lt_of_lt_of_le Va.lt (Nat.le_of_eq g1.symm))
  have ge_a1 : n0 ≤ a1 := Nat.le_trans Z0 (Nat.le_of_eq g1.symm)
  have sz_a1 : h0.size ≤ a1 := Nat.le_trans K0.1 (Nat.le_of_eq g1.symm)
  have z3 : n0 ≤ h1.size := Nat.le_trans Z0 E1.1
  have K4 := K0.ext E1
  have f5 := Va.ext E1
  have f6 : Arv Z h1 a1 k1 .byte (2 : Int32) [(.int (0 : Int32)), (.int (0 : Int32))] (.int (0 : Int32)) := V1.pad (pad_rep [] (.int (0 : Int32)) 2)
  refine OwnK.astoreN X1 hx (hb hby own_d15_3) (pc' := 4) rfl rfl (Ls' := #[.val (.ref p1), .val (.int (0 : Int32)), .val (.int (2 : Int32)), .val (.ref a1), .unset, .unset]) rfl ?_
  refine OwnK.aloadN X1 hx (hb hby own_d15_4) (pc' := 5) rfl (v := (.ref p1)) rfl rfl ?_
  refine OwnK.iloadN X1 hx (hb hby own_d15_5) (pc' := 6) rfl (v := (0 : Int32)) rfl ?_
  refine OwnK.aloadN X1 hx (hb hby own_d15_6) (pc' := 7) rfl (v := (.ref a1)) rfl rfl ?_
  refine OwnK.iconst X1 hx (hb hby own_d15_7) (pc' := 8) rfl (v := (0 : Int32)) (by decide) ?_
  refine OwnK.iloadN X1 hx (hb hby own_d15_8) (pc' := 9) rfl (v := (2 : Int32)) rfl ?_
  refine OwnK.callS_ X1 hx hZ hown (y := (⟨"java/lang/StringUTF16", "compress", "([CI[BII)I"⟩ : MethodName)) (hw _ (List.mem_of_getElem? (i := 82) rfl)) (hw _ (List.mem_of_getElem? (i := 83) rfl)) (hw _ (List.mem_of_getElem? (i := 80) rfl)) (hw _ (List.mem_of_getElem? (i := 84) rfl)) (by decide) (own_met16_2 l Z a0 hw h1 n0 z3 p1 a1 _ _ c0 c1  ge_a1 f5 f6 q2 r_c0 r_c1 ) (by decide) (W := 0) (by decide) e1 (by rw [hml]; rfl) own_pd_14 (argsL := [(.ref p1), (.int (0 : Int32)), (.ref a1), (.int (0 : Int32)), (.int (2 : Int32))]) rfl (S := []) rfl (Nat.le_of_eq rfl) (hb hby own_d15_9) (pc' := 12) rfl (by decide) (by decide) (fun T7 v7 L7 X7 hQ7 => ?_)
  obtain ⟨rfl, N7q, K7, V7⟩ := hQ7
  have N8 := Fr.app N0 N7q
  have f9 := f5.keep K7 (ninS q2 nin0)
  have f10 := Q1.keep K7
  have z11 : n0 ≤ T7.heap.size := Nat.le_trans z3 K7.1
  have K12 := K4.trans K7 (allS (Or.inr sz_a1) all0)
  refine OwnK.istore X7 hx (hb hby own_d15_12) (pc' := 14) rfl (Ls' := #[.val (.ref p1), .val (.int (0 : Int32)), .val (.int (2 : Int32)), .val (.ref a1), .val (.int (2 : Int32)), .unset]) rfl ?_
  refine OwnK.iload X7 hx (hb hby own_d15_14) (pc' := 16) rfl (v := (2 : Int32)) rfl ?_
  refine OwnK.iloadN X7 hx (hb hby own_d15_16) (pc' := 17) rfl (v := (2 : Int32)) rfl ?_
  refine OwnK.icmp_eq X7 hx (hb hby own_d15_17) (by decide) (pcT := 57) (by decide) (pc' := 20) rfl (fun hc17 => ?_) (fun (hc17 : ¬ 2 = 2) => absurd hc17 (by decide))
  refine OwnK.aloadN X7 hx (hb hby own_d15_57) (pc' := 58) rfl (v := (.ref a1)) rfl rfl ?_
  refine OwnK.retA_ X7 hx hret rfl rfl hlk (hb hby own_d15_58) (by decide) (by decide) ?_
  exact ⟨a1, _, rfl, N8, K12, sz_a1, V7⟩
def own_Qmet17_2 (h0 : Heap) (p1 : Addr) (kA : ClassId) (vs : List Value) (v : Option Value) (h : Heap) (L : List Loc) : Prop := v = some (.int (0 : Int32)) ∧ h = h0 ∧ L = []
set_option maxRecDepth 65536 in
set_option maxHeartbeats 40000000 in
theorem own_met17_2 (l : Launch) (Z : State) (a0 : Array Value) (hw : ∀ d ∈ tables_1, d.before a0 Z = true) (h0 : Heap) (p1 : Addr) (kA : ClassId) (vs : List Value) (Va : Arv Z h0 p1 kA .byte (2 : Int32) vs (.int (0 : Int32))) :
    MetFree l (⟨"java/lang/StringUTF16", "coderFromArrayLen", "([BI)B"⟩ : MethodName) (head1 [Jvm.Cond.code (⟨"java/lang/StringUTF16", "coderFromArrayLen", "([BI)B"⟩ : MethodName) jdk_52_method_15_code 2 (some .byte)] ({ frames := 0, cells := 0, slots := 0, locals := 0 } : Room)) (fun a U => a = #[(.ref p1), (.int (2 : Int32))] ∧ Z.Warmed39 U.vm ∧ U.heap = h0) (fun _ _ _ _ _ => True) (fun _ U o U' => ∃ v L, o = .returned v ∧ (own_Qmet17_2 h0 p1 kA vs) v U'.heap L ∧ FrameEnd U o U' L ({ frames := 0, cells := 0, slots := 0, locals := 0 } : Room).cells ({ frames := 0, cells := 0, slots := 0, locals := 0 } : Room).slots) := by
  refine OwnK.met (Q := (own_Qmet17_2 h0 p1 kA vs)) (C := ({ frames := 0, cells := 0, slots := 0, locals := 0 } : Room).cells) (N := ({ frames := 0, cells := 0, slots := 0, locals := 0 } : Room).slots) own_pl_17 (own_ef_17_2 p1) ?_
  intro p e s m below meth c T0 X0 hx hZ hby hml hown hnm hret hlk e0
  refine OwnK.iloadN X0 hx (hb hby own_d17_0) (pc' := 1) rfl (v := (2 : Int32)) rfl ?_
  refine OwnK.aloadN X0 hx (hb hby own_d17_1) (pc' := 2) rfl (v := (.ref p1)) rfl rfl ?_
  refine OwnK.arrlen X0 hx hZ e0 Va (hb hby own_d17_2) (pc' := 3) rfl ?_
  refine OwnK.isubL X0 hx (hb hby own_d17_3) (pc' := 4) rfl (z := (0 : Int32)) (by decide) ?_
  refine OwnK.bipush X0 hx (hb hby own_d17_4) (pc' := 6) rfl (v := (31 : Int32)) (by decide) ?_
  refine OwnK.iushrL X0 hx (hb hby own_d17_6) (pc' := 7) rfl (z := (0 : Int32)) (by decide) ?_
  refine OwnK.i2b X0 hx (hb hby own_d17_7) (pc' := 8) rfl ?_
  refine OwnK.retN_ X0 hx hret (by simp) hlk (hb hby own_d17_8) (by decide) (by decide) ?_
  exact ⟨congrArg (fun z => some (Value.int z)) (show nar .byte _ = _ by decide), e0, rfl⟩
def own_Qmet5_2 (Z : State) (h0 : Heap) (n0 : Nat) (p1 : Addr) (p2 : Addr) (kA : ClassId) (c0 c1 cs : Int32) (v : Option Value) (h : Heap) (L : List Loc) : Prop := ∃ t kt, v = none ∧ Fr n0 L ∧ Keep h0 h [p1] ∧ own_Sg Z h p1 t kt (2 : Int32) [.int c0.toInt8.toInt32, .int c1.toInt8.toInt32]
set_option maxRecDepth 65536 in
set_option maxHeartbeats 40000000 in
theorem own_met5_2 (l : Launch) (Z : State) (a0 : Array Value) (hw : ∀ d ∈ tables_1, d.before a0 Z = true) (h0 : Heap) (n0 : Nat) (Z0 : n0 ≤ h0.size) (p1 : Addr) (p2 : Addr) (kA : ClassId) (c0 c1 cs : Int32) (O0 : Old Z n0 h0) (ge_p1 : n0 ≤ p1) (E0 : Exa Z h0 p1 "java/lang/String") (F0 : Fld Z h0 p1 "java/lang/String" "value" "[B" .null) (F1 : Fld Z h0 p1 "java/lang/String" "coder" "B" (.int (0 : Int32))) (Vb : Arv Z h0 p2 kA .char (2 : Int32) [.int c0, .int c1] (.int (0 : Int32))) (ne0 : p1 ≠ p2) (r_c0 : 0 ≤ c0.toInt ∧ c0.toInt ≤ 255) (r_c1 : 0 ≤ c1.toInt ∧ c1.toInt ≤ 255) (hcs : ¬ cs.toInt = 0) (SS : Sta Z Z.heap "java/lang/String" "COMPACT_STRINGS" "Z" (.int cs)) :
    MetFree l (⟨"java/lang/String", "<init>", "([CIILjava/lang/Void;)V"⟩ : MethodName) (head1 [Jvm.Cond.code (⟨"java/lang/String", "<init>", "([CIILjava/lang/Void;)V"⟩ : MethodName) jdk_42_method_149_code 6 none] ({ frames := 2, cells := 1, slots := 2, locals := 35 } : Room)) (fun a U => a = #[(.ref p1), (.ref p2), (.int (0 : Int32)), (.int (2 : Int32)), .null] ∧ Z.Warmed39 U.vm ∧ U.heap = h0) (fun _ _ _ _ _ => True) (fun _ U o U' => ∃ v L, o = .returned v ∧ (own_Qmet5_2 Z h0 n0 p1 p2 kA c0 c1 cs) v U'.heap L ∧ FrameEnd U o U' L ({ frames := 2, cells := 1, slots := 2, locals := 35 } : Room).cells ({ frames := 2, cells := 1, slots := 2, locals := 35 } : Room).slots) := by
  refine OwnK.met (Q := (own_Qmet5_2 Z h0 n0 p1 p2 kA c0 c1 cs)) (C := ({ frames := 2, cells := 1, slots := 2, locals := 35 } : Room).cells) (N := ({ frames := 2, cells := 1, slots := 2, locals := 35 } : Room).slots) own_pl_5 (own_ef_5n_0_2 p1 p2) ?_
  intro p e s m below meth c T0 X0 hx hZ hby hml hown hnm hret hlk e0
  have N0 := Fr.nil n0
  have K0 := Keep.refl h0 [p1]
  refine OwnK.aloadN X0 hx (hb hby own_d5_0) (pc' := 1) rfl (v := (.ref p1)) rfl rfl ?_
  refine OwnK.initO_ X0 hx hZ hown (hw _ (List.mem_of_getElem? (i := 25) rfl)) (hw _ (List.mem_of_getElem? (i := 26) rfl)) (hw _ (List.mem_of_getElem? (i := 27) rfl)) e0 (by rw [hml]; rfl) (hb hby own_d5_1) (pc' := 4) rfl (by decide) (W := 0) (Nat.le_of_eq rfl) (by decide) (fun T1 X1 e1 => ?_)
  refine OwnK.iloadN X1 hx (hb hby own_d5_4) (pc' := 5) rfl (v := (2 : Int32)) rfl ?_
  refine OwnK.if_ne X1 hx (hb hby own_d5_5) (by decide) (pcT := 27) (by decide) (pc' := 8) rfl (fun hc5 => ?_) (fun (hc5 : 2 = 0) => absurd hc5 (by decide))
  refine OwnK.getS_ X1 hx hZ hown (host := "") (Or.inl (hw _ (List.mem_of_getElem? (i := 67) rfl))) Via.refl e1 (SS.ext O0.2) (hb hby own_d5_27) (pc' := 30) rfl (fun T2 X2 e2 => ?_)
  refine OwnK.if_eq X2 hx (hb hby own_d5_30) (by decide) (pcT := 58) (by decide) (pc' := 33) rfl (fun (hc30 : cs.toInt = 0) => absurd hc30 hcs) (fun hc30 => ?_)
  refine OwnK.aloadN X2 hx (hb hby own_d5_33) (pc' := 34) rfl (v := (.ref p2)) rfl rfl ?_
  refine OwnK.iloadN X2 hx (hb hby own_d5_34) (pc' := 35) rfl (v := (0 : Int32)) rfl ?_
  refine OwnK.iloadN X2 hx (hb hby own_d5_35) (pc' := 36) rfl (v := (2 : Int32)) rfl ?_
  refine OwnK.callS_ X2 hx hZ hown (y := (⟨"java/lang/StringUTF16", "compress", "([CII)[B"⟩ : MethodName)) (hw _ (List.mem_of_getElem? (i := 78) rfl)) (hw _ (List.mem_of_getElem? (i := 79) rfl)) (hw _ (List.mem_of_getElem? (i := 80) rfl)) (hw _ (List.mem_of_getElem? (i := 81) rfl)) (by decide) (own_met15_2 l Z a0 hw h0 n0 Z0 p2 _ c0 c1   Vb r_c0 r_c1 ) (by decide) (W := 0) (by decide) e2 (by rw [hml]; rfl) own_pd_12 (argsL := [(.ref p2), (.int (0 : Int32)), (.int (2 : Int32))]) rfl (S := []) rfl (Nat.le_of_eq rfl) (hb hby own_d5_36) (pc' := 39) rfl (by decide) (by decide) (fun T3 v3 L3 X3 hQ3 => ?_)
  obtain ⟨r3, kr3, rfl, N3q, K3, hr3, V3⟩ := hQ3
  have N4 := Fr.app N0 N3q
  have q5 : p1 ≠ r3 := Nat.ne_of_lt (Nat.lt_of_lt_of_le E0.lt hr3)
  have q6 : p2 ≠ r3 := Nat.ne_of_lt (Nat.lt_of_lt_of_le Vb.lt hr3)
  have ge_r3 : n0 ≤ r3 := Nat.le_trans Z0 hr3
  have sz_r3 : h0.size ≤ r3 := Nat.le_trans K0.1 hr3
  have f7 := E0.keep K3
  have f8 := F0.keep K3 nin0
  have f9 := F1.keep K3 nin0
  have f10 := Vb.keep K3 nin0
  have z11 : n0 ≤ T3.heap.size := Nat.le_trans Z0 K3.1
  have O12 := O0.keep K3 all0
  have K13 := K0.trans K3 all0
  refine OwnK.astore X3 hx (hb hby own_d5_39) (pc' := 41) rfl rfl (Ls' := #[.val (.ref p1), .val (.ref p2), .val (.int (0 : Int32)), .val (.int (2 : Int32)), .val .null, .val (.ref r3)]) rfl ?_
  refine OwnK.aloadN X3 hx (hb hby own_d5_41) (pc' := 42) rfl (v := (.ref p1)) rfl rfl ?_
  refine OwnK.aload X3 hx (hb hby own_d5_42) (pc' := 44) rfl (v := (.ref r3)) rfl rfl ?_
  refine OwnK.iloadN X3 hx (hb hby own_d5_44) (pc' := 45) rfl (v := (2 : Int32)) rfl ?_
  refine OwnK.callS_ X3 hx hZ hown (y := (⟨"java/lang/StringUTF16", "coderFromArrayLen", "([BI)B"⟩ : MethodName)) (hw _ (List.mem_of_getElem? (i := 85) rfl)) (hw _ (List.mem_of_getElem? (i := 86) rfl)) (hw _ (List.mem_of_getElem? (i := 80) rfl)) (hw _ (List.mem_of_getElem? (i := 87) rfl)) (by decide) (own_met17_2 l Z a0 hw T3.heap r3 _ _ V3 ) (by decide) (W := 1) (by decide) rfl (by rw [hml]; rfl) own_pd_9 (argsL := [(.ref r3), (.int (2 : Int32))]) rfl (S := [(.ref p1)]) rfl (Nat.le_of_eq rfl) (hb hby own_d5_45) (pc' := 48) rfl (by decide) (by decide) (fun T14 v14 L14 X14 hQ14 => ?_)
  obtain ⟨rfl, e14, rfl⟩ := hQ14
  have N15 := Fr.app N4 (Fr.nil n0)
  refine OwnK.putF_ X14 hx hZ hown (hw _ (List.mem_of_getElem? (i := 35) rfl)) Via.refl e14 f9 f7 (Or.inr ⟨(hw _ (List.mem_of_getElem? (i := 31) rfl)), rfl, hnm⟩) (hw _ (List.mem_of_getElem? (i := 15) rfl)) (ty := .byte) (by decide) (v' := (.int (0 : Int32))) (by first | rfl | decide) (by first | rfl | decide) (hb hby own_d5_48) (pc' := 51) rfl (fun T16 h16 X16 e16 W16 => ?_)
  have f17 := f9.same W16
  have f18 := f7.wr W16
  have f19 := f8.other W16 (Or.inr (slot_ne (Or.inr (hw _ (List.mem_of_getElem? (i := 30) rfl))) (Or.inr (hw _ (List.mem_of_getElem? (i := 31) rfl))) (by decide) (t := (.array .byte)) (t' := .byte) (by decide) (by decide)))
  have f20 := f10.other W16 (Ne.symm ne0)
  have f21 := V3.other W16 (Ne.symm q5)
  have N22 := Fr.snoc X16 N15 ge_p1
  have K23 := K13.wr W16 (Or.inl (List.mem_of_getElem? (i := 0) rfl))
  have O24 := O12.wr W16 ge_p1
  have z25 : n0 ≤ h16.size := Nat.le_trans z11 (Keep.of_wr W16).1
  refine OwnK.aloadN X16 hx (hb hby own_d5_51) (pc' := 52) rfl (v := (.ref p1)) rfl rfl ?_
  refine OwnK.aload X16 hx (hb hby own_d5_52) (pc' := 54) rfl (v := (.ref r3)) rfl rfl ?_
  refine OwnK.putF_ X16 hx hZ hown (hw _ (List.mem_of_getElem? (i := 34) rfl)) Via.refl e16 f19 f18 (Or.inr ⟨(hw _ (List.mem_of_getElem? (i := 30) rfl)), rfl, hnm⟩) (hw _ (List.mem_of_getElem? (i := 15) rfl)) (ty := (.array .byte)) (by decide) (v' := (.ref r3)) rfl rfl (hb hby own_d5_54) (pc' := 57) rfl (fun T26 h26 X26 e26 W26 => ?_)
  have f27 := f19.same W26
  have f28 := f18.wr W26
  have f29 := f17.other W26 (Or.inr (slot_ne (Or.inr (hw _ (List.mem_of_getElem? (i := 31) rfl))) (Or.inr (hw _ (List.mem_of_getElem? (i := 30) rfl))) (by decide) (t := .byte) (t' := (.array .byte)) (by decide) (by decide)))
  have f30 := f20.other W26 (Ne.symm ne0)
  have f31 := f21.other W26 (Ne.symm q5)
  have N32 := Fr.snoc X26 N22 ge_p1
  have K33 := K23.wr W26 (Or.inl (List.mem_of_getElem? (i := 0) rfl))
  have O34 := O24.wr W26 ge_p1
  have z35 : n0 ≤ h26.size := Nat.le_trans z25 (Keep.of_wr W26).1
  refine OwnK.retV_ X26 hx hret hlk (hb hby own_d5_57) (by decide) (by decide) ?_
  rw [show T26.heap = h26 from e26]
  exact ⟨r3, _, rfl, N32, K33, f28, f29, f27, f31⟩
def own_Qmet4_2 (Z : State) (h0 : Heap) (n0 : Nat) (p1 : Addr) (p2 : Addr) (kA : ClassId) (c0 c1 cs : Int32) (v : Option Value) (h : Heap) (L : List Loc) : Prop := ∃ t kt, v = none ∧ Fr n0 L ∧ Keep h0 h [p1] ∧ own_Sg Z h p1 t kt (2 : Int32) [.int c0.toInt8.toInt32, .int c1.toInt8.toInt32]
set_option maxRecDepth 65536 in
set_option maxHeartbeats 40000000 in
theorem own_met4_2 (l : Launch) (Z : State) (a0 : Array Value) (hw : ∀ d ∈ tables_1, d.before a0 Z = true) (h0 : Heap) (n0 : Nat) (Z0 : n0 ≤ h0.size) (p1 : Addr) (p2 : Addr) (kA : ClassId) (c0 c1 cs : Int32) (O0 : Old Z n0 h0) (ge_p1 : n0 ≤ p1) (E0 : Exa Z h0 p1 "java/lang/String") (F0 : Fld Z h0 p1 "java/lang/String" "value" "[B" .null) (F1 : Fld Z h0 p1 "java/lang/String" "coder" "B" (.int (0 : Int32))) (Vb : Arv Z h0 p2 kA .char (2 : Int32) [.int c0, .int c1] (.int (0 : Int32))) (ne0 : p1 ≠ p2) (r_c0 : 0 ≤ c0.toInt ∧ c0.toInt ≤ 255) (r_c1 : 0 ≤ c1.toInt ∧ c1.toInt ≤ 255) (hcs : ¬ cs.toInt = 0) (SS : Sta Z Z.heap "java/lang/String" "COMPACT_STRINGS" "Z" (.int cs)) :
    MetFree l (⟨"java/lang/String", "<init>", "([C)V"⟩ : MethodName) (head1 [Jvm.Cond.code (⟨"java/lang/String", "<init>", "([C)V"⟩ : MethodName) jdk_42_method_3_code 2 none] ({ frames := 3, cells := 1, slots := 2, locals := 52 } : Room)) (fun a U => a = #[(.ref p1), (.ref p2)] ∧ Z.Warmed39 U.vm ∧ U.heap = h0) (fun _ _ _ _ _ => True) (fun _ U o U' => ∃ v L, o = .returned v ∧ (own_Qmet4_2 Z h0 n0 p1 p2 kA c0 c1 cs) v U'.heap L ∧ FrameEnd U o U' L ({ frames := 3, cells := 1, slots := 2, locals := 52 } : Room).cells ({ frames := 3, cells := 1, slots := 2, locals := 52 } : Room).slots) := by
  refine OwnK.met (Q := (own_Qmet4_2 Z h0 n0 p1 p2 kA c0 c1 cs)) (C := ({ frames := 3, cells := 1, slots := 2, locals := 52 } : Room).cells) (N := ({ frames := 3, cells := 1, slots := 2, locals := 52 } : Room).slots) own_pl_4 (own_ef_4 p1 p2) ?_
  intro p e s m below meth c T0 X0 hx hZ hby hml hown hnm hret hlk e0
  have N0 := Fr.nil n0
  have K0 := Keep.refl h0 [p1]
  refine OwnK.aloadN X0 hx (hb hby own_d4_0) (pc' := 1) rfl (v := (.ref p1)) rfl rfl ?_
  refine OwnK.aloadN X0 hx (hb hby own_d4_1) (pc' := 2) rfl (v := (.ref p2)) rfl rfl ?_
  refine OwnK.iconst X0 hx (hb hby own_d4_2) (pc' := 3) rfl (v := (0 : Int32)) (by decide) ?_
  refine OwnK.aloadN X0 hx (hb hby own_d4_3) (pc' := 4) rfl (v := (.ref p2)) rfl rfl ?_
  refine OwnK.arrlen X0 hx hZ e0 Vb (hb hby own_d4_4) (pc' := 5) rfl ?_
  refine OwnK.aconstNull X0 hx (hb hby own_d4_5) (pc' := 6) rfl ?_
  refine OwnK.callI_ X0 hx hZ hown (y := (⟨"java/lang/String", "<init>", "([CIILjava/lang/Void;)V"⟩ : MethodName)) (a := p1) rfl (hw _ (List.mem_of_getElem? (i := 21) rfl)) (hw _ (List.mem_of_getElem? (i := 22) rfl)) (hw _ (List.mem_of_getElem? (i := 16) rfl)) (hw _ (List.mem_of_getElem? (i := 24) rfl)) rfl (by decide) (own_met5_2 l Z a0 hw h0 n0 Z0 p1 p2 _ c0 c1 cs O0 ge_p1 E0 F0 F1 Vb ne0 r_c0 r_c1 hcs SS ) (by decide) (W := 0) (by decide) e0 (by rw [hml]; rfl) own_pd_13 (argsL := [(.ref p2), (.int (0 : Int32)), (.int (2 : Int32)), .null]) rfl (S := []) rfl (Nat.le_of_eq rfl) (hb hby own_d4_6) (pc' := 9) rfl (by decide) (by decide) (fun T1 v1 L1 X1 hQ1 => ?_)
  obtain ⟨t1, kt1, rfl, N1q, K1, Eq1, Cq1, Vq1, Bq1⟩ := hQ1
  have N2 := Fr.app N0 N1q
  have f3 := E0.keep K1
  have f4 := Vb.keep K1 (ninS (Ne.symm ne0) nin0)
  have z5 : n0 ≤ T1.heap.size := Nat.le_trans Z0 K1.1
  have O6 := O0.keep K1 (allS ge_p1 all0)
  have K7 := K0.trans K1 (allS (Or.inl (List.mem_of_getElem? (i := 0) rfl)) all0)
  refine OwnK.retV_ X1 hx hret hlk (hb hby own_d4_9) (by decide) (by decide) ?_
  exact ⟨t1, _, rfl, N2, K7, Eq1, Cq1, Vq1, Bq1⟩
def own_Qmet5_0 (Z : State) (h0 : Heap) (n0 : Nat) (p1 : Addr) (p2 : Addr) (kA : ClassId) (v : Option Value) (h : Heap) (L : List Loc) : Prop := ∃ t kt, v = none ∧ Fr n0 L ∧ Keep h0 h [p1] ∧ own_Sg Z h p1 t kt (0 : Int32) []
set_option maxRecDepth 65536 in
set_option maxHeartbeats 40000000 in
theorem own_met5_0 (l : Launch) (Z : State) (a0 : Array Value) (hw : ∀ d ∈ tables_1, d.before a0 Z = true) (h0 : Heap) (n0 : Nat) (Z0 : n0 ≤ h0.size) (p1 : Addr) (p2 : Addr) (kA : ClassId) (ge_p1 : n0 ≤ p1) (E0 : Exa Z h0 p1 "java/lang/String") (F0 : Fld Z h0 p1 "java/lang/String" "value" "[B" .null) (F1 : Fld Z h0 p1 "java/lang/String" "coder" "B" (.int (0 : Int32))) (Vb : Arv Z h0 p2 kA .char (0 : Int32) [] (.int (0 : Int32))) (ne0 : p1 ≠ p2) :
    MetFree l (⟨"java/lang/String", "<init>", "([CIILjava/lang/Void;)V"⟩ : MethodName) (head1 [Jvm.Cond.code (⟨"java/lang/String", "<init>", "([CIILjava/lang/Void;)V"⟩ : MethodName) jdk_42_method_149_code 6 none] ({ frames := 1, cells := 4, slots := 8, locals := 12 } : Room)) (fun a U => a = #[(.ref p1), (.ref p2), (.int (0 : Int32)), (.int (0 : Int32)), .null] ∧ Z.Warmed39 U.vm ∧ U.heap = h0 ∧ CHv Z own_EL U.vm h0) (fun _ _ _ _ _ => True) (fun _ U o U' => ∃ v L, o = .returned v ∧ (own_Qmet5_0 Z h0 n0 p1 p2 kA) v U'.heap L ∧ CHr Z own_EL U.vm U.heap U'.vm U'.heap ∧ ReturnedEndW U o U' L ({ frames := 1, cells := 4, slots := 8, locals := 12 } : Room).cells ({ frames := 1, cells := 4, slots := 8, locals := 12 } : Room).slots) := by
  refine OwnK.metW (Q := (own_Qmet5_0 Z h0 n0 p1 p2 kA)) (C := ({ frames := 1, cells := 4, slots := 8, locals := 12 } : Room).cells) (N := ({ frames := 1, cells := 4, slots := 8, locals := 12 } : Room).slots) (own_ew l Z a0 hw) own_pl_5 (own_ef_5n_0_0 p1 p2) ?_
  intro p e s m below meth c T0 X0 hx Yd0 hby hml hnm hret hlk e0
  have hZ := Yd0.z
  have hown := Yd0.o
  have N0 := Fr.nil n0
  have K0 := Keep.refl h0 [p1]
  have Sz := own_safeS (EL := own_EL) Yd0.z E0 F0
  refine OwnK.aloadN X0 hx (hb hby own_d5_0) (pc' := 1) rfl (v := (.ref p1)) rfl rfl ?_
  refine OwnK.initO_ X0 hx hZ hown (hw _ (List.mem_of_getElem? (i := 25) rfl)) (hw _ (List.mem_of_getElem? (i := 26) rfl)) (hw _ (List.mem_of_getElem? (i := 27) rfl)) e0 (by rw [hml]; rfl) (hb hby own_d5_1) (pc' := 4) rfl (by decide) (W := 0) (Nat.le_of_eq rfl) (by decide) (fun T1 X1 e1 => ?_)
  refine OwnK.iloadN X1 hx (hb hby own_d5_4) (pc' := 5) rfl (v := (0 : Int32)) rfl ?_
  refine OwnK.if_ne X1 hx (hb hby own_d5_5) (by decide) (pcT := 27) (by decide) (pc' := 8) rfl (fun (hc5 : ¬ 0 = 0) => absurd hc5 (by decide)) (fun hc5 => ?_)
  refine OwnK.aloadN X1 hx (hb hby own_d5_8) (pc' := 9) rfl (v := (.ref p1)) rfl rfl ?_
  refine OwnK.ldcC_ X1 hx Yd0 (hw _ (List.mem_of_getElem? (i := 28) rfl)) (own_sa l Z a0 hw) e1 (List.mem_of_getElem? (i := 0) rfl) (vs := []) (z := (0 : Int32)) (by decide) (by decide) (by decide) (hb hby own_d5_9) (pc' := 11) rfl (n := 0) (by decide) (by decide) (by decide) (by decide) (fun T2 h2 a2 b2 k2 X2 e2 E2 Yd2 A2 C2 V2 B2 ne2 sf2 => ?_)
  have S3 := sf2 p1 E0.lt Sz
  have z4 : n0 ≤ h2.size := Nat.le_trans Z0 E2.1
  have K5 := K0.ext E2
  have f6 := E0.ext E2
  have f7 := F0.ext E2
  have f8 := F1.ext E2
  have f9 := Vb.ext E2
  have hZ := Yd2.z
  have hown := Yd2.o
  obtain ⟨q10, q11⟩ := ne2 p1 S3
  refine OwnK.getF_ X2 hx hZ hown (host := "") (Or.inl (hw _ (List.mem_of_getElem? (i := 34) rfl))) Via.refl e2 V2 (hb hby own_d5_11) (pc' := 14) rfl (fun T12 X12 e12 => ?_)
  refine OwnK.putF_ X12 hx hZ hown (hw _ (List.mem_of_getElem? (i := 34) rfl)) Via.refl e12 f7 f6 (Or.inr ⟨(hw _ (List.mem_of_getElem? (i := 30) rfl)), rfl, hnm⟩) (hw _ (List.mem_of_getElem? (i := 15) rfl)) (ty := (.array .byte)) (by decide) (v' := (.ref b2)) rfl rfl (hb hby own_d5_14) (pc' := 17) rfl (fun T13 h13 X13 e13 W13 => ?_)
  have S14 := S3
  have f15 := f7.same W13
  have f16 := f6.wr W13
  have f17 := f8.other W13 (Or.inr (slot_ne (Or.inr (hw _ (List.mem_of_getElem? (i := 31) rfl))) (Or.inr (hw _ (List.mem_of_getElem? (i := 30) rfl))) (by decide) (t := .byte) (t' := (.array .byte)) (by decide) (by decide)))
  have f18 := f9.other W13 (Ne.symm ne0)
  have f19 := Yd2.safeWr W13 S14 S3
  have f20 := A2.wr W13
  have f21 := C2.other W13 (Or.inl (Ne.symm q10))
  have f22 := V2.other W13 (Or.inl (Ne.symm q10))
  have f23 := B2.other W13 (Ne.symm q11)
  have Yw13 := Yd2.wr W13 S14
  have N24 := Fr.snoc X13 N0 ge_p1
  have K25 := K5.wr W13 (Or.inl (List.mem_of_getElem? (i := 0) rfl))
  have z26 : n0 ≤ h13.size := Nat.le_trans z4 (Keep.of_wr W13).1
  refine OwnK.aloadN X13 hx (hb hby own_d5_17) (pc' := 18) rfl (v := (.ref p1)) rfl rfl ?_
  refine OwnK.ldcC_ X13 hx Yw13 (hw _ (List.mem_of_getElem? (i := 28) rfl)) (own_sa l Z a0 hw) e13 (List.mem_of_getElem? (i := 0) rfl) (vs := []) (z := (0 : Int32)) (by decide) (by decide) (by decide) (hb hby own_d5_18) (pc' := 20) rfl (n := 0) (by decide) (by decide) (by decide) (by decide) (fun T27 h27 a27 b27 k27 X27 e27 E27 Yd27 A27 C27 V27 B27 ne27 sf27 => ?_)
  have S28 := sf27 p1 f16.lt f19
  have z29 : n0 ≤ h27.size := Nat.le_trans z26 E27.1
  have K30 := K25.ext E27
  have f31 := f16.ext E27
  have f32 := f15.ext E27
  have f33 := f17.ext E27
  have f34 := f18.ext E27
  have f35 := f20.ext E27
  have f36 := f21.ext E27
  have f37 := f22.ext E27
  have f38 := f23.ext E27
  have hZ := Yd27.z
  have hown := Yd27.o
  obtain ⟨q39, q40⟩ := ne27 p1 S28
  refine OwnK.getF_ X27 hx hZ hown (host := "") (Or.inl (hw _ (List.mem_of_getElem? (i := 35) rfl))) Via.refl e27 C27 (hb hby own_d5_20) (pc' := 23) rfl (fun T41 X41 e41 => ?_)
  refine OwnK.putF_ X41 hx hZ hown (hw _ (List.mem_of_getElem? (i := 35) rfl)) Via.refl e41 f33 f31 (Or.inr ⟨(hw _ (List.mem_of_getElem? (i := 31) rfl)), rfl, hnm⟩) (hw _ (List.mem_of_getElem? (i := 15) rfl)) (ty := .byte) (by decide) (v' := (.int (0 : Int32))) (by first | rfl | decide) (by first | rfl | decide) (hb hby own_d5_23) (pc' := 26) rfl (fun T42 h42 X42 e42 W42 => ?_)
  have S43 := S28
  have f44 := f33.same W42
  have f45 := f31.wr W42
  have f46 := f32.other W42 (Or.inr (slot_ne (Or.inr (hw _ (List.mem_of_getElem? (i := 30) rfl))) (Or.inr (hw _ (List.mem_of_getElem? (i := 31) rfl))) (by decide) (t := (.array .byte)) (t' := .byte) (by decide) (by decide)))
  have f47 := f34.other W42 (Ne.symm ne0)
  have f48 := f35.wr W42
  have f49 := f36.other W42 (Or.inl (Ne.symm q10))
  have f50 := f37.other W42 (Or.inl (Ne.symm q10))
  have f51 := f38.other W42 (Ne.symm q11)
  have f52 := Yd27.safeWr W42 S43 S28
  have f53 := A27.wr W42
  have f54 := C27.other W42 (Or.inl (Ne.symm q39))
  have f55 := V27.other W42 (Or.inl (Ne.symm q39))
  have f56 := B27.other W42 (Ne.symm q40)
  have Yw42 := Yd27.wr W42 S43
  have N57 := Fr.snoc X42 N24 ge_p1
  have K58 := K30.wr W42 (Or.inl (List.mem_of_getElem? (i := 0) rfl))
  have z59 : n0 ≤ h42.size := Nat.le_trans z29 (Keep.of_wr W42).1
  refine OwnK.retVW_ X42 hx Yw42 hret hlk (hb hby own_d5_26) e42 (by decide) (by decide) ?_
  rw [show T42.heap = h42 from e42]
  exact ⟨b2, _, rfl, N57, K58, f45, f44, f46, f51⟩
def own_Qmet4_0 (Z : State) (h0 : Heap) (n0 : Nat) (p1 : Addr) (p2 : Addr) (kA : ClassId) (v : Option Value) (h : Heap) (L : List Loc) : Prop := ∃ t kt, v = none ∧ Fr n0 L ∧ Keep h0 h [p1] ∧ own_Sg Z h p1 t kt (0 : Int32) []
set_option maxRecDepth 65536 in
set_option maxHeartbeats 40000000 in
theorem own_met4_0 (l : Launch) (Z : State) (a0 : Array Value) (hw : ∀ d ∈ tables_1, d.before a0 Z = true) (h0 : Heap) (n0 : Nat) (Z0 : n0 ≤ h0.size) (p1 : Addr) (p2 : Addr) (kA : ClassId) (ge_p1 : n0 ≤ p1) (E0 : Exa Z h0 p1 "java/lang/String") (F0 : Fld Z h0 p1 "java/lang/String" "value" "[B" .null) (F1 : Fld Z h0 p1 "java/lang/String" "coder" "B" (.int (0 : Int32))) (Vb : Arv Z h0 p2 kA .char (0 : Int32) [] (.int (0 : Int32))) (ne0 : p1 ≠ p2) :
    MetFree l (⟨"java/lang/String", "<init>", "([C)V"⟩ : MethodName) (head1 [Jvm.Cond.code (⟨"java/lang/String", "<init>", "([C)V"⟩ : MethodName) jdk_42_method_3_code 2 none] ({ frames := 2, cells := 4, slots := 8, locals := 29 } : Room)) (fun a U => a = #[(.ref p1), (.ref p2)] ∧ Z.Warmed39 U.vm ∧ U.heap = h0 ∧ CHv Z own_EL U.vm h0) (fun _ _ _ _ _ => True) (fun _ U o U' => ∃ v L, o = .returned v ∧ (own_Qmet4_0 Z h0 n0 p1 p2 kA) v U'.heap L ∧ CHr Z own_EL U.vm U.heap U'.vm U'.heap ∧ ReturnedEndW U o U' L ({ frames := 2, cells := 4, slots := 8, locals := 29 } : Room).cells ({ frames := 2, cells := 4, slots := 8, locals := 29 } : Room).slots) := by
  refine OwnK.metW (Q := (own_Qmet4_0 Z h0 n0 p1 p2 kA)) (C := ({ frames := 2, cells := 4, slots := 8, locals := 29 } : Room).cells) (N := ({ frames := 2, cells := 4, slots := 8, locals := 29 } : Room).slots) (own_ew l Z a0 hw) own_pl_4 (own_ef_4 p1 p2) ?_
  intro p e s m below meth c T0 X0 hx Yd0 hby hml hnm hret hlk e0
  have hZ := Yd0.z
  have hown := Yd0.o
  have N0 := Fr.nil n0
  have K0 := Keep.refl h0 [p1]
  have Sz := own_safeS (EL := own_EL) Yd0.z E0 F0
  refine OwnK.aloadN X0 hx (hb hby own_d4_0) (pc' := 1) rfl (v := (.ref p1)) rfl rfl ?_
  refine OwnK.aloadN X0 hx (hb hby own_d4_1) (pc' := 2) rfl (v := (.ref p2)) rfl rfl ?_
  refine OwnK.iconst X0 hx (hb hby own_d4_2) (pc' := 3) rfl (v := (0 : Int32)) (by decide) ?_
  refine OwnK.aloadN X0 hx (hb hby own_d4_3) (pc' := 4) rfl (v := (.ref p2)) rfl rfl ?_
  refine OwnK.arrlen X0 hx hZ e0 Vb (hb hby own_d4_4) (pc' := 5) rfl ?_
  refine OwnK.aconstNull X0 hx (hb hby own_d4_5) (pc' := 6) rfl ?_
  refine OwnK.callIW_ X0 hx Yd0 (y := (⟨"java/lang/String", "<init>", "([CIILjava/lang/Void;)V"⟩ : MethodName)) (a := p1) rfl (hw _ (List.mem_of_getElem? (i := 21) rfl)) (hw _ (List.mem_of_getElem? (i := 22) rfl)) (hw _ (List.mem_of_getElem? (i := 16) rfl)) (hw _ (List.mem_of_getElem? (i := 24) rfl)) rfl (by decide) (own_met5_0 l Z a0 hw h0 n0 Z0 p1 p2 _  ge_p1 E0 F0 F1 Vb ne0 ) (by decide) (W := 0) (by decide) e0 (by rw [hml]; rfl) own_pd_13 (argsL := [(.ref p2), (.int (0 : Int32)), (.int (0 : Int32)), .null]) rfl (S := []) rfl (Nat.le_of_eq rfl) (hb hby own_d4_6) (pc' := 9) rfl (by decide) (by decide) (fun T1 v1 L1 X1 Yd1 hQ1 => ?_)
  have hZ := Yd1.z
  have hown := Yd1.o
  obtain ⟨t1, kt1, rfl, N1q, K1, Eq1, Cq1, Vq1, Bq1⟩ := hQ1
  have N2 := Fr.app N0 N1q
  have f3 := E0.keep K1
  have f4 := Vb.keep K1 (ninS (Ne.symm ne0) nin0)
  have z5 : n0 ≤ T1.heap.size := Nat.le_trans Z0 K1.1
  have K6 := K0.trans K1 (allS (Or.inl (List.mem_of_getElem? (i := 0) rfl)) all0)
  refine OwnK.retVW_ X1 hx Yd1 hret hlk (hb hby own_d4_9) rfl (by decide) (by decide) ?_
  exact ⟨t1, _, rfl, N2, K6, Eq1, Cq1, Vq1, Bq1⟩
def own_Qmet12 (h0 : Heap) (p1 : Addr) (p2 : Addr) (kA kB : ClassId) (za x0 x1 zb y0 y1 : Int32) (v : Option Value) (h : Heap) (L : List Loc) : Prop := v = some (.int (own_eqI za.toInt x0.toInt x1.toInt zb.toInt y0.toInt y1.toInt)) ∧ h = h0 ∧ L = []
set_option maxRecDepth 65536 in
set_option maxHeartbeats 40000000 in
theorem own_met12 (l : Launch) (Z : State) (a0 : Array Value) (hw : ∀ d ∈ tables_1, d.before a0 Z = true) (h0 : Heap) (p1 : Addr) (p2 : Addr) (kA kB : ClassId) (za x0 x1 zb y0 y1 : Int32) (Va : Arv Z h0 p1 kA .byte za [.int x0, .int x1] (.int (0 : Int32))) (Vb : Arv Z h0 p2 kB .byte zb [.int y0, .int y1] (.int (0 : Int32))) (hz : za.toInt ≤ 2) :
    MetFree l (⟨"java/lang/StringLatin1", "equals", "([B[B)Z"⟩ : MethodName) (head1 [Jvm.Cond.code (⟨"java/lang/StringLatin1", "equals", "([B[B)Z"⟩ : MethodName) jdk_43_method_13_code 3 (some .boolean)] ({ frames := 0, cells := 0, slots := 0, locals := 0 } : Room)) (fun a U => a = #[(.ref p1), (.ref p2)] ∧ Z.Warmed39 U.vm ∧ U.heap = h0) (fun _ _ _ _ _ => True) (fun _ U o U' => ∃ v L, o = .returned v ∧ (own_Qmet12 h0 p1 p2 kA kB za x0 x1 zb y0 y1) v U'.heap L ∧ FrameEnd U o U' L ({ frames := 0, cells := 0, slots := 0, locals := 0 } : Room).cells ({ frames := 0, cells := 0, slots := 0, locals := 0 } : Room).slots) := by
  refine OwnK.met (Q := (own_Qmet12 h0 p1 p2 kA kB za x0 x1 zb y0 y1)) (C := ({ frames := 0, cells := 0, slots := 0, locals := 0 } : Room).cells) (N := ({ frames := 0, cells := 0, slots := 0, locals := 0 } : Room).slots) own_pl_12 (own_ef_12 p1 p2) ?_
  intro p e s m below meth c T0 X0 hx hZ hby hml hown hnm hret hlk e0
  have lit0 : (0 : Int32).toInt = 0 := by decide
  have lit1 : (1 : Int32).toInt = 1 := by decide
  have lit2 : (2 : Int32).toInt = 2 := by decide
  refine OwnK.aloadN X0 hx (hb hby own_d12_0) (pc' := 1) rfl (v := (.ref p1)) rfl rfl ?_
  refine OwnK.arrlen X0 hx hZ e0 Va (hb hby own_d12_1) (pc' := 2) rfl ?_
  refine OwnK.aloadN X0 hx (hb hby own_d12_2) (pc' := 3) rfl (v := (.ref p2)) rfl rfl ?_
  refine OwnK.arrlen X0 hx hZ e0 Vb (hb hby own_d12_3) (pc' := 4) rfl ?_
  refine OwnK.icmp_ne X0 hx (hb hby own_d12_4) (by decide) (pcT := 34) (by decide) (pc' := 7) rfl (fun (hc1 : ¬ za.toInt = zb.toInt) => ?_) (fun (hc1 : za.toInt = zb.toInt) => ?_)
  · refine OwnK.iconst X0 hx (hb hby own_d12_34) (pc' := 35) rfl (v := (0 : Int32)) (by decide) ?_
    refine OwnK.retN_ X0 hx hret (by simp) hlk (hb hby own_d12_35) (by decide) (by decide) ?_
    exact ⟨by rw [own_nar0, own_eq0 (by omega)], e0, rfl⟩
  · refine OwnK.iconst X0 hx (hb hby own_d12_7) (pc' := 8) rfl (v := (0 : Int32)) (by decide) ?_
    refine OwnK.istoreN X0 hx (hb hby own_d12_8) (pc' := 9) rfl (Ls' := #[.val (.ref p1), .val (.ref p2), .val (.int (0 : Int32))]) rfl ?_
    refine OwnK.iloadN X0 hx (hb hby own_d12_9) (pc' := 10) rfl (v := (0 : Int32)) rfl ?_
    refine OwnK.aloadN X0 hx (hb hby own_d12_10) (pc' := 11) rfl (v := (.ref p1)) rfl rfl ?_
    refine OwnK.arrlen X0 hx hZ e0 Va (hb hby own_d12_11) (pc' := 12) rfl ?_
    refine OwnK.icmp_ge X0 hx (hb hby own_d12_12) (by decide) (pcT := 32) (by decide) (pc' := 15) rfl (fun (hc2 : za.toInt ≤ 0) => ?_) (fun (hc2 : 0 < za.toInt) => ?_)
    · refine OwnK.iconst X0 hx (hb hby own_d12_32) (pc' := 33) rfl (v := (1 : Int32)) (by decide) ?_
      refine OwnK.retN_ X0 hx hret (by simp) hlk (hb hby own_d12_33) (by decide) (by decide) ?_
      exact ⟨by rw [own_nar1, own_eq1 (by omega)], e0, rfl⟩
    · refine OwnK.aloadN X0 hx (hb hby own_d12_15) (pc' := 16) rfl (v := (.ref p1)) rfl rfl ?_
      refine OwnK.iloadN X0 hx (hb hby own_d12_16) (pc' := 17) rfl (v := (0 : Int32)) rfl ?_
      refine OwnK.baload X0 hx hZ e0 Va (by decide) (by first | decide | omega) (v := (.int x0)) rfl (hb hby own_d12_17) (pc' := 18) rfl ?_
      refine OwnK.aloadN X0 hx (hb hby own_d12_18) (pc' := 19) rfl (v := (.ref p2)) rfl rfl ?_
      refine OwnK.iloadN X0 hx (hb hby own_d12_19) (pc' := 20) rfl (v := (0 : Int32)) rfl ?_
      refine OwnK.baload X0 hx hZ e0 Vb (by decide) (by first | decide | omega) (v := (.int y0)) rfl (hb hby own_d12_20) (pc' := 21) rfl ?_
      refine OwnK.icmp_eq X0 hx (hb hby own_d12_21) (by decide) (pcT := 26) (by decide) (pc' := 24) rfl (fun (hc3 : x0.toInt = y0.toInt) => ?_) (fun (hc3 : ¬ x0.toInt = y0.toInt) => ?_)
      · refine OwnK.iincL X0 hx (hb hby own_d12_26) (pc' := 29) rfl (x := (0 : Int32)) rfl (v := (1 : Int32)) (by decide) (Ls' := #[.val (.ref p1), .val (.ref p2), .val (.int (1 : Int32))]) rfl ?_
        refine OwnK.goto_ X0 hx (hb hby own_d12_29) (by decide) (pc' := 9) (by decide) ?_
        refine OwnK.iloadN X0 hx (hb hby own_d12_9) (pc' := 10) rfl (v := (1 : Int32)) rfl ?_
        refine OwnK.aloadN X0 hx (hb hby own_d12_10) (pc' := 11) rfl (v := (.ref p1)) rfl rfl ?_
        refine OwnK.arrlen X0 hx hZ e0 Va (hb hby own_d12_11) (pc' := 12) rfl ?_
        refine OwnK.icmp_ge X0 hx (hb hby own_d12_12) (by decide) (pcT := 32) (by decide) (pc' := 15) rfl (fun (hc4 : za.toInt ≤ 1) => ?_) (fun (hc4 : 1 < za.toInt) => ?_)
        · refine OwnK.iconst X0 hx (hb hby own_d12_32) (pc' := 33) rfl (v := (1 : Int32)) (by decide) ?_
          refine OwnK.retN_ X0 hx hret (by simp) hlk (hb hby own_d12_33) (by decide) (by decide) ?_
          exact ⟨by rw [own_nar1, own_eq1 (by omega)], e0, rfl⟩
        · refine OwnK.aloadN X0 hx (hb hby own_d12_15) (pc' := 16) rfl (v := (.ref p1)) rfl rfl ?_
          refine OwnK.iloadN X0 hx (hb hby own_d12_16) (pc' := 17) rfl (v := (1 : Int32)) rfl ?_
          refine OwnK.baload X0 hx hZ e0 Va (by decide) (by first | decide | omega) (v := (.int x1)) rfl (hb hby own_d12_17) (pc' := 18) rfl ?_
          refine OwnK.aloadN X0 hx (hb hby own_d12_18) (pc' := 19) rfl (v := (.ref p2)) rfl rfl ?_
          refine OwnK.iloadN X0 hx (hb hby own_d12_19) (pc' := 20) rfl (v := (1 : Int32)) rfl ?_
          refine OwnK.baload X0 hx hZ e0 Vb (by decide) (by first | decide | omega) (v := (.int y1)) rfl (hb hby own_d12_20) (pc' := 21) rfl ?_
          refine OwnK.icmp_eq X0 hx (hb hby own_d12_21) (by decide) (pcT := 26) (by decide) (pc' := 24) rfl (fun (hc5 : x1.toInt = y1.toInt) => ?_) (fun (hc5 : ¬ x1.toInt = y1.toInt) => ?_)
          · refine OwnK.iincL X0 hx (hb hby own_d12_26) (pc' := 29) rfl (x := (1 : Int32)) rfl (v := (2 : Int32)) (by decide) (Ls' := #[.val (.ref p1), .val (.ref p2), .val (.int (2 : Int32))]) rfl ?_
            refine OwnK.goto_ X0 hx (hb hby own_d12_29) (by decide) (pc' := 9) (by decide) ?_
            refine OwnK.iloadN X0 hx (hb hby own_d12_9) (pc' := 10) rfl (v := (2 : Int32)) rfl ?_
            refine OwnK.aloadN X0 hx (hb hby own_d12_10) (pc' := 11) rfl (v := (.ref p1)) rfl rfl ?_
            refine OwnK.arrlen X0 hx hZ e0 Va (hb hby own_d12_11) (pc' := 12) rfl ?_
            refine OwnK.icmp_ge X0 hx (hb hby own_d12_12) (by decide) (pcT := 32) (by decide) (pc' := 15) rfl (fun hc12 => ?_) (fun (hc12 : 2 < za.toInt) => by omega)
            refine OwnK.iconst X0 hx (hb hby own_d12_32) (pc' := 33) rfl (v := (1 : Int32)) (by decide) ?_
            refine OwnK.retN_ X0 hx hret (by simp) hlk (hb hby own_d12_33) (by decide) (by decide) ?_
            exact ⟨by rw [own_nar1, own_eq1 (by omega)], e0, rfl⟩
          · refine OwnK.iconst X0 hx (hb hby own_d12_24) (pc' := 25) rfl (v := (0 : Int32)) (by decide) ?_
            refine OwnK.retN_ X0 hx hret (by simp) hlk (hb hby own_d12_25) (by decide) (by decide) ?_
            exact ⟨by rw [own_nar0, own_eq0 (by omega)], e0, rfl⟩
      · refine OwnK.iconst X0 hx (hb hby own_d12_24) (pc' := 25) rfl (v := (0 : Int32)) (by decide) ?_
        refine OwnK.retN_ X0 hx hret (by simp) hlk (hb hby own_d12_25) (by decide) (by decide) ?_
        exact ⟨by rw [own_nar0, own_eq0 (by omega)], e0, rfl⟩
def own_Qmet11 (h0 : Heap) (p1 : Addr) (p2 : Addr) (n0 : Nat) (ta tb : Addr) (kA kB : ClassId) (za x0 x1 zb y0 y1 cs : Int32) (v : Option Value) (h : Heap) (L : List Loc) : Prop := v = some (.int (own_eqI za.toInt x0.toInt x1.toInt zb.toInt y0.toInt y1.toInt)) ∧ h = h0 ∧ L = []
set_option maxRecDepth 65536 in
set_option maxHeartbeats 40000000 in
theorem own_met11 (l : Launch) (Z : State) (a0 : Array Value) (hw : ∀ d ∈ tables_1, d.before a0 Z = true) (h0 : Heap) (p1 : Addr) (p2 : Addr) (n0 : Nat) (ta tb : Addr) (kA kB : ClassId) (za x0 x1 zb y0 y1 cs : Int32) (O0 : Old Z n0 h0) (G1 : own_Sg Z h0 p1 ta kA za [.int x0, .int x1]) (G2 : own_Sg Z h0 p2 tb kB zb [.int y0, .int y1]) (hz : za.toInt ≤ 2) (hcs : ¬ cs.toInt = 0) (SS : Sta Z Z.heap "java/lang/String" "COMPACT_STRINGS" "Z" (.int cs)) :
    MetFree l (⟨"java/lang/String", "equals", "(Ljava/lang/Object;)Z"⟩ : MethodName) (head1 [Jvm.Cond.code (⟨"java/lang/String", "equals", "(Ljava/lang/Object;)Z"⟩ : MethodName) jdk_42_method_66_code 3 (some .boolean)] ({ frames := 1, cells := 0, slots := 0, locals := 14 } : Room)) (fun a U => a = #[(.ref p1), (.ref p2)] ∧ Z.Warmed39 U.vm ∧ U.heap = h0) (fun _ _ _ _ _ => True) (fun _ U o U' => ∃ v L, o = .returned v ∧ (own_Qmet11 h0 p1 p2 n0 ta tb kA kB za x0 x1 zb y0 y1 cs) v U'.heap L ∧ FrameEnd U o U' L ({ frames := 1, cells := 0, slots := 0, locals := 14 } : Room).cells ({ frames := 1, cells := 0, slots := 0, locals := 14 } : Room).slots) := by
  refine OwnK.met (Q := (own_Qmet11 h0 p1 p2 n0 ta tb kA kB za x0 x1 zb y0 y1 cs)) (C := ({ frames := 1, cells := 0, slots := 0, locals := 14 } : Room).cells) (N := ({ frames := 1, cells := 0, slots := 0, locals := 14 } : Room).slots) own_pl_11 (own_ef_11 p1 p2) ?_
  intro p e s m below meth c T0 X0 hx hZ hby hml hown hnm hret hlk e0
  have Sa := G1
  have Sb := G2
  obtain ⟨Es1, Cs1, Vs1, Bs1⟩ := G1
  obtain ⟨Es2, Cs2, Vs2, Bs2⟩ := G2
  refine OwnK.aloadN X0 hx (hb hby own_d11_0) (pc' := 1) rfl (v := (.ref p1)) rfl rfl ?_
  refine OwnK.aloadN X0 hx (hb hby own_d11_1) (pc' := 2) rfl (v := (.ref p2)) rfl rfl ?_
  refine OwnK.acmp_ne X0 hx (hb hby own_d11_2) rfl rfl (by decide) (pcT := 7) (by decide) (pc' := 5) rfl (fun (hc3 : ¬ ((.ref p1) : Value) = (.ref p2)) => ?_) (fun (hc3 : ((.ref p1) : Value) = (.ref p2)) => ?_)
  · refine OwnK.aloadN X0 hx (hb hby own_d11_7) (pc' := 8) rfl (v := (.ref p2)) rfl rfl ?_
    refine OwnK.instYes X0 hx hZ hown (hw _ (List.mem_of_getElem? (i := 66) rfl)) e0 (Ins.self Es2) (hb hby own_d11_8) (pc' := 11) rfl (fun T4 X4 e4 => ?_)
    refine OwnK.if_eq X4 hx (hb hby own_d11_11) (by decide) (pcT := 54) (by decide) (pc' := 14) rfl (fun (hc11 : 1 = 0) => absurd hc11 (by decide)) (fun hc11 => ?_)
    refine OwnK.aloadN X4 hx (hb hby own_d11_14) (pc' := 15) rfl (v := (.ref p2)) rfl rfl ?_
    refine OwnK.cast_ X4 hx hZ hown (hw _ (List.mem_of_getElem? (i := 66) rfl)) e4 (Ins.self Es2) (hb hby own_d11_15) (pc' := 18) rfl (fun T5 X5 e5 => ?_)
    refine OwnK.astoreN X5 hx (hb hby own_d11_18) (pc' := 19) rfl rfl (Ls' := #[.val (.ref p1), .val (.ref p2), .val (.ref p2)]) rfl ?_
    refine OwnK.getS_ X5 hx hZ hown (host := "") (Or.inl (hw _ (List.mem_of_getElem? (i := 67) rfl))) Via.refl e5 (SS.ext O0.2) (hb hby own_d11_19) (pc' := 22) rfl (fun T6 X6 e6 => ?_)
    refine OwnK.if_eq X6 hx (hb hby own_d11_22) (by decide) (pcT := 36) (by decide) (pc' := 25) rfl (fun (hc22 : cs.toInt = 0) => absurd hc22 hcs) (fun hc22 => ?_)
    refine OwnK.aloadN X6 hx (hb hby own_d11_25) (pc' := 26) rfl (v := (.ref p1)) rfl rfl ?_
    refine OwnK.getF_ X6 hx hZ hown (host := "") (Or.inl (hw _ (List.mem_of_getElem? (i := 35) rfl))) Via.refl e6 Cs1 (hb hby own_d11_26) (pc' := 29) rfl (fun T7 X7 e7 => ?_)
    refine OwnK.aloadN X7 hx (hb hby own_d11_29) (pc' := 30) rfl (v := (.ref p2)) rfl rfl ?_
    refine OwnK.getF_ X7 hx hZ hown (host := "") (Or.inl (hw _ (List.mem_of_getElem? (i := 35) rfl))) Via.refl e7 Cs2 (hb hby own_d11_30) (pc' := 33) rfl (fun T8 X8 e8 => ?_)
    refine OwnK.icmp_ne X8 hx (hb hby own_d11_33) (by decide) (pcT := 54) (by decide) (pc' := 36) rfl (fun (hc33 : ¬ 0 = 0) => absurd hc33 (by decide)) (fun hc33 => ?_)
    refine OwnK.aloadN X8 hx (hb hby own_d11_36) (pc' := 37) rfl (v := (.ref p1)) rfl rfl ?_
    refine OwnK.getF_ X8 hx hZ hown (host := "") (Or.inl (hw _ (List.mem_of_getElem? (i := 34) rfl))) Via.refl e8 Vs1 (hb hby own_d11_37) (pc' := 40) rfl (fun T9 X9 e9 => ?_)
    refine OwnK.aloadN X9 hx (hb hby own_d11_40) (pc' := 41) rfl (v := (.ref p2)) rfl rfl ?_
    refine OwnK.getF_ X9 hx hZ hown (host := "") (Or.inl (hw _ (List.mem_of_getElem? (i := 34) rfl))) Via.refl e9 Vs2 (hb hby own_d11_41) (pc' := 44) rfl (fun T10 X10 e10 => ?_)
    refine OwnK.callS_ X10 hx hZ hown (y := (⟨"java/lang/StringLatin1", "equals", "([B[B)Z"⟩ : MethodName)) (hw _ (List.mem_of_getElem? (i := 68) rfl)) (hw _ (List.mem_of_getElem? (i := 69) rfl)) (hw _ (List.mem_of_getElem? (i := 70) rfl)) (hw _ (List.mem_of_getElem? (i := 71) rfl)) (by decide) (own_met12 l Z a0 hw h0 ta tb _ _ za x0 x1 zb y0 y1 Bs1 Bs2 hz ) (by decide) (W := 0) (by decide) e10 (by rw [hml]; rfl) own_pd_10 (argsL := [(.ref ta), (.ref tb)]) rfl (S := []) rfl (Nat.le_of_eq rfl) (hb hby own_d11_44) (pc' := 47) rfl (by decide) (by decide) (fun T11 v11 L11 X11 hQ11 => ?_)
    obtain ⟨rfl, e11, rfl⟩ := hQ11
    refine OwnK.if_eq X11 hx (hb hby own_d11_47) (by decide) (pcT := 54) (by decide) (pc' := 50) rfl (fun (hc13 : (own_eqI za.toInt x0.toInt x1.toInt zb.toInt y0.toInt y1.toInt).toInt = 0) => ?_) (fun (hc13 : ¬ (own_eqI za.toInt x0.toInt x1.toInt zb.toInt y0.toInt y1.toInt).toInt = 0) => ?_)
    · refine OwnK.iconst X11 hx (hb hby own_d11_54) (pc' := 55) rfl (v := (0 : Int32)) (by decide) ?_
      refine OwnK.retN_ X11 hx hret (by simp) hlk (hb hby own_d11_55) (by decide) (by decide) ?_
      exact ⟨own_eqz (by assumption), e11, rfl⟩
    · refine OwnK.iconst X11 hx (hb hby own_d11_50) (pc' := 51) rfl (v := (1 : Int32)) (by decide) ?_
      refine OwnK.goto_ X11 hx (hb hby own_d11_51) (by decide) (pc' := 55) (by decide) ?_
      refine OwnK.retN_ X11 hx hret (by simp) hlk (hb hby own_d11_55) (by decide) (by decide) ?_
      exact ⟨own_eqn (by assumption), e11, rfl⟩
  · refine OwnK.iconst X0 hx (hb hby own_d11_5) (pc' := 6) rfl (v := (1 : Int32)) (by decide) ?_
    refine OwnK.retN_ X0 hx hret (by simp) hlk (hb hby own_d11_6) (by decide) (by decide) ?_
    exact ⟨by rw [own_nar1, own_eq1 (own_same hc3 Sa Sb)], e0, rfl⟩
def own_Qmet3 (h0 : Heap) (p1 : Int32) (p2 : Int32) (v : Option Value) (h : Heap) (L : List Loc) : Prop := v = some (.int (if p2.toInt < p1.toInt then p2 else p1)) ∧ h = h0 ∧ L = []
set_option maxRecDepth 65536 in
set_option maxHeartbeats 40000000 in
theorem own_met3 (l : Launch) (Z : State) (a0 : Array Value) (hw : ∀ d ∈ tables_1, d.before a0 Z = true) (h0 : Heap) (p1 : Int32) (p2 : Int32)  :
    MetFree l (⟨"java/lang/Math", "min", "(II)I"⟩ : MethodName) (head1 [Jvm.Cond.code (⟨"java/lang/Math", "min", "(II)I"⟩ : MethodName) jdk_29_method_69_code 2 (some .int)] ({ frames := 0, cells := 0, slots := 0, locals := 0 } : Room)) (fun a U => a = #[(.int p1), (.int p2)] ∧ Z.Warmed39 U.vm ∧ U.heap = h0) (fun _ _ _ _ _ => True) (fun _ U o U' => ∃ v L, o = .returned v ∧ (own_Qmet3 h0 p1 p2 ) v U'.heap L ∧ FrameEnd U o U' L ({ frames := 0, cells := 0, slots := 0, locals := 0 } : Room).cells ({ frames := 0, cells := 0, slots := 0, locals := 0 } : Room).slots) := by
  refine OwnK.met (Q := (own_Qmet3 h0 p1 p2 )) (C := ({ frames := 0, cells := 0, slots := 0, locals := 0 } : Room).cells) (N := ({ frames := 0, cells := 0, slots := 0, locals := 0 } : Room).slots) own_pl_3 (own_ef_3 p1 p2) ?_
  intro p e s m below meth c T0 X0 hx hZ hby hml hown hnm hret hlk e0
  refine OwnK.iloadN X0 hx (hb hby own_d3_0) (pc' := 1) rfl (v := p1) rfl ?_
  refine OwnK.iloadN X0 hx (hb hby own_d3_1) (pc' := 2) rfl (v := p2) rfl ?_
  refine OwnK.icmp_gt X0 hx (hb hby own_d3_2) (by decide) (pcT := 9) (by decide) (pc' := 5) rfl (fun (hc1 : p2.toInt < p1.toInt) => ?_) (fun (hc1 : p1.toInt ≤ p2.toInt) => ?_)
  · refine OwnK.iloadN X0 hx (hb hby own_d3_9) (pc' := 10) rfl (v := p2) rfl ?_
    refine OwnK.retI_ X0 hx hret hlk (hb hby own_d3_10) (by decide) (by decide) ?_
    exact ⟨by first | rw [if_pos (by assumption)] | rw [if_neg (by omega)], e0, rfl⟩
  · refine OwnK.iloadN X0 hx (hb hby own_d3_5) (pc' := 6) rfl (v := p1) rfl ?_
    refine OwnK.goto_ X0 hx (hb hby own_d3_6) (by decide) (pc' := 10) (by decide) ?_
    refine OwnK.retI_ X0 hx hret hlk (hb hby own_d3_10) (by decide) (by decide) ?_
    exact ⟨by first | rw [if_pos (by assumption)] | rw [if_neg (by omega)], e0, rfl⟩
def own_Qmet2 (h0 : Heap) (p1 : Int32) (v : Option Value) (h : Heap) (L : List Loc) : Prop := v = some (.int (own_len p1)) ∧ h = h0 ∧ L = []
set_option maxRecDepth 65536 in
set_option maxHeartbeats 40000000 in
theorem own_met2 (l : Launch) (Z : State) (a0 : Array Value) (hw : ∀ d ∈ tables_1, d.before a0 Z = true) (h0 : Heap) (p1 : Int32)  :
    MetFree l (⟨"com/example/traceway/traceway/core/HeaderEqualsPinLaw", "len", "(I)I"⟩ : MethodName) (head1 [Jvm.Cond.code (⟨"com/example/traceway/traceway/core/HeaderEqualsPinLaw", "len", "(I)I"⟩ : MethodName) method_2_code 1 (some .int)] ({ frames := 1, cells := 0, slots := 0, locals := 13 } : Room)) (fun a U => a = #[(.int p1)] ∧ Z.Warmed39 U.vm ∧ U.heap = h0) (fun _ _ _ _ _ => True) (fun _ U o U' => ∃ v L, o = .returned v ∧ (own_Qmet2 h0 p1 ) v U'.heap L ∧ FrameEnd U o U' L ({ frames := 1, cells := 0, slots := 0, locals := 13 } : Room).cells ({ frames := 1, cells := 0, slots := 0, locals := 13 } : Room).slots) := by
  refine OwnK.met (Q := (own_Qmet2 h0 p1 )) (C := ({ frames := 1, cells := 0, slots := 0, locals := 13 } : Room).cells) (N := ({ frames := 1, cells := 0, slots := 0, locals := 13 } : Room).slots) own_pl_2 (own_ef_2 p1) ?_
  intro p e s m below meth c T0 X0 hx hZ hby hml hown hnm hret hlk e0
  refine OwnK.iloadN X0 hx (hb hby own_d2_0) (pc' := 1) rfl (v := p1) rfl ?_
  refine OwnK.bipush X0 hx (hb hby own_d2_1) (pc' := 3) rfl (v := (16 : Int32)) (by decide) ?_
  refine OwnK.iushr X0 hx (hb hby own_d2_3) (pc' := 4) rfl ?_
  refine OwnK.iconst X0 hx (hb hby own_d2_4) (pc' := 5) rfl (v := (3 : Int32)) (by decide) ?_
  refine OwnK.iand X0 hx (hb hby own_d2_5) (pc' := 6) rfl ?_
  refine OwnK.iconst X0 hx (hb hby own_d2_6) (pc' := 7) rfl (v := (2 : Int32)) (by decide) ?_
  refine OwnK.callS_ X0 hx hZ hown (y := (⟨"java/lang/Math", "min", "(II)I"⟩ : MethodName)) (hw _ (List.mem_of_getElem? (i := 10) rfl)) (hw _ (List.mem_of_getElem? (i := 11) rfl)) (hw _ (List.mem_of_getElem? (i := 12) rfl)) (hw _ (List.mem_of_getElem? (i := 13) rfl)) (by decide) (own_met3 l Z a0 hw h0 ((XT.ushr p1 (16 : Int32)) &&& (3 : Int32)) (2 : Int32)  ) (by decide) (W := 0) (by decide) e0 (by rw [hml]; rfl) own_pd_4 (argsL := [(.int ((XT.ushr p1 (16 : Int32)) &&& (3 : Int32))), (.int (2 : Int32))]) rfl (S := []) rfl (Nat.le_of_eq rfl) (hb hby own_d2_7) (pc' := 10) rfl (by decide) (by decide) (fun T1 v1 L1 X1 hQ1 => ?_)
  obtain ⟨rfl, e1, rfl⟩ := hQ1
  refine OwnK.retI_ X1 hx hret hlk (hb hby own_d2_10) (by decide) (by decide) ?_
  exact ⟨by rfl, e1, rfl⟩
def own_Qmet13 (h0 : Heap) (p1 : Int32) (v : Option Value) (h : Heap) (L : List Loc) : Prop := v = some (.int (p1 &&& (255 : Int32))) ∧ h = h0 ∧ L = []
set_option maxRecDepth 65536 in
set_option maxHeartbeats 40000000 in
theorem own_met13 (l : Launch) (Z : State) (a0 : Array Value) (hw : ∀ d ∈ tables_1, d.before a0 Z = true) (h0 : Heap) (p1 : Int32)  :
    MetFree l (⟨"com/example/traceway/traceway/core/HeaderEqualsPinLaw", "c0", "(I)C"⟩ : MethodName) (head1 [Jvm.Cond.code (⟨"com/example/traceway/traceway/core/HeaderEqualsPinLaw", "c0", "(I)C"⟩ : MethodName) method_3_code 1 (some .char)] ({ frames := 0, cells := 0, slots := 0, locals := 0 } : Room)) (fun a U => a = #[(.int p1)] ∧ Z.Warmed39 U.vm ∧ U.heap = h0) (fun _ _ _ _ _ => True) (fun _ U o U' => ∃ v L, o = .returned v ∧ (own_Qmet13 h0 p1 ) v U'.heap L ∧ FrameEnd U o U' L ({ frames := 0, cells := 0, slots := 0, locals := 0 } : Room).cells ({ frames := 0, cells := 0, slots := 0, locals := 0 } : Room).slots) := by
  refine OwnK.met (Q := (own_Qmet13 h0 p1 )) (C := ({ frames := 0, cells := 0, slots := 0, locals := 0 } : Room).cells) (N := ({ frames := 0, cells := 0, slots := 0, locals := 0 } : Room).slots) own_pl_13 (own_ef_13 p1) ?_
  intro p e s m below meth c T0 X0 hx hZ hby hml hown hnm hret hlk e0
  refine OwnK.iloadN X0 hx (hb hby own_d13_0) (pc' := 1) rfl (v := p1) rfl ?_
  refine OwnK.sipush X0 hx (hb hby own_d13_1) (pc' := 4) rfl (v := (255 : Int32)) (by decide) ?_
  refine OwnK.iand X0 hx (hb hby own_d13_4) (pc' := 5) rfl ?_
  refine OwnK.i2c X0 hx (hb hby own_d13_5) (pc' := 6) rfl ?_
  refine OwnK.retN_ X0 hx hret (by simp) hlk (hb hby own_d13_6) (by decide) (by decide) ?_
  exact ⟨congrArg (fun z => some (Value.int z)) (own_ch _), e0, rfl⟩
def own_Qmet14 (h0 : Heap) (p1 : Int32) (v : Option Value) (h : Heap) (L : List Loc) : Prop := v = some (.int ((XT.ushr p1 (8 : Int32)) &&& (255 : Int32))) ∧ h = h0 ∧ L = []
set_option maxRecDepth 65536 in
set_option maxHeartbeats 40000000 in
theorem own_met14 (l : Launch) (Z : State) (a0 : Array Value) (hw : ∀ d ∈ tables_1, d.before a0 Z = true) (h0 : Heap) (p1 : Int32)  :
    MetFree l (⟨"com/example/traceway/traceway/core/HeaderEqualsPinLaw", "c1", "(I)C"⟩ : MethodName) (head1 [Jvm.Cond.code (⟨"com/example/traceway/traceway/core/HeaderEqualsPinLaw", "c1", "(I)C"⟩ : MethodName) method_4_code 1 (some .char)] ({ frames := 0, cells := 0, slots := 0, locals := 0 } : Room)) (fun a U => a = #[(.int p1)] ∧ Z.Warmed39 U.vm ∧ U.heap = h0) (fun _ _ _ _ _ => True) (fun _ U o U' => ∃ v L, o = .returned v ∧ (own_Qmet14 h0 p1 ) v U'.heap L ∧ FrameEnd U o U' L ({ frames := 0, cells := 0, slots := 0, locals := 0 } : Room).cells ({ frames := 0, cells := 0, slots := 0, locals := 0 } : Room).slots) := by
  refine OwnK.met (Q := (own_Qmet14 h0 p1 )) (C := ({ frames := 0, cells := 0, slots := 0, locals := 0 } : Room).cells) (N := ({ frames := 0, cells := 0, slots := 0, locals := 0 } : Room).slots) own_pl_14 (own_ef_14 p1) ?_
  intro p e s m below meth c T0 X0 hx hZ hby hml hown hnm hret hlk e0
  refine OwnK.iloadN X0 hx (hb hby own_d14_0) (pc' := 1) rfl (v := p1) rfl ?_
  refine OwnK.bipush X0 hx (hb hby own_d14_1) (pc' := 3) rfl (v := (8 : Int32)) (by decide) ?_
  refine OwnK.iushr X0 hx (hb hby own_d14_3) (pc' := 4) rfl ?_
  refine OwnK.sipush X0 hx (hb hby own_d14_4) (pc' := 7) rfl (v := (255 : Int32)) (by decide) ?_
  refine OwnK.iand X0 hx (hb hby own_d14_7) (pc' := 8) rfl ?_
  refine OwnK.i2c X0 hx (hb hby own_d14_8) (pc' := 9) rfl ?_
  refine OwnK.retN_ X0 hx hret (by simp) hlk (hb hby own_d14_9) (by decide) (by decide) ?_
  exact ⟨congrArg (fun z => some (Value.int z)) (own_ch _), e0, rfl⟩
def own_Qmet1 (Z : State) (h0 : Heap) (n0 : Nat) (p1 : Int32) (cs : Int32) (v : Option Value) (h : Heap) (L : List Loc) : Prop := ∃ a t kt, v = some (.ref a) ∧ Fr n0 L ∧ Keep h0 h [] ∧ h0.size ≤ a ∧ own_Sg Z h a t kt (own_len p1) [.int (own_b0 p1), .int (own_b1 p1)]
set_option maxRecDepth 65536 in
set_option maxHeartbeats 40000000 in
theorem own_met1 (l : Launch) (Z : State) (a0 : Array Value) (hw : ∀ d ∈ tables_1, d.before a0 Z = true) (h0 : Heap) (n0 : Nat) (Z0 : n0 ≤ h0.size) (p1 : Int32) (cs : Int32) (O0 : Old Z n0 h0) (hcs : ¬ cs.toInt = 0) (SS : Sta Z Z.heap "java/lang/String" "COMPACT_STRINGS" "Z" (.int cs)) :
    MetFree l (⟨"com/example/traceway/traceway/core/HeaderEqualsPinLaw", "mk", "(I)Ljava/lang/String;"⟩ : MethodName) (head1 [Jvm.Cond.code (⟨"com/example/traceway/traceway/core/HeaderEqualsPinLaw", "mk", "(I)Ljava/lang/String;"⟩ : MethodName) method_5_code 2 (some (.object "java/lang/String"))] ({ frames := 4, cells := 6, slots := 12, locals := 66 } : Room)) (fun a U => a = #[(.int p1)] ∧ Z.Warmed39 U.vm ∧ U.heap = h0 ∧ CHv Z own_EL U.vm h0) (fun _ _ _ _ _ => True) (fun _ U o U' => ∃ v L, o = .returned v ∧ (own_Qmet1 Z h0 n0 p1 cs) v U'.heap L ∧ CHr Z own_EL U.vm U.heap U'.vm U'.heap ∧ ReturnedEndW U o U' L ({ frames := 4, cells := 6, slots := 12, locals := 66 } : Room).cells ({ frames := 4, cells := 6, slots := 12, locals := 66 } : Room).slots) := by
  refine OwnK.metW (Q := (own_Qmet1 Z h0 n0 p1 cs)) (C := ({ frames := 4, cells := 6, slots := 12, locals := 66 } : Room).cells) (N := ({ frames := 4, cells := 6, slots := 12, locals := 66 } : Room).slots) (own_ew l Z a0 hw) own_pl_1 (own_ef_1 p1) ?_
  intro p e s m below meth c T0 X0 hx Yd0 hby hml hnm hret hlk e0
  have hZ := Yd0.z
  have hown := Yd0.o
  have N0 := Fr.nil n0
  have K0 := Keep.refl h0 []
  have lr := own_lenr p1
  have lit0 : (0 : Int32).toInt = 0 := by decide
  have lit1 : (1 : Int32).toInt = 1 := by decide
  have lit2 : (2 : Int32).toInt = 2 := by decide
  refine OwnK.iloadN X0 hx (hb hby own_d1_0) (pc' := 1) rfl (v := p1) rfl ?_
  refine OwnK.callS_ X0 hx hZ hown (y := (⟨"com/example/traceway/traceway/core/HeaderEqualsPinLaw", "len", "(I)I"⟩ : MethodName)) (hw _ (List.mem_of_getElem? (i := 7) rfl)) (hw _ (List.mem_of_getElem? (i := 8) rfl)) (hw _ (List.mem_of_getElem? (i := 5) rfl)) (hw _ (List.mem_of_getElem? (i := 9) rfl)) (by decide) (own_met2 l Z a0 hw h0 p1  ) (by decide) (W := 0) (by decide) e0 (by rw [hml]; rfl) own_pd_2 (argsL := [(.int p1)]) rfl (S := []) rfl (Nat.le_of_eq rfl) (hb hby own_d1_1) (pc' := 4) rfl (by decide) (by decide) (fun T1 v1 L1 X1 hQ1 => ?_)
  obtain ⟨rfl, e1, rfl⟩ := hQ1
  have N2 := Fr.app N0 (Fr.nil n0)
  refine OwnK.istoreN X1 hx (hb hby own_d1_4) (pc' := 5) rfl (Ls' := #[.val (.int p1), .val (.int (own_len p1))]) rfl ?_
  refine OwnK.iloadN X1 hx (hb hby own_d1_5) (pc' := 6) rfl (v := (own_len p1)) rfl ?_
  refine OwnK.if_ne X1 hx (hb hby own_d1_6) (by decide) (pcT := 20) (by decide) (pc' := 9) rfl (fun (hc3 : ¬ (own_len p1).toInt = 0) => ?_) (fun (hc3 : (own_len p1).toInt = 0) => ?_)
  · refine OwnK.iloadN X1 hx (hb hby own_d1_20) (pc' := 21) rfl (v := (own_len p1)) rfl ?_
    refine OwnK.iconst X1 hx (hb hby own_d1_21) (pc' := 22) rfl (v := (1 : Int32)) (by decide) ?_
    refine OwnK.icmp_ne X1 hx (hb hby own_d1_22) (by decide) (pcT := 43) (by decide) (pc' := 25) rfl (fun (hc4 : ¬ (own_len p1).toInt = 1) => ?_) (fun (hc4 : (own_len p1).toInt = 1) => ?_)
    · refine OwnK.new_ X1 hx hZ hown (hw _ (List.mem_of_getElem? (i := 14) rfl)) (hw _ (List.mem_of_getElem? (i := 15) rfl)) (hw _ (List.mem_of_getElem? (i := 16) rfl)) e1 (hb hby own_d1_43) (pc' := 46) rfl (by decide) (by decide) (fun T5 h5 a5 X5 e5 g5 E5 A5 D5 => ?_)
      have ge_a5 : n0 ≤ a5 := Nat.le_trans Z0 (Nat.le_of_eq g5.symm)
      have sz_a5 : h0.size ≤ a5 := Nat.le_trans K0.1 (Nat.le_of_eq g5.symm)
      have z6 : n0 ≤ h5.size := Nat.le_trans Z0 E5.1
      have K7 := K0.ext E5
      have O8 := O0.ext E5
      have Ye5 := Yd0.ext E5
      have f9 : Fld Z h5 a5 "java/lang/String" "value" "[B" .null := D5 (Or.inr (hw _ (List.mem_of_getElem? (i := 30) rfl))) (ty := (.array .byte)) (by decide)
      have f10 : Fld Z h5 a5 "java/lang/String" "coder" "B" (.int (0 : Int32)) := D5 (Or.inr (hw _ (List.mem_of_getElem? (i := 31) rfl))) (ty := .byte) (by decide)
      refine OwnK.dup X5 hx (hb hby own_d1_46) (pc' := 47) rfl rfl ?_
      refine OwnK.iconst X5 hx (hb hby own_d1_47) (pc' := 48) rfl (v := (2 : Int32)) (by decide) ?_
      refine OwnK.newP_ X5 hx hZ (hw _ (List.mem_of_getElem? (i := 17) rfl)) e5 (hb hby own_d1_48) (pc' := 50) rfl (n := (2 : Int32)) (by decide) (cap := 2) (by decide) (by decide) (by decide) (by decide) (ad := "[C") (by decide) (fun T11 h11 a11 k11 X11 e11 g11 E11 V11 Q11 => ?_)
      have q12 : a5 ≠ a11 := Nat.ne_of_lt (Nat.lt_of_lt_of_le A5.lt (Nat.le_of_eq g11.symm))
      have ge_a11 : n0 ≤ a11 := Nat.le_trans z6 (Nat.le_of_eq g11.symm)
      have sz_a11 : h0.size ≤ a11 := Nat.le_trans K7.1 (Nat.le_of_eq g11.symm)
      have z13 : n0 ≤ h11.size := Nat.le_trans z6 E11.1
      have K14 := K7.ext E11
      have f15 := A5.ext E11
      have f16 := f9.ext E11
      have f17 := f10.ext E11
      have O18 := O8.ext E11
      have Ye11 := Ye5.ext E11
      have f19 : Arv Z h11 a11 k11 .char (2 : Int32) [(.int (0 : Int32)), (.int (0 : Int32))] (.int (0 : Int32)) := V11.pad (pad_rep [] (.int (0 : Int32)) 2)
      refine OwnK.dup X11 hx (hb hby own_d1_50) (pc' := 51) rfl rfl ?_
      refine OwnK.iconst X11 hx (hb hby own_d1_51) (pc' := 52) rfl (v := (0 : Int32)) (by decide) ?_
      refine OwnK.iloadN X11 hx (hb hby own_d1_52) (pc' := 53) rfl (v := p1) rfl ?_
      refine OwnK.callS_ X11 hx hZ hown (y := (⟨"com/example/traceway/traceway/core/HeaderEqualsPinLaw", "c0", "(I)C"⟩ : MethodName)) (hw _ (List.mem_of_getElem? (i := 72) rfl)) (hw _ (List.mem_of_getElem? (i := 73) rfl)) (hw _ (List.mem_of_getElem? (i := 5) rfl)) (hw _ (List.mem_of_getElem? (i := 74) rfl)) (by decide) (own_met13 l Z a0 hw h11 p1  ) (by decide) (W := 5) (by decide) e11 (by rw [hml]; rfl) own_pd_1 (argsL := [(.int p1)]) rfl (S := [(.int (0 : Int32)), (.ref a11), (.ref a11), (.ref a5), (.ref a5)]) rfl (Nat.le_of_eq rfl) (hb hby own_d1_53) (pc' := 56) rfl (by decide) (by decide) (fun T20 v20 L20 X20 hQ20 => ?_)
      obtain ⟨rfl, e20, rfl⟩ := hQ20
      have N21 := Fr.app N2 (Fr.nil n0)
      refine OwnK.castore X20 hx hZ e20 f19 (i := 0) (by decide) (by first | decide | omega) (Nat.le_of_ble_eq_true rfl) (hb hby own_d1_56) (pc' := 57) rfl (fun T22 h22 X22 e22 W22 V22 => ?_)
      have S23 := (Safe.exa (EL := own_EL) Ye11.z.alike Q11 (by decide) (by decide))
      have f24 := f15.wr W22
      have f25 := f16.other W22 (Or.inl q12)
      have f26 := f17.other W22 (Or.inl q12)
      have f27 := Q11.wr W22
      have f28 : Arv Z h22 a11 _ .char (2 : Int32) [(.int (p1 &&& (255 : Int32))), (.int (0 : Int32))] (.int (0 : Int32)) := (by have q := V22; rw [own_narc (own_m255 _)] at q; exact q)
      have Yw22 := Ye11.wr W22 S23
      have N29 := Fr.snoc X22 N21 ge_a11
      have K30 := K14.wr W22 (Or.inr sz_a11)
      have O31 := O18.wr W22 ge_a11
      have z32 : n0 ≤ h22.size := Nat.le_trans z13 (Keep.of_wr W22).1
      refine OwnK.dup X22 hx (hb hby own_d1_57) (pc' := 58) rfl rfl ?_
      refine OwnK.iconst X22 hx (hb hby own_d1_58) (pc' := 59) rfl (v := (1 : Int32)) (by decide) ?_
      refine OwnK.iloadN X22 hx (hb hby own_d1_59) (pc' := 60) rfl (v := p1) rfl ?_
      refine OwnK.callS_ X22 hx hZ hown (y := (⟨"com/example/traceway/traceway/core/HeaderEqualsPinLaw", "c1", "(I)C"⟩ : MethodName)) (hw _ (List.mem_of_getElem? (i := 75) rfl)) (hw _ (List.mem_of_getElem? (i := 76) rfl)) (hw _ (List.mem_of_getElem? (i := 5) rfl)) (hw _ (List.mem_of_getElem? (i := 77) rfl)) (by decide) (own_met14 l Z a0 hw h22 p1  ) (by decide) (W := 5) (by decide) e22 (by rw [hml]; rfl) own_pd_1 (argsL := [(.int p1)]) rfl (S := [(.int (1 : Int32)), (.ref a11), (.ref a11), (.ref a5), (.ref a5)]) rfl (Nat.le_of_eq rfl) (hb hby own_d1_60) (pc' := 63) rfl (by decide) (by decide) (fun T33 v33 L33 X33 hQ33 => ?_)
      obtain ⟨rfl, e33, rfl⟩ := hQ33
      have N34 := Fr.app N29 (Fr.nil n0)
      refine OwnK.castore X33 hx hZ e33 f28 (i := 1) (by decide) (by first | decide | omega) (Nat.le_of_ble_eq_true rfl) (hb hby own_d1_63) (pc' := 64) rfl (fun T35 h35 X35 e35 W35 V35 => ?_)
      have S36 := (Safe.exa (EL := own_EL) Yw22.z.alike f27 (by decide) (by decide))
      have f37 := f24.wr W35
      have f38 := f25.other W35 (Or.inl q12)
      have f39 := f26.other W35 (Or.inl q12)
      have f40 := f27.wr W35
      have f41 : Arv Z h35 a11 _ .char (2 : Int32) [(.int (p1 &&& (255 : Int32))), (.int ((XT.ushr p1 (8 : Int32)) &&& (255 : Int32)))] (.int (0 : Int32)) := (by have q := V35; rw [own_narc (own_m255 _)] at q; exact q)
      have Yw35 := Yw22.wr W35 S36
      have N42 := Fr.snoc X35 N34 ge_a11
      have K43 := K30.wr W35 (Or.inr sz_a11)
      have O44 := O31.wr W35 ge_a11
      have z45 : n0 ≤ h35.size := Nat.le_trans z32 (Keep.of_wr W35).1
      refine OwnK.callI_ X35 hx hZ hown (y := (⟨"java/lang/String", "<init>", "([C)V"⟩ : MethodName)) (a := a5) rfl (hw _ (List.mem_of_getElem? (i := 18) rfl)) (hw _ (List.mem_of_getElem? (i := 19) rfl)) (hw _ (List.mem_of_getElem? (i := 16) rfl)) (hw _ (List.mem_of_getElem? (i := 20) rfl)) rfl (by decide) (own_met4_2 l Z a0 hw h35 n0 z45 a5 a11 _ (p1 &&& (255 : Int32)) ((XT.ushr p1 (8 : Int32)) &&& (255 : Int32)) cs O44 ge_a5 f37 f38 f39 f41 q12 (own_m255 _) (own_m255 _) hcs SS ) (by decide) (W := 1) (by decide) e35 (by rw [hml]; rfl) own_pd_11 (argsL := [(.ref a11)]) rfl (S := [(.ref a5)]) rfl (Nat.le_of_eq rfl) (hb hby own_d1_64) (pc' := 67) rfl (by decide) (by decide) (fun T46 v46 L46 X46 hQ46 => ?_)
      obtain ⟨t46, kt46, rfl, N46q, K46, Eq46, Cq46, Vq46, Bq46⟩ := hQ46
      have N47 := Fr.app N42 N46q
      have Yk46 := Yw35.keep K46 (sfS (own_safeS (EL := own_EL) Yw35.z f37 f38) sf0)
      have f48 := f37.keep K46
      have f49 := f41.keep K46 (ninS (Ne.symm q12) nin0)
      have f50 := f40.keep K46
      have z51 : n0 ≤ T46.heap.size := Nat.le_trans z45 K46.1
      have O52 := O44.keep K46 (allS ge_a5 all0)
      have K53 := K43.trans K46 (allS (Or.inr sz_a5) all0)
      refine OwnK.retAW_ X46 hx Yk46 hret rfl rfl hlk (hb hby own_d1_67) rfl (by decide) (by decide) ?_
      exact ⟨a5, t46, _, rfl, N47, K53, sz_a5, Eq46, Cq46, Vq46, own_arv Bq46 (Int32.toInt_inj.mp (by omega)) (fun i hi => by
        rcases (show i = 0 ∨ i = 1 by omega) with rfl | rfl <;> (show Value.int _ = Value.int _; rfl))⟩
    · refine OwnK.new_ X1 hx hZ hown (hw _ (List.mem_of_getElem? (i := 14) rfl)) (hw _ (List.mem_of_getElem? (i := 15) rfl)) (hw _ (List.mem_of_getElem? (i := 16) rfl)) e1 (hb hby own_d1_25) (pc' := 28) rfl (by decide) (by decide) (fun T54 h54 a54 X54 e54 g54 E54 A54 D54 => ?_)
      have ge_a54 : n0 ≤ a54 := Nat.le_trans Z0 (Nat.le_of_eq g54.symm)
      have sz_a54 : h0.size ≤ a54 := Nat.le_trans K0.1 (Nat.le_of_eq g54.symm)
      have z55 : n0 ≤ h54.size := Nat.le_trans Z0 E54.1
      have K56 := K0.ext E54
      have O57 := O0.ext E54
      have Ye54 := Yd0.ext E54
      have f58 : Fld Z h54 a54 "java/lang/String" "value" "[B" .null := D54 (Or.inr (hw _ (List.mem_of_getElem? (i := 30) rfl))) (ty := (.array .byte)) (by decide)
      have f59 : Fld Z h54 a54 "java/lang/String" "coder" "B" (.int (0 : Int32)) := D54 (Or.inr (hw _ (List.mem_of_getElem? (i := 31) rfl))) (ty := .byte) (by decide)
      refine OwnK.dup X54 hx (hb hby own_d1_28) (pc' := 29) rfl rfl ?_
      refine OwnK.iconst X54 hx (hb hby own_d1_29) (pc' := 30) rfl (v := (1 : Int32)) (by decide) ?_
      refine OwnK.newP_ X54 hx hZ (hw _ (List.mem_of_getElem? (i := 17) rfl)) e54 (hb hby own_d1_30) (pc' := 32) rfl (n := (1 : Int32)) (by decide) (cap := 1) (by decide) (by decide) (by decide) (by decide) (ad := "[C") (by decide) (fun T60 h60 a60 k60 X60 e60 g60 E60 V60 Q60 => ?_)
      have q61 : a54 ≠ a60 := Nat.ne_of_lt (Nat.lt_of_lt_of_le A54.lt (Nat.le_of_eq g60.symm))
      have ge_a60 : n0 ≤ a60 := Nat.le_trans z55 (Nat.le_of_eq g60.symm)
      have sz_a60 : h0.size ≤ a60 := Nat.le_trans K56.1 (Nat.le_of_eq g60.symm)
      have z62 : n0 ≤ h60.size := Nat.le_trans z55 E60.1
      have K63 := K56.ext E60
      have f64 := A54.ext E60
      have f65 := f58.ext E60
      have f66 := f59.ext E60
      have O67 := O57.ext E60
      have Ye60 := Ye54.ext E60
      have f68 : Arv Z h60 a60 k60 .char (1 : Int32) [(.int (0 : Int32))] (.int (0 : Int32)) := V60.pad (pad_rep [] (.int (0 : Int32)) 1)
      refine OwnK.dup X60 hx (hb hby own_d1_32) (pc' := 33) rfl rfl ?_
      refine OwnK.iconst X60 hx (hb hby own_d1_33) (pc' := 34) rfl (v := (0 : Int32)) (by decide) ?_
      refine OwnK.iloadN X60 hx (hb hby own_d1_34) (pc' := 35) rfl (v := p1) rfl ?_
      refine OwnK.callS_ X60 hx hZ hown (y := (⟨"com/example/traceway/traceway/core/HeaderEqualsPinLaw", "c0", "(I)C"⟩ : MethodName)) (hw _ (List.mem_of_getElem? (i := 72) rfl)) (hw _ (List.mem_of_getElem? (i := 73) rfl)) (hw _ (List.mem_of_getElem? (i := 5) rfl)) (hw _ (List.mem_of_getElem? (i := 74) rfl)) (by decide) (own_met13 l Z a0 hw h60 p1  ) (by decide) (W := 5) (by decide) e60 (by rw [hml]; rfl) own_pd_1 (argsL := [(.int p1)]) rfl (S := [(.int (0 : Int32)), (.ref a60), (.ref a60), (.ref a54), (.ref a54)]) rfl (Nat.le_of_eq rfl) (hb hby own_d1_35) (pc' := 38) rfl (by decide) (by decide) (fun T69 v69 L69 X69 hQ69 => ?_)
      obtain ⟨rfl, e69, rfl⟩ := hQ69
      have N70 := Fr.app N2 (Fr.nil n0)
      refine OwnK.castore X69 hx hZ e69 f68 (i := 0) (by decide) (by first | decide | omega) (Nat.le_of_ble_eq_true rfl) (hb hby own_d1_38) (pc' := 39) rfl (fun T71 h71 X71 e71 W71 V71 => ?_)
      have S72 := (Safe.exa (EL := own_EL) Ye60.z.alike Q60 (by decide) (by decide))
      have f73 := f64.wr W71
      have f74 := f65.other W71 (Or.inl q61)
      have f75 := f66.other W71 (Or.inl q61)
      have f76 := Q60.wr W71
      have f77 : Arv Z h71 a60 _ .char (1 : Int32) [(.int (p1 &&& (255 : Int32)))] (.int (0 : Int32)) := (by have q := V71; rw [own_narc (own_m255 _)] at q; exact q)
      have Yw71 := Ye60.wr W71 S72
      have N78 := Fr.snoc X71 N70 ge_a60
      have K79 := K63.wr W71 (Or.inr sz_a60)
      have O80 := O67.wr W71 ge_a60
      have z81 : n0 ≤ h71.size := Nat.le_trans z62 (Keep.of_wr W71).1
      refine OwnK.callI_ X71 hx hZ hown (y := (⟨"java/lang/String", "<init>", "([C)V"⟩ : MethodName)) (a := a54) rfl (hw _ (List.mem_of_getElem? (i := 18) rfl)) (hw _ (List.mem_of_getElem? (i := 19) rfl)) (hw _ (List.mem_of_getElem? (i := 16) rfl)) (hw _ (List.mem_of_getElem? (i := 20) rfl)) rfl (by decide) (own_met4_1 l Z a0 hw h71 n0 z81 a54 a60 _ (p1 &&& (255 : Int32)) cs O80 ge_a54 f73 f74 f75 f77 q61 (own_m255 _) hcs SS ) (by decide) (W := 1) (by decide) e71 (by rw [hml]; rfl) own_pd_11 (argsL := [(.ref a60)]) rfl (S := [(.ref a54)]) rfl (Nat.le_of_eq rfl) (hb hby own_d1_39) (pc' := 42) rfl (by decide) (by decide) (fun T82 v82 L82 X82 hQ82 => ?_)
      obtain ⟨t82, kt82, rfl, N82q, K82, Eq82, Cq82, Vq82, Bq82⟩ := hQ82
      have N83 := Fr.app N78 N82q
      have Yk82 := Yw71.keep K82 (sfS (own_safeS (EL := own_EL) Yw71.z f73 f74) sf0)
      have f84 := f73.keep K82
      have f85 := f77.keep K82 (ninS (Ne.symm q61) nin0)
      have f86 := f76.keep K82
      have z87 : n0 ≤ T82.heap.size := Nat.le_trans z81 K82.1
      have O88 := O80.keep K82 (allS ge_a54 all0)
      have K89 := K79.trans K82 (allS (Or.inr sz_a54) all0)
      refine OwnK.retAW_ X82 hx Yk82 hret rfl rfl hlk (hb hby own_d1_42) rfl (by decide) (by decide) ?_
      exact ⟨a54, t82, _, rfl, N83, K89, sz_a54, Eq82, Cq82, Vq82, own_arv Bq82 (Int32.toInt_inj.mp (by omega)) (fun i hi => by
        obtain rfl : i = 0 := by omega
        show Value.int _ = Value.int _; rfl)⟩
  · refine OwnK.new_ X1 hx hZ hown (hw _ (List.mem_of_getElem? (i := 14) rfl)) (hw _ (List.mem_of_getElem? (i := 15) rfl)) (hw _ (List.mem_of_getElem? (i := 16) rfl)) e1 (hb hby own_d1_9) (pc' := 12) rfl (by decide) (by decide) (fun T90 h90 a90 X90 e90 g90 E90 A90 D90 => ?_)
    have ge_a90 : n0 ≤ a90 := Nat.le_trans Z0 (Nat.le_of_eq g90.symm)
    have sz_a90 : h0.size ≤ a90 := Nat.le_trans K0.1 (Nat.le_of_eq g90.symm)
    have z91 : n0 ≤ h90.size := Nat.le_trans Z0 E90.1
    have K92 := K0.ext E90
    have O93 := O0.ext E90
    have Ye90 := Yd0.ext E90
    have f94 : Fld Z h90 a90 "java/lang/String" "value" "[B" .null := D90 (Or.inr (hw _ (List.mem_of_getElem? (i := 30) rfl))) (ty := (.array .byte)) (by decide)
    have f95 : Fld Z h90 a90 "java/lang/String" "coder" "B" (.int (0 : Int32)) := D90 (Or.inr (hw _ (List.mem_of_getElem? (i := 31) rfl))) (ty := .byte) (by decide)
    refine OwnK.dup X90 hx (hb hby own_d1_12) (pc' := 13) rfl rfl ?_
    refine OwnK.iconst X90 hx (hb hby own_d1_13) (pc' := 14) rfl (v := (0 : Int32)) (by decide) ?_
    refine OwnK.newP_ X90 hx hZ (hw _ (List.mem_of_getElem? (i := 17) rfl)) e90 (hb hby own_d1_14) (pc' := 16) rfl (n := (0 : Int32)) (by decide) (cap := 0) (by decide) (by decide) (by decide) (by decide) (ad := "[C") (by decide) (fun T96 h96 a96 k96 X96 e96 g96 E96 V96 Q96 => ?_)
    have q97 : a90 ≠ a96 := Nat.ne_of_lt (Nat.lt_of_lt_of_le A90.lt (Nat.le_of_eq g96.symm))
    have ge_a96 : n0 ≤ a96 := Nat.le_trans z91 (Nat.le_of_eq g96.symm)
    have sz_a96 : h0.size ≤ a96 := Nat.le_trans K92.1 (Nat.le_of_eq g96.symm)
    have z98 : n0 ≤ h96.size := Nat.le_trans z91 E96.1
    have K99 := K92.ext E96
    have f100 := A90.ext E96
    have f101 := f94.ext E96
    have f102 := f95.ext E96
    have O103 := O93.ext E96
    have Ye96 := Ye90.ext E96
    have f104 : Arv Z h96 a96 k96 .char (0 : Int32) [] (.int (0 : Int32)) := V96.pad (pad_rep [] (.int (0 : Int32)) 0)
    refine OwnK.callIW_ X96 hx Ye96 (y := (⟨"java/lang/String", "<init>", "([C)V"⟩ : MethodName)) (a := a90) rfl (hw _ (List.mem_of_getElem? (i := 18) rfl)) (hw _ (List.mem_of_getElem? (i := 19) rfl)) (hw _ (List.mem_of_getElem? (i := 16) rfl)) (hw _ (List.mem_of_getElem? (i := 20) rfl)) rfl (by decide) (own_met4_0 l Z a0 hw h96 n0 z98 a90 a96 _  ge_a90 f100 f101 f102 f104 q97 ) (by decide) (W := 1) (by decide) e96 (by rw [hml]; rfl) own_pd_11 (argsL := [(.ref a96)]) rfl (S := [(.ref a90)]) rfl (Nat.le_of_eq rfl) (hb hby own_d1_16) (pc' := 19) rfl (by decide) (by decide) (fun T105 v105 L105 X105 Yd105 hQ105 => ?_)
    have hZ := Yd105.z
    have hown := Yd105.o
    obtain ⟨t105, kt105, rfl, N105q, K105, Eq105, Cq105, Vq105, Bq105⟩ := hQ105
    have N106 := Fr.app N2 N105q
    have f107 := f100.keep K105
    have f108 := f104.keep K105 (ninS (Ne.symm q97) nin0)
    have f109 := Q96.keep K105
    have z110 : n0 ≤ T105.heap.size := Nat.le_trans z98 K105.1
    have O111 := O103.keep K105 (allS ge_a90 all0)
    have K112 := K99.trans K105 (allS (Or.inr sz_a90) all0)
    refine OwnK.retAW_ X105 hx Yd105 hret rfl rfl hlk (hb hby own_d1_19) rfl (by decide) (by decide) ?_
    exact ⟨a90, t105, _, rfl, N106, K112, sz_a90, Eq105, Cq105, Vq105, own_arv Bq105 (Int32.toInt_inj.mp (by omega)) (fun i hi => by omega)⟩
def own_Qmet8 (h0 : Heap) (p1 : Addr) (p2 : Addr) (v : Option Value) (h : Heap) (L : List Loc) : Prop := v = some (.ref p1) ∧ h = h0 ∧ L = []
set_option maxRecDepth 65536 in
set_option maxHeartbeats 40000000 in
theorem own_met8 (l : Launch) (Z : State) (a0 : Array Value) (hw : ∀ d ∈ tables_1, d.before a0 Z = true) (h0 : Heap) (p1 : Addr) (p2 : Addr)  :
    MetFree l (⟨"java/util/Objects", "requireNonNull", "(Ljava/lang/Object;Ljava/lang/String;)Ljava/lang/Object;"⟩ : MethodName) (head1 [Jvm.Cond.code (⟨"java/util/Objects", "requireNonNull", "(Ljava/lang/Object;Ljava/lang/String;)Ljava/lang/Object;"⟩ : MethodName) jdk_31_method_11_code 2 (some (.object "java/lang/Object"))] ({ frames := 0, cells := 0, slots := 0, locals := 0 } : Room)) (fun a U => a = #[(.ref p1), (.ref p2)] ∧ Z.Warmed39 U.vm ∧ U.heap = h0) (fun _ _ _ _ _ => True) (fun _ U o U' => ∃ v L, o = .returned v ∧ (own_Qmet8 h0 p1 p2 ) v U'.heap L ∧ FrameEnd U o U' L ({ frames := 0, cells := 0, slots := 0, locals := 0 } : Room).cells ({ frames := 0, cells := 0, slots := 0, locals := 0 } : Room).slots) := by
  refine OwnK.met (Q := (own_Qmet8 h0 p1 p2 )) (C := ({ frames := 0, cells := 0, slots := 0, locals := 0 } : Room).cells) (N := ({ frames := 0, cells := 0, slots := 0, locals := 0 } : Room).slots) own_pl_8 (own_ef_8 p1 p2) ?_
  intro p e s m below meth c T0 X0 hx hZ hby hml hown hnm hret hlk e0
  refine OwnK.aloadN X0 hx (hb hby own_d8_0) (pc' := 1) rfl (v := (.ref p1)) rfl rfl ?_
  refine OwnK.ifnonnull_ref X0 hx (hb hby own_d8_1) (by decide) (pcT := 13) (by decide) (pc' := 4) rfl ?_
  refine OwnK.aloadN X0 hx (hb hby own_d8_13) (pc' := 14) rfl (v := (.ref p1)) rfl rfl ?_
  refine OwnK.retA_ X0 hx hret rfl rfl hlk (hb hby own_d8_14) (by decide) (by decide) ?_
  exact ⟨by rfl, e0, rfl⟩
def own_Qmet7 (Z : State) (h0 : Heap) (n0 : Nat) (p1 : Addr) (p2 : Addr) (p3 : Addr) (v : Option Value) (h : Heap) (L : List Loc) : Prop := v = none ∧ Fr n0 L ∧ Keep h0 h [p1] ∧ Exa Z h p1 "com/example/traceway/traceway/core/Header" ∧ Fld Z h p1 "com/example/traceway/traceway/core/Header" "name" "Ljava/lang/String;" (.ref p2) ∧ Fld Z h p1 "com/example/traceway/traceway/core/Header" "value" "Ljava/lang/String;" (.ref p3)
set_option maxRecDepth 65536 in
set_option maxHeartbeats 40000000 in
theorem own_met7 (l : Launch) (Z : State) (a0 : Array Value) (hw : ∀ d ∈ tables_1, d.before a0 Z = true) (h0 : Heap) (n0 : Nat) (Z0 : n0 ≤ h0.size) (p1 : Addr) (p2 : Addr) (p3 : Addr)  (ge_p1 : n0 ≤ p1) (E0 : Exa Z h0 p1 "com/example/traceway/traceway/core/Header") (F0 : Fld Z h0 p1 "com/example/traceway/traceway/core/Header" "name" "Ljava/lang/String;" .null) (F1 : Fld Z h0 p1 "com/example/traceway/traceway/core/Header" "value" "Ljava/lang/String;" .null) (Ea : Exa Z h0 p2 "java/lang/String") (Eb : Exa Z h0 p3 "java/lang/String") :
    MetFree l (⟨"com/example/traceway/traceway/core/Header", "<init>", "(Ljava/lang/String;Ljava/lang/String;)V"⟩ : MethodName) (head1 [Jvm.Cond.code (⟨"com/example/traceway/traceway/core/Header", "<init>", "(Ljava/lang/String;Ljava/lang/String;)V"⟩ : MethodName) prog_15_method_1_code 3 none] ({ frames := 1, cells := 4, slots := 44, locals := 14 } : Room)) (fun a U => a = #[(.ref p1), (.ref p2), (.ref p3)] ∧ Z.Warmed39 U.vm ∧ U.heap = h0 ∧ CHv Z own_EL U.vm h0) (fun _ _ _ _ _ => True) (fun _ U o U' => ∃ v L, o = .returned v ∧ (own_Qmet7 Z h0 n0 p1 p2 p3 ) v U'.heap L ∧ CHr Z own_EL U.vm U.heap U'.vm U'.heap ∧ ReturnedEndW U o U' L ({ frames := 1, cells := 4, slots := 44, locals := 14 } : Room).cells ({ frames := 1, cells := 4, slots := 44, locals := 14 } : Room).slots) := by
  refine OwnK.metW (Q := (own_Qmet7 Z h0 n0 p1 p2 p3 )) (C := ({ frames := 1, cells := 4, slots := 44, locals := 14 } : Room).cells) (N := ({ frames := 1, cells := 4, slots := 44, locals := 14 } : Room).slots) (own_ew l Z a0 hw) own_pl_7 (own_ef_7 p1 p2 p3) ?_
  intro p e s m below meth c T0 X0 hx Yd0 hby hml hnm hret hlk e0
  have hZ := Yd0.z
  have hown := Yd0.o
  have N0 := Fr.nil n0
  have K0 := Keep.refl h0 [p1]
  refine OwnK.aloadN X0 hx (hb hby own_d7_0) (pc' := 1) rfl (v := (.ref p1)) rfl rfl ?_
  refine OwnK.initO_ X0 hx hZ hown (hw _ (List.mem_of_getElem? (i := 39) rfl)) (hw _ (List.mem_of_getElem? (i := 26) rfl)) (hw _ (List.mem_of_getElem? (i := 27) rfl)) e0 (by rw [hml]; rfl) (hb hby own_d7_1) (pc' := 4) rfl (by decide) (W := 0) (Nat.le_of_eq rfl) (by decide) (fun T1 X1 e1 => ?_)
  refine OwnK.aloadN X1 hx (hb hby own_d7_4) (pc' := 5) rfl (v := (.ref p1)) rfl rfl ?_
  refine OwnK.aloadN X1 hx (hb hby own_d7_5) (pc' := 6) rfl (v := (.ref p2)) rfl rfl ?_
  refine OwnK.ldcO_ X1 hx Yd0 (hw _ (List.mem_of_getElem? (i := 40) rfl)) (own_sa l Z a0 hw) e1 (hb hby own_d7_6) (pc' := 8) rfl (n := 16) (by decide) (by decide) (by decide) (by decide) (fun T2 h2 a2 X2 e2 E2 Yd2 => ?_)
  have z3 : n0 ≤ h2.size := Nat.le_trans Z0 E2.1
  have K4 := K0.ext E2
  have f5 := E0.ext E2
  have f6 := F0.ext E2
  have f7 := F1.ext E2
  have f8 := Ea.ext E2
  have f9 := Eb.ext E2
  have hZ := Yd2.z
  have hown := Yd2.o
  refine OwnK.callS_ X2 hx hZ hown (y := (⟨"java/util/Objects", "requireNonNull", "(Ljava/lang/Object;Ljava/lang/String;)Ljava/lang/Object;"⟩ : MethodName)) (hw _ (List.mem_of_getElem? (i := 41) rfl)) (hw _ (List.mem_of_getElem? (i := 42) rfl)) (hw _ (List.mem_of_getElem? (i := 43) rfl)) (hw _ (List.mem_of_getElem? (i := 44) rfl)) (by decide) (own_met8 l Z a0 hw h2 p2 a2  ) (by decide) (W := 1) (by decide) e2 (by rw [hml]; rfl) own_pd_7 (argsL := [(.ref p2), (.ref a2)]) rfl (S := [(.ref p1)]) rfl (Nat.le_of_eq rfl) (hb hby own_d7_8) (pc' := 11) rfl (by decide) (by decide) (fun T10 v10 L10 X10 hQ10 => ?_)
  obtain ⟨rfl, e10, rfl⟩ := hQ10
  have N11 := Fr.app N0 (Fr.nil n0)
  refine OwnK.cast_ X10 hx hZ hown (hw _ (List.mem_of_getElem? (i := 45) rfl)) e10 (Ins.self f8) (hb hby own_d7_11) (pc' := 14) rfl (fun T12 X12 e12 => ?_)
  refine OwnK.putF_ X12 hx hZ hown (hw _ (List.mem_of_getElem? (i := 46) rfl)) Via.refl e12 f6 f5 (Or.inr ⟨(hw _ (List.mem_of_getElem? (i := 47) rfl)), rfl, hnm⟩) (hw _ (List.mem_of_getElem? (i := 1) rfl)) (ty := (.object "java/lang/String")) (by decide) (v' := (.ref p2)) rfl rfl (hb hby own_d7_14) (pc' := 17) rfl (fun T13 h13 X13 e13 W13 => ?_)
  have S14 := (Safe.exa (EL := own_EL) Yd2.z.alike f5 (by decide) (by decide))
  have f15 := f6.same W13
  have f16 := f5.wr W13
  have f17 := f7.other W13 (Or.inr (slot_ne (Or.inr (hw _ (List.mem_of_getElem? (i := 50) rfl))) (Or.inr (hw _ (List.mem_of_getElem? (i := 47) rfl))) (by decide) (t := (.object "java/lang/String")) (t' := (.object "java/lang/String")) (by decide) (by decide)))
  have f18 := f8.wr W13
  have f19 := f9.wr W13
  have Yw13 := Yd2.wr W13 S14
  have N20 := Fr.snoc X13 N11 ge_p1
  have K21 := K4.wr W13 (Or.inl (List.mem_of_getElem? (i := 0) rfl))
  have z22 : n0 ≤ h13.size := Nat.le_trans z3 (Keep.of_wr W13).1
  refine OwnK.aloadN X13 hx (hb hby own_d7_17) (pc' := 18) rfl (v := (.ref p1)) rfl rfl ?_
  refine OwnK.aloadN X13 hx (hb hby own_d7_18) (pc' := 19) rfl (v := (.ref p3)) rfl rfl ?_
  refine OwnK.ldcO_ X13 hx Yw13 (hw _ (List.mem_of_getElem? (i := 48) rfl)) (own_sa l Z a0 hw) e13 (hb hby own_d7_19) (pc' := 21) rfl (n := 20) (by decide) (by decide) (by decide) (by decide) (fun T23 h23 a23 X23 e23 E23 Yd23 => ?_)
  have z24 : n0 ≤ h23.size := Nat.le_trans z22 E23.1
  have K25 := K21.ext E23
  have f26 := f16.ext E23
  have f27 := f15.ext E23
  have f28 := f17.ext E23
  have f29 := f18.ext E23
  have f30 := f19.ext E23
  have hZ := Yd23.z
  have hown := Yd23.o
  refine OwnK.callS_ X23 hx hZ hown (y := (⟨"java/util/Objects", "requireNonNull", "(Ljava/lang/Object;Ljava/lang/String;)Ljava/lang/Object;"⟩ : MethodName)) (hw _ (List.mem_of_getElem? (i := 41) rfl)) (hw _ (List.mem_of_getElem? (i := 42) rfl)) (hw _ (List.mem_of_getElem? (i := 43) rfl)) (hw _ (List.mem_of_getElem? (i := 44) rfl)) (by decide) (own_met8 l Z a0 hw h23 p3 a23  ) (by decide) (W := 1) (by decide) e23 (by rw [hml]; rfl) own_pd_7 (argsL := [(.ref p3), (.ref a23)]) rfl (S := [(.ref p1)]) rfl (Nat.le_of_eq rfl) (hb hby own_d7_21) (pc' := 24) rfl (by decide) (by decide) (fun T31 v31 L31 X31 hQ31 => ?_)
  obtain ⟨rfl, e31, rfl⟩ := hQ31
  have N32 := Fr.app N20 (Fr.nil n0)
  refine OwnK.cast_ X31 hx hZ hown (hw _ (List.mem_of_getElem? (i := 45) rfl)) e31 (Ins.self f30) (hb hby own_d7_24) (pc' := 27) rfl (fun T33 X33 e33 => ?_)
  refine OwnK.putF_ X33 hx hZ hown (hw _ (List.mem_of_getElem? (i := 49) rfl)) Via.refl e33 f28 f26 (Or.inr ⟨(hw _ (List.mem_of_getElem? (i := 50) rfl)), rfl, hnm⟩) (hw _ (List.mem_of_getElem? (i := 1) rfl)) (ty := (.object "java/lang/String")) (by decide) (v' := (.ref p3)) rfl rfl (hb hby own_d7_27) (pc' := 30) rfl (fun T34 h34 X34 e34 W34 => ?_)
  have S35 := (Safe.exa (EL := own_EL) Yd23.z.alike f26 (by decide) (by decide))
  have f36 := f28.same W34
  have f37 := f26.wr W34
  have f38 := f27.other W34 (Or.inr (slot_ne (Or.inr (hw _ (List.mem_of_getElem? (i := 47) rfl))) (Or.inr (hw _ (List.mem_of_getElem? (i := 50) rfl))) (by decide) (t := (.object "java/lang/String")) (t' := (.object "java/lang/String")) (by decide) (by decide)))
  have f39 := f29.wr W34
  have f40 := f30.wr W34
  have Yw34 := Yd23.wr W34 S35
  have N41 := Fr.snoc X34 N32 ge_p1
  have K42 := K25.wr W34 (Or.inl (List.mem_of_getElem? (i := 0) rfl))
  have z43 : n0 ≤ h34.size := Nat.le_trans z24 (Keep.of_wr W34).1
  refine OwnK.retVW_ X34 hx Yw34 hret hlk (hb hby own_d7_30) e34 (by decide) (by decide) ?_
  rw [show T34.heap = h34 from e34]
  exact ⟨rfl, N41, K42, f37, f38, f36⟩
def own_Qmet10_n (h0 : Heap) (p1 : Addr) (v : Option Value) (h : Heap) (L : List Loc) : Prop := v = some (.int (0 : Int32)) ∧ h = h0 ∧ L = []
set_option maxRecDepth 65536 in
set_option maxHeartbeats 40000000 in
theorem own_met10_n (l : Launch) (Z : State) (a0 : Array Value) (hw : ∀ d ∈ tables_1, d.before a0 Z = true) (h0 : Heap) (p1 : Addr)  :
    MetFree l (⟨"com/example/traceway/traceway/core/Header", "equals", "(Ljava/lang/Object;)Z"⟩ : MethodName) (head1 [Jvm.Cond.code (⟨"com/example/traceway/traceway/core/Header", "equals", "(Ljava/lang/Object;)Z"⟩ : MethodName) prog_15_method_7_code 3 (some .boolean)] ({ frames := 0, cells := 0, slots := 0, locals := 0 } : Room)) (fun a U => a = #[(.ref p1), .null] ∧ Z.Warmed39 U.vm ∧ U.heap = h0) (fun _ _ _ _ _ => True) (fun _ U o U' => ∃ v L, o = .returned v ∧ (own_Qmet10_n h0 p1 ) v U'.heap L ∧ FrameEnd U o U' L ({ frames := 0, cells := 0, slots := 0, locals := 0 } : Room).cells ({ frames := 0, cells := 0, slots := 0, locals := 0 } : Room).slots) := by
  refine OwnK.met (Q := (own_Qmet10_n h0 p1 )) (C := ({ frames := 0, cells := 0, slots := 0, locals := 0 } : Room).cells) (N := ({ frames := 0, cells := 0, slots := 0, locals := 0 } : Room).slots) own_pl_10 (own_ef_10n p1) ?_
  intro p e s m below meth c T0 X0 hx hZ hby hml hown hnm hret hlk e0
  refine OwnK.aloadN X0 hx (hb hby own_d10_0) (pc' := 1) rfl (v := .null) rfl rfl ?_
  refine OwnK.instNull X0 hx (hb hby own_d10_1) (pc' := 4) rfl ?_
  refine OwnK.if_eq X0 hx (hb hby own_d10_4) (by decide) (pcT := 15) (by decide) (pc' := 7) rfl (fun hc4 => ?_) (fun (hc4 : ¬ 0 = 0) => absurd hc4 (by decide))
  refine OwnK.iconst X0 hx (hb hby own_d10_15) (pc' := 16) rfl (v := (0 : Int32)) (by decide) ?_
  refine OwnK.retN_ X0 hx hret (by simp) hlk (hb hby own_d10_16) (by decide) (by decide) ?_
  exact ⟨by rw [own_nar0], e0, rfl⟩
def own_Qmet10_s (h0 : Heap) (p1 : Addr) (p2 : Addr) (v : Option Value) (h : Heap) (L : List Loc) : Prop := v = some (.int (0 : Int32)) ∧ h = h0 ∧ L = []
set_option maxRecDepth 65536 in
set_option maxHeartbeats 40000000 in
theorem own_met10_s (l : Launch) (Z : State) (a0 : Array Value) (hw : ∀ d ∈ tables_1, d.before a0 Z = true) (h0 : Heap) (p1 : Addr) (p2 : Addr)  (Es : Exa Z h0 p2 "java/lang/String") :
    MetFree l (⟨"com/example/traceway/traceway/core/Header", "equals", "(Ljava/lang/Object;)Z"⟩ : MethodName) (head1 [Jvm.Cond.code (⟨"com/example/traceway/traceway/core/Header", "equals", "(Ljava/lang/Object;)Z"⟩ : MethodName) prog_15_method_7_code 3 (some .boolean)] ({ frames := 0, cells := 0, slots := 0, locals := 0 } : Room)) (fun a U => a = #[(.ref p1), (.ref p2)] ∧ Z.Warmed39 U.vm ∧ U.heap = h0) (fun _ _ _ _ _ => True) (fun _ U o U' => ∃ v L, o = .returned v ∧ (own_Qmet10_s h0 p1 p2 ) v U'.heap L ∧ FrameEnd U o U' L ({ frames := 0, cells := 0, slots := 0, locals := 0 } : Room).cells ({ frames := 0, cells := 0, slots := 0, locals := 0 } : Room).slots) := by
  refine OwnK.met (Q := (own_Qmet10_s h0 p1 p2 )) (C := ({ frames := 0, cells := 0, slots := 0, locals := 0 } : Room).cells) (N := ({ frames := 0, cells := 0, slots := 0, locals := 0 } : Room).slots) own_pl_10 (own_ef_10 p1 p2) ?_
  intro p e s m below meth c T0 X0 hx hZ hby hml hown hnm hret hlk e0
  refine OwnK.aloadN X0 hx (hb hby own_d10_0) (pc' := 1) rfl (v := (.ref p2)) rfl rfl ?_
  refine OwnK.instNo_ X0 hx hZ hown (hw _ (List.mem_of_getElem? (i := 59) rfl)) e0 Es (own_no (hw _ (List.mem_of_getElem? (i := 88) rfl)) (hw _ (List.mem_of_getElem? (i := 89) rfl)) (hw _ (List.mem_of_getElem? (i := 1) rfl)) (by decide) (by decide)) (hb hby own_d10_1) (pc' := 4) rfl (fun T1 X1 e1 => ?_)
  refine OwnK.if_eq X1 hx (hb hby own_d10_4) (by decide) (pcT := 15) (by decide) (pc' := 7) rfl (fun hc4 => ?_) (fun (hc4 : ¬ 0 = 0) => absurd hc4 (by decide))
  refine OwnK.iconst X1 hx (hb hby own_d10_15) (pc' := 16) rfl (v := (0 : Int32)) (by decide) ?_
  refine OwnK.retN_ X1 hx hret (by simp) hlk (hb hby own_d10_16) (by decide) (by decide) ?_
  exact ⟨by rw [own_nar0], e1, rfl⟩
def own_Qmet10 (h0 : Heap) (p1 : Addr) (p2 : Addr) (n0 : Nat) (sa sb sc sd ta tb tc td : Addr) (kA kB kC kD : ClassId) (za xa0 xa1 zb xb0 xb1 zc xc0 xc1 zd xd0 xd1 cs : Int32) (v : Option Value) (h : Heap) (L : List Loc) : Prop := v = some (.int (own_both (own_eqI za.toInt xa0.toInt xa1.toInt zc.toInt xc0.toInt xc1.toInt) (own_eqI zb.toInt xb0.toInt xb1.toInt zd.toInt xd0.toInt xd1.toInt))) ∧ h = h0 ∧ L = []
set_option maxRecDepth 65536 in
set_option maxHeartbeats 40000000 in
theorem own_met10 (l : Launch) (Z : State) (a0 : Array Value) (hw : ∀ d ∈ tables_1, d.before a0 Z = true) (h0 : Heap) (p1 : Addr) (p2 : Addr) (n0 : Nat) (sa sb sc sd ta tb tc td : Addr) (kA kB kC kD : ClassId) (za xa0 xa1 zb xb0 xb1 zc xc0 xc1 zd xd0 xd1 cs : Int32) (O0 : Old Z n0 h0) (Ea : Exa Z h0 p1 "com/example/traceway/traceway/core/Header") (Eb : Exa Z h0 p2 "com/example/traceway/traceway/core/Header") (Fa : Fld Z h0 p1 "com/example/traceway/traceway/core/Header" "name" "Ljava/lang/String;" (.ref sa)) (Fb : Fld Z h0 p1 "com/example/traceway/traceway/core/Header" "value" "Ljava/lang/String;" (.ref sb)) (Fc : Fld Z h0 p2 "com/example/traceway/traceway/core/Header" "name" "Ljava/lang/String;" (.ref sc)) (Fd : Fld Z h0 p2 "com/example/traceway/traceway/core/Header" "value" "Ljava/lang/String;" (.ref sd)) (Ga : own_Sg Z h0 sa ta kA za [.int xa0, .int xa1]) (Gb : own_Sg Z h0 sb tb kB zb [.int xb0, .int xb1]) (Gc : own_Sg Z h0 sc tc kC zc [.int xc0, .int xc1]) (Gd : own_Sg Z h0 sd td kD zd [.int xd0, .int xd1]) (hza : za.toInt ≤ 2) (hzb : zb.toInt ≤ 2) (hzc : zc.toInt ≤ 2) (hzd : zd.toInt ≤ 2) (hcs : ¬ cs.toInt = 0) (SS : Sta Z Z.heap "java/lang/String" "COMPACT_STRINGS" "Z" (.int cs)) :
    MetFree l (⟨"com/example/traceway/traceway/core/Header", "equals", "(Ljava/lang/Object;)Z"⟩ : MethodName) (head1 [Jvm.Cond.code (⟨"com/example/traceway/traceway/core/Header", "equals", "(Ljava/lang/Object;)Z"⟩ : MethodName) prog_15_method_7_code 3 (some .boolean)] ({ frames := 2, cells := 0, slots := 0, locals := 28 } : Room)) (fun a U => a = #[(.ref p1), (.ref p2)] ∧ Z.Warmed39 U.vm ∧ U.heap = h0) (fun _ _ _ _ _ => True) (fun _ U o U' => ∃ v L, o = .returned v ∧ (own_Qmet10 h0 p1 p2 n0 sa sb sc sd ta tb tc td kA kB kC kD za xa0 xa1 zb xb0 xb1 zc xc0 xc1 zd xd0 xd1 cs) v U'.heap L ∧ FrameEnd U o U' L ({ frames := 2, cells := 0, slots := 0, locals := 28 } : Room).cells ({ frames := 2, cells := 0, slots := 0, locals := 28 } : Room).slots) := by
  refine OwnK.met (Q := (own_Qmet10 h0 p1 p2 n0 sa sb sc sd ta tb tc td kA kB kC kD za xa0 xa1 zb xb0 xb1 zc xc0 xc1 zd xd0 xd1 cs)) (C := ({ frames := 2, cells := 0, slots := 0, locals := 28 } : Room).cells) (N := ({ frames := 2, cells := 0, slots := 0, locals := 28 } : Room).slots) own_pl_10 (own_ef_10 p1 p2) ?_
  intro p e s m below meth c T0 X0 hx hZ hby hml hown hnm hret hlk e0
  obtain ⟨Es1, Cs1, Vs1, Bs1⟩ := Ga
  obtain ⟨Es2, Cs2, Vs2, Bs2⟩ := Gb
  obtain ⟨Es3, Cs3, Vs3, Bs3⟩ := Gc
  obtain ⟨Es4, Cs4, Vs4, Bs4⟩ := Gd
  refine OwnK.aloadN X0 hx (hb hby own_d10_0) (pc' := 1) rfl (v := (.ref p2)) rfl rfl ?_
  refine OwnK.instYes X0 hx hZ hown (hw _ (List.mem_of_getElem? (i := 59) rfl)) e0 (Ins.self Eb) (hb hby own_d10_1) (pc' := 4) rfl (fun T5 X5 e5 => ?_)
  refine OwnK.if_eq X5 hx (hb hby own_d10_4) (by decide) (pcT := 15) (by decide) (pc' := 7) rfl (fun (hc4 : 1 = 0) => absurd hc4 (by decide)) (fun hc4 => ?_)
  refine OwnK.aloadN X5 hx (hb hby own_d10_7) (pc' := 8) rfl (v := (.ref p2)) rfl rfl ?_
  refine OwnK.cast_ X5 hx hZ hown (hw _ (List.mem_of_getElem? (i := 59) rfl)) e5 (Ins.self Eb) (hb hby own_d10_8) (pc' := 11) rfl (fun T6 X6 e6 => ?_)
  refine OwnK.astoreN X6 hx (hb hby own_d10_11) (pc' := 12) rfl rfl (Ls' := #[.val (.ref p1), .val (.ref p2), .val (.ref p2)]) rfl ?_
  refine OwnK.goto_ X6 hx (hb hby own_d10_12) (by decide) (pc' := 17) (by decide) ?_
  refine OwnK.aloadN X6 hx (hb hby own_d10_17) (pc' := 18) rfl (v := (.ref p1)) rfl rfl ?_
  refine OwnK.getF_ X6 hx hZ hown (host := "") (Or.inl (hw _ (List.mem_of_getElem? (i := 46) rfl))) Via.refl e6 Fa (hb hby own_d10_18) (pc' := 21) rfl (fun T7 X7 e7 => ?_)
  refine OwnK.aloadN X7 hx (hb hby own_d10_21) (pc' := 22) rfl (v := (.ref p2)) rfl rfl ?_
  refine OwnK.getF_ X7 hx hZ hown (host := "") (Or.inl (hw _ (List.mem_of_getElem? (i := 46) rfl))) Via.refl e7 Fc (hb hby own_d10_22) (pc' := 25) rfl (fun T8 X8 e8 => ?_)
  refine OwnK.callV_ X8 hx hZ hown (y := (⟨"java/lang/String", "equals", "(Ljava/lang/Object;)Z"⟩ : MethodName)) (z := (⟨"java/lang/String", "equals", "(Ljava/lang/Object;)Z"⟩ : MethodName)) (a := sa) (hw _ (List.mem_of_getElem? (i := 61) rfl)) (hw _ (List.mem_of_getElem? (i := 62) rfl)) (notFace_of_selects (args := #[]) (mvT hZ (hw _ (List.mem_of_getElem? (i := 64) rfl)))) (hw _ (List.mem_of_getElem? (i := 64) rfl)) (hw _ (List.mem_of_getElem? (i := 63) rfl)) (hw _ (List.mem_of_getElem? (i := 65) rfl)) (hw _ (List.mem_of_getElem? (i := 16) rfl)) (by decide) Es1 (own_met11 l Z a0 hw h0 sa sc n0 ta tc _ _ za xa0 xa1 zc xc0 xc1 cs O0 ⟨Es1, Cs1, Vs1, Bs1⟩ ⟨Es3, Cs3, Vs3, Bs3⟩ hza hcs SS ) (by decide) (W := 0) (by decide) e8 (by rw [hml]; rfl) own_pd_6 (argsL := [(.ref sc)]) rfl (S := []) rfl (Nat.le_of_eq rfl) (hb hby own_d10_25) (pc' := 28) rfl (by decide) (by decide) (fun T9 v9 L9 X9 hQ9 => ?_)
  obtain ⟨rfl, e9, rfl⟩ := hQ9
  refine OwnK.if_eq X9 hx (hb hby own_d10_28) (by decide) (pcT := 49) (by decide) (pc' := 31) rfl (fun (hc11 : (own_eqI za.toInt xa0.toInt xa1.toInt zc.toInt xc0.toInt xc1.toInt).toInt = 0) => ?_) (fun (hc11 : ¬ (own_eqI za.toInt xa0.toInt xa1.toInt zc.toInt xc0.toInt xc1.toInt).toInt = 0) => ?_)
  · refine OwnK.iconst X9 hx (hb hby own_d10_49) (pc' := 50) rfl (v := (0 : Int32)) (by decide) ?_
    refine OwnK.retN_ X9 hx hret (by simp) hlk (hb hby own_d10_50) (by decide) (by decide) ?_
    exact ⟨by rw [own_nar0, own_bol hc11], e9, rfl⟩
  · refine OwnK.aloadN X9 hx (hb hby own_d10_31) (pc' := 32) rfl (v := (.ref p1)) rfl rfl ?_
    refine OwnK.getF_ X9 hx hZ hown (host := "") (Or.inl (hw _ (List.mem_of_getElem? (i := 49) rfl))) Via.refl e9 Fb (hb hby own_d10_32) (pc' := 35) rfl (fun T12 X12 e12 => ?_)
    refine OwnK.aloadN X12 hx (hb hby own_d10_35) (pc' := 36) rfl (v := (.ref p2)) rfl rfl ?_
    refine OwnK.getF_ X12 hx hZ hown (host := "") (Or.inl (hw _ (List.mem_of_getElem? (i := 49) rfl))) Via.refl e12 Fd (hb hby own_d10_36) (pc' := 39) rfl (fun T13 X13 e13 => ?_)
    refine OwnK.callV_ X13 hx hZ hown (y := (⟨"java/lang/String", "equals", "(Ljava/lang/Object;)Z"⟩ : MethodName)) (z := (⟨"java/lang/String", "equals", "(Ljava/lang/Object;)Z"⟩ : MethodName)) (a := sb) (hw _ (List.mem_of_getElem? (i := 61) rfl)) (hw _ (List.mem_of_getElem? (i := 62) rfl)) (notFace_of_selects (args := #[]) (mvT hZ (hw _ (List.mem_of_getElem? (i := 64) rfl)))) (hw _ (List.mem_of_getElem? (i := 64) rfl)) (hw _ (List.mem_of_getElem? (i := 63) rfl)) (hw _ (List.mem_of_getElem? (i := 65) rfl)) (hw _ (List.mem_of_getElem? (i := 16) rfl)) (by decide) Es2 (own_met11 l Z a0 hw h0 sb sd n0 tb td _ _ zb xb0 xb1 zd xd0 xd1 cs O0 ⟨Es2, Cs2, Vs2, Bs2⟩ ⟨Es4, Cs4, Vs4, Bs4⟩ hzb hcs SS ) (by decide) (W := 0) (by decide) e13 (by rw [hml]; rfl) own_pd_6 (argsL := [(.ref sd)]) rfl (S := []) rfl (Nat.le_of_eq rfl) (hb hby own_d10_39) (pc' := 42) rfl (by decide) (by decide) (fun T14 v14 L14 X14 hQ14 => ?_)
    obtain ⟨rfl, e14, rfl⟩ := hQ14
    refine OwnK.if_eq X14 hx (hb hby own_d10_42) (by decide) (pcT := 49) (by decide) (pc' := 45) rfl (fun (hc16 : (own_eqI zb.toInt xb0.toInt xb1.toInt zd.toInt xd0.toInt xd1.toInt).toInt = 0) => ?_) (fun (hc16 : ¬ (own_eqI zb.toInt xb0.toInt xb1.toInt zd.toInt xd0.toInt xd1.toInt).toInt = 0) => ?_)
    · refine OwnK.iconst X14 hx (hb hby own_d10_49) (pc' := 50) rfl (v := (0 : Int32)) (by decide) ?_
      refine OwnK.retN_ X14 hx hret (by simp) hlk (hb hby own_d10_50) (by decide) (by decide) ?_
      exact ⟨by rw [own_nar0, own_bor hc16], e14, rfl⟩
    · refine OwnK.iconst X14 hx (hb hby own_d10_45) (pc' := 46) rfl (v := (1 : Int32)) (by decide) ?_
      refine OwnK.goto_ X14 hx (hb hby own_d10_46) (by decide) (pc' := 50) (by decide) ?_
      refine OwnK.retN_ X14 hx hret (by simp) hlk (hb hby own_d10_50) (by decide) (by decide) ?_
      exact ⟨by rw [own_nar1, own_bo1 hc11 hc16], e14, rfl⟩
def own_Qmet9 (h0 : Heap) (p1 : Int32) (p2 : Int32) (v : Option Value) (h : Heap) (L : List Loc) : Prop := v = some (.int (own_sameI p1 p2)) ∧ h = h0 ∧ L = []
set_option maxRecDepth 65536 in
set_option maxHeartbeats 40000000 in
theorem own_met9 (l : Launch) (Z : State) (a0 : Array Value) (hw : ∀ d ∈ tables_1, d.before a0 Z = true) (h0 : Heap) (p1 : Int32) (p2 : Int32)  :
    MetFree l (⟨"com/example/traceway/traceway/core/HeaderEqualsPinLaw", "same", "(II)Z"⟩ : MethodName) (head1 [Jvm.Cond.code (⟨"com/example/traceway/traceway/core/HeaderEqualsPinLaw", "same", "(II)Z"⟩ : MethodName) method_6_code 2 (some .boolean)] ({ frames := 2, cells := 0, slots := 0, locals := 26 } : Room)) (fun a U => a = #[(.int p1), (.int p2)] ∧ Z.Warmed39 U.vm ∧ U.heap = h0) (fun _ _ _ _ _ => True) (fun _ U o U' => ∃ v L, o = .returned v ∧ (own_Qmet9 h0 p1 p2 ) v U'.heap L ∧ FrameEnd U o U' L ({ frames := 2, cells := 0, slots := 0, locals := 26 } : Room).cells ({ frames := 2, cells := 0, slots := 0, locals := 26 } : Room).slots) := by
  refine OwnK.met (Q := (own_Qmet9 h0 p1 p2 )) (C := ({ frames := 2, cells := 0, slots := 0, locals := 26 } : Room).cells) (N := ({ frames := 2, cells := 0, slots := 0, locals := 26 } : Room).slots) own_pl_9 (own_ef_9 p1 p2) ?_
  intro p e s m below meth c T0 X0 hx hZ hby hml hown hnm hret hlk e0
  have lit0 : (0 : Int32).toInt = 0 := by decide
  have lit1 : (1 : Int32).toInt = 1 := by decide
  have lit2 : (2 : Int32).toInt = 2 := by decide
  refine OwnK.iloadN X0 hx (hb hby own_d9_0) (pc' := 1) rfl (v := p1) rfl ?_
  refine OwnK.callS_ X0 hx hZ hown (y := (⟨"com/example/traceway/traceway/core/HeaderEqualsPinLaw", "len", "(I)I"⟩ : MethodName)) (hw _ (List.mem_of_getElem? (i := 7) rfl)) (hw _ (List.mem_of_getElem? (i := 8) rfl)) (hw _ (List.mem_of_getElem? (i := 5) rfl)) (hw _ (List.mem_of_getElem? (i := 9) rfl)) (by decide) (own_met2 l Z a0 hw h0 p1  ) (by decide) (W := 0) (by decide) e0 (by rw [hml]; rfl) own_pd_2 (argsL := [(.int p1)]) rfl (S := []) rfl (Nat.le_of_eq rfl) (hb hby own_d9_1) (pc' := 4) rfl (by decide) (by decide) (fun T1 v1 L1 X1 hQ1 => ?_)
  obtain ⟨rfl, e1, rfl⟩ := hQ1
  refine OwnK.iloadN X1 hx (hb hby own_d9_4) (pc' := 5) rfl (v := p2) rfl ?_
  refine OwnK.callS_ X1 hx hZ hown (y := (⟨"com/example/traceway/traceway/core/HeaderEqualsPinLaw", "len", "(I)I"⟩ : MethodName)) (hw _ (List.mem_of_getElem? (i := 7) rfl)) (hw _ (List.mem_of_getElem? (i := 8) rfl)) (hw _ (List.mem_of_getElem? (i := 5) rfl)) (hw _ (List.mem_of_getElem? (i := 9) rfl)) (by decide) (own_met2 l Z a0 hw h0 p2  ) (by decide) (W := 1) (by decide) e1 (by rw [hml]; rfl) own_pd_2 (argsL := [(.int p2)]) rfl (S := [(.int (own_len p1))]) rfl (Nat.le_of_eq rfl) (hb hby own_d9_5) (pc' := 8) rfl (by decide) (by decide) (fun T3 v3 L3 X3 hQ3 => ?_)
  obtain ⟨rfl, e3, rfl⟩ := hQ3
  refine OwnK.icmp_eq X3 hx (hb hby own_d9_8) (by decide) (pcT := 13) (by decide) (pc' := 11) rfl (fun (hc5 : (own_len p1).toInt = (own_len p2).toInt) => ?_) (fun (hc5 : ¬ (own_len p1).toInt = (own_len p2).toInt) => ?_)
  · refine OwnK.iloadN X3 hx (hb hby own_d9_13) (pc' := 14) rfl (v := p1) rfl ?_
    refine OwnK.callS_ X3 hx hZ hown (y := (⟨"com/example/traceway/traceway/core/HeaderEqualsPinLaw", "len", "(I)I"⟩ : MethodName)) (hw _ (List.mem_of_getElem? (i := 7) rfl)) (hw _ (List.mem_of_getElem? (i := 8) rfl)) (hw _ (List.mem_of_getElem? (i := 5) rfl)) (hw _ (List.mem_of_getElem? (i := 9) rfl)) (by decide) (own_met2 l Z a0 hw h0 p1  ) (by decide) (W := 0) (by decide) e3 (by rw [hml]; rfl) own_pd_2 (argsL := [(.int p1)]) rfl (S := []) rfl (Nat.le_of_eq rfl) (hb hby own_d9_14) (pc' := 17) rfl (by decide) (by decide) (fun T6 v6 L6 X6 hQ6 => ?_)
    obtain ⟨rfl, e6, rfl⟩ := hQ6
    refine OwnK.iconst X6 hx (hb hby own_d9_17) (pc' := 18) rfl (v := (1 : Int32)) (by decide) ?_
    refine OwnK.icmp_lt X6 hx (hb hby own_d9_18) (by decide) (pcT := 34) (by decide) (pc' := 21) rfl (fun (hc8 : (own_len p1).toInt < 1) => ?_) (fun (hc8 : 1 ≤ (own_len p1).toInt) => ?_)
    · refine OwnK.iloadN X6 hx (hb hby own_d9_34) (pc' := 35) rfl (v := p1) rfl ?_
      refine OwnK.callS_ X6 hx hZ hown (y := (⟨"com/example/traceway/traceway/core/HeaderEqualsPinLaw", "len", "(I)I"⟩ : MethodName)) (hw _ (List.mem_of_getElem? (i := 7) rfl)) (hw _ (List.mem_of_getElem? (i := 8) rfl)) (hw _ (List.mem_of_getElem? (i := 5) rfl)) (hw _ (List.mem_of_getElem? (i := 9) rfl)) (by decide) (own_met2 l Z a0 hw h0 p1  ) (by decide) (W := 0) (by decide) e6 (by rw [hml]; rfl) own_pd_2 (argsL := [(.int p1)]) rfl (S := []) rfl (Nat.le_of_eq rfl) (hb hby own_d9_35) (pc' := 38) rfl (by decide) (by decide) (fun T9 v9 L9 X9 hQ9 => ?_)
      obtain ⟨rfl, e9, rfl⟩ := hQ9
      refine OwnK.iconst X9 hx (hb hby own_d9_38) (pc' := 39) rfl (v := (2 : Int32)) (by decide) ?_
      refine OwnK.icmp_lt X9 hx (hb hby own_d9_39) (by decide) (pcT := 55) (by decide) (pc' := 42) rfl (fun (hc11 : (own_len p1).toInt < 2) => ?_) (fun (hc11 : 2 ≤ (own_len p1).toInt) => ?_)
      · refine OwnK.iconst X9 hx (hb hby own_d9_55) (pc' := 56) rfl (v := (1 : Int32)) (by decide) ?_
        refine OwnK.retN_ X9 hx hret (by simp) hlk (hb hby own_d9_56) (by decide) (by decide) ?_
        exact ⟨by rw [own_nar1]; unfold own_sameI; rw [own_eq1 (by omega)], e9, rfl⟩
      · refine OwnK.iloadN X9 hx (hb hby own_d9_42) (pc' := 43) rfl (v := p1) rfl ?_
        refine OwnK.callS_ X9 hx hZ hown (y := (⟨"com/example/traceway/traceway/core/HeaderEqualsPinLaw", "c1", "(I)C"⟩ : MethodName)) (hw _ (List.mem_of_getElem? (i := 75) rfl)) (hw _ (List.mem_of_getElem? (i := 76) rfl)) (hw _ (List.mem_of_getElem? (i := 5) rfl)) (hw _ (List.mem_of_getElem? (i := 77) rfl)) (by decide) (own_met14 l Z a0 hw h0 p1  ) (by decide) (W := 0) (by decide) e9 (by rw [hml]; rfl) own_pd_1 (argsL := [(.int p1)]) rfl (S := []) rfl (Nat.le_of_eq rfl) (hb hby own_d9_43) (pc' := 46) rfl (by decide) (by decide) (fun T12 v12 L12 X12 hQ12 => ?_)
        obtain ⟨rfl, e12, rfl⟩ := hQ12
        refine OwnK.iloadN X12 hx (hb hby own_d9_46) (pc' := 47) rfl (v := p2) rfl ?_
        refine OwnK.callS_ X12 hx hZ hown (y := (⟨"com/example/traceway/traceway/core/HeaderEqualsPinLaw", "c1", "(I)C"⟩ : MethodName)) (hw _ (List.mem_of_getElem? (i := 75) rfl)) (hw _ (List.mem_of_getElem? (i := 76) rfl)) (hw _ (List.mem_of_getElem? (i := 5) rfl)) (hw _ (List.mem_of_getElem? (i := 77) rfl)) (by decide) (own_met14 l Z a0 hw h0 p2  ) (by decide) (W := 1) (by decide) e12 (by rw [hml]; rfl) own_pd_1 (argsL := [(.int p2)]) rfl (S := [(.int ((XT.ushr p1 (8 : Int32)) &&& (255 : Int32)))]) rfl (Nat.le_of_eq rfl) (hb hby own_d9_47) (pc' := 50) rfl (by decide) (by decide) (fun T14 v14 L14 X14 hQ14 => ?_)
        obtain ⟨rfl, e14, rfl⟩ := hQ14
        refine OwnK.icmp_eq X14 hx (hb hby own_d9_50) (by decide) (pcT := 55) (by decide) (pc' := 53) rfl (fun (hc16 : ((XT.ushr p1 (8 : Int32)) &&& (255 : Int32)).toInt = ((XT.ushr p2 (8 : Int32)) &&& (255 : Int32)).toInt) => ?_) (fun (hc16 : ¬ ((XT.ushr p1 (8 : Int32)) &&& (255 : Int32)).toInt = ((XT.ushr p2 (8 : Int32)) &&& (255 : Int32)).toInt) => ?_)
        · refine OwnK.iconst X14 hx (hb hby own_d9_55) (pc' := 56) rfl (v := (1 : Int32)) (by decide) ?_
          refine OwnK.retN_ X14 hx hret (by simp) hlk (hb hby own_d9_56) (by decide) (by decide) ?_
          exact ⟨by rw [own_nar1]; unfold own_sameI; rw [own_eq1 (by omega)], e14, rfl⟩
        · refine OwnK.iconst X14 hx (hb hby own_d9_53) (pc' := 54) rfl (v := (0 : Int32)) (by decide) ?_
          refine OwnK.retN_ X14 hx hret (by simp) hlk (hb hby own_d9_54) (by decide) (by decide) ?_
          exact ⟨by rw [own_nar0]; unfold own_sameI; rw [own_eq0 (by omega)], e14, rfl⟩
    · refine OwnK.iloadN X6 hx (hb hby own_d9_21) (pc' := 22) rfl (v := p1) rfl ?_
      refine OwnK.callS_ X6 hx hZ hown (y := (⟨"com/example/traceway/traceway/core/HeaderEqualsPinLaw", "c0", "(I)C"⟩ : MethodName)) (hw _ (List.mem_of_getElem? (i := 72) rfl)) (hw _ (List.mem_of_getElem? (i := 73) rfl)) (hw _ (List.mem_of_getElem? (i := 5) rfl)) (hw _ (List.mem_of_getElem? (i := 74) rfl)) (by decide) (own_met13 l Z a0 hw h0 p1  ) (by decide) (W := 0) (by decide) e6 (by rw [hml]; rfl) own_pd_1 (argsL := [(.int p1)]) rfl (S := []) rfl (Nat.le_of_eq rfl) (hb hby own_d9_22) (pc' := 25) rfl (by decide) (by decide) (fun T17 v17 L17 X17 hQ17 => ?_)
      obtain ⟨rfl, e17, rfl⟩ := hQ17
      refine OwnK.iloadN X17 hx (hb hby own_d9_25) (pc' := 26) rfl (v := p2) rfl ?_
      refine OwnK.callS_ X17 hx hZ hown (y := (⟨"com/example/traceway/traceway/core/HeaderEqualsPinLaw", "c0", "(I)C"⟩ : MethodName)) (hw _ (List.mem_of_getElem? (i := 72) rfl)) (hw _ (List.mem_of_getElem? (i := 73) rfl)) (hw _ (List.mem_of_getElem? (i := 5) rfl)) (hw _ (List.mem_of_getElem? (i := 74) rfl)) (by decide) (own_met13 l Z a0 hw h0 p2  ) (by decide) (W := 1) (by decide) e17 (by rw [hml]; rfl) own_pd_1 (argsL := [(.int p2)]) rfl (S := [(.int (p1 &&& (255 : Int32)))]) rfl (Nat.le_of_eq rfl) (hb hby own_d9_26) (pc' := 29) rfl (by decide) (by decide) (fun T19 v19 L19 X19 hQ19 => ?_)
      obtain ⟨rfl, e19, rfl⟩ := hQ19
      refine OwnK.icmp_eq X19 hx (hb hby own_d9_29) (by decide) (pcT := 34) (by decide) (pc' := 32) rfl (fun (hc21 : (p1 &&& (255 : Int32)).toInt = (p2 &&& (255 : Int32)).toInt) => ?_) (fun (hc21 : ¬ (p1 &&& (255 : Int32)).toInt = (p2 &&& (255 : Int32)).toInt) => ?_)
      · refine OwnK.iloadN X19 hx (hb hby own_d9_34) (pc' := 35) rfl (v := p1) rfl ?_
        refine OwnK.callS_ X19 hx hZ hown (y := (⟨"com/example/traceway/traceway/core/HeaderEqualsPinLaw", "len", "(I)I"⟩ : MethodName)) (hw _ (List.mem_of_getElem? (i := 7) rfl)) (hw _ (List.mem_of_getElem? (i := 8) rfl)) (hw _ (List.mem_of_getElem? (i := 5) rfl)) (hw _ (List.mem_of_getElem? (i := 9) rfl)) (by decide) (own_met2 l Z a0 hw h0 p1  ) (by decide) (W := 0) (by decide) e19 (by rw [hml]; rfl) own_pd_2 (argsL := [(.int p1)]) rfl (S := []) rfl (Nat.le_of_eq rfl) (hb hby own_d9_35) (pc' := 38) rfl (by decide) (by decide) (fun T22 v22 L22 X22 hQ22 => ?_)
        obtain ⟨rfl, e22, rfl⟩ := hQ22
        refine OwnK.iconst X22 hx (hb hby own_d9_38) (pc' := 39) rfl (v := (2 : Int32)) (by decide) ?_
        refine OwnK.icmp_lt X22 hx (hb hby own_d9_39) (by decide) (pcT := 55) (by decide) (pc' := 42) rfl (fun (hc24 : (own_len p1).toInt < 2) => ?_) (fun (hc24 : 2 ≤ (own_len p1).toInt) => ?_)
        · refine OwnK.iconst X22 hx (hb hby own_d9_55) (pc' := 56) rfl (v := (1 : Int32)) (by decide) ?_
          refine OwnK.retN_ X22 hx hret (by simp) hlk (hb hby own_d9_56) (by decide) (by decide) ?_
          exact ⟨by rw [own_nar1]; unfold own_sameI; rw [own_eq1 (by omega)], e22, rfl⟩
        · refine OwnK.iloadN X22 hx (hb hby own_d9_42) (pc' := 43) rfl (v := p1) rfl ?_
          refine OwnK.callS_ X22 hx hZ hown (y := (⟨"com/example/traceway/traceway/core/HeaderEqualsPinLaw", "c1", "(I)C"⟩ : MethodName)) (hw _ (List.mem_of_getElem? (i := 75) rfl)) (hw _ (List.mem_of_getElem? (i := 76) rfl)) (hw _ (List.mem_of_getElem? (i := 5) rfl)) (hw _ (List.mem_of_getElem? (i := 77) rfl)) (by decide) (own_met14 l Z a0 hw h0 p1  ) (by decide) (W := 0) (by decide) e22 (by rw [hml]; rfl) own_pd_1 (argsL := [(.int p1)]) rfl (S := []) rfl (Nat.le_of_eq rfl) (hb hby own_d9_43) (pc' := 46) rfl (by decide) (by decide) (fun T25 v25 L25 X25 hQ25 => ?_)
          obtain ⟨rfl, e25, rfl⟩ := hQ25
          refine OwnK.iloadN X25 hx (hb hby own_d9_46) (pc' := 47) rfl (v := p2) rfl ?_
          refine OwnK.callS_ X25 hx hZ hown (y := (⟨"com/example/traceway/traceway/core/HeaderEqualsPinLaw", "c1", "(I)C"⟩ : MethodName)) (hw _ (List.mem_of_getElem? (i := 75) rfl)) (hw _ (List.mem_of_getElem? (i := 76) rfl)) (hw _ (List.mem_of_getElem? (i := 5) rfl)) (hw _ (List.mem_of_getElem? (i := 77) rfl)) (by decide) (own_met14 l Z a0 hw h0 p2  ) (by decide) (W := 1) (by decide) e25 (by rw [hml]; rfl) own_pd_1 (argsL := [(.int p2)]) rfl (S := [(.int ((XT.ushr p1 (8 : Int32)) &&& (255 : Int32)))]) rfl (Nat.le_of_eq rfl) (hb hby own_d9_47) (pc' := 50) rfl (by decide) (by decide) (fun T27 v27 L27 X27 hQ27 => ?_)
          obtain ⟨rfl, e27, rfl⟩ := hQ27
          refine OwnK.icmp_eq X27 hx (hb hby own_d9_50) (by decide) (pcT := 55) (by decide) (pc' := 53) rfl (fun (hc29 : ((XT.ushr p1 (8 : Int32)) &&& (255 : Int32)).toInt = ((XT.ushr p2 (8 : Int32)) &&& (255 : Int32)).toInt) => ?_) (fun (hc29 : ¬ ((XT.ushr p1 (8 : Int32)) &&& (255 : Int32)).toInt = ((XT.ushr p2 (8 : Int32)) &&& (255 : Int32)).toInt) => ?_)
          · refine OwnK.iconst X27 hx (hb hby own_d9_55) (pc' := 56) rfl (v := (1 : Int32)) (by decide) ?_
            refine OwnK.retN_ X27 hx hret (by simp) hlk (hb hby own_d9_56) (by decide) (by decide) ?_
            exact ⟨by rw [own_nar1]; unfold own_sameI; rw [own_eq1 (by omega)], e27, rfl⟩
          · refine OwnK.iconst X27 hx (hb hby own_d9_53) (pc' := 54) rfl (v := (0 : Int32)) (by decide) ?_
            refine OwnK.retN_ X27 hx hret (by simp) hlk (hb hby own_d9_54) (by decide) (by decide) ?_
            exact ⟨by rw [own_nar0]; unfold own_sameI; rw [own_eq0 (by omega)], e27, rfl⟩
      · refine OwnK.iconst X19 hx (hb hby own_d9_32) (pc' := 33) rfl (v := (0 : Int32)) (by decide) ?_
        refine OwnK.retN_ X19 hx hret (by simp) hlk (hb hby own_d9_33) (by decide) (by decide) ?_
        exact ⟨by rw [own_nar0]; unfold own_sameI; rw [own_eq0 (by omega)], e19, rfl⟩
  · refine OwnK.iconst X3 hx (hb hby own_d9_11) (pc' := 12) rfl (v := (0 : Int32)) (by decide) ?_
    refine OwnK.retN_ X3 hx hret (by simp) hlk (hb hby own_d9_12) (by decide) (by decide) ?_
    exact ⟨by rw [own_nar0]; unfold own_sameI; rw [own_eq0 (by omega)], e3, rfl⟩
set_option maxRecDepth 65536 in
set_option maxHeartbeats 40000000 in
theorem own_law (l : Launch) (Z : State) (a0 : Array Value) (hw : ∀ d ∈ tables_1, d.before a0 Z = true) (ws : List Jvm.Cond) (h0 : Heap) (n0 : Nat) (Z0 : n0 ≤ h0.size) (q0 : Int32) (q1 : Int32) (q2 : Int32) (q3 : Int32) (q4 : Int32) (cs : Int32) (O0 : Old Z n0 h0) (hcs : ¬ cs.toInt = 0) (SS : Sta Z Z.heap "java/lang/String" "COMPACT_STRINGS" "Z" (.int cs)) :
    MetFree l x (head1 (Jvm.Cond.code x code maxLocals ret :: ws) room_1) (fun a U => a = #[(.int q0), (.int q1), (.int q2), (.int q3), (.int q4)] ∧ Z.Warmed39 U.vm ∧ U.heap = h0 ∧ CHv Z own_EL U.vm h0) (fun _ _ _ _ _ => True) (fun _ U o U' => ∃ v L, o = .returned v ∧ (fun (v : Option Value) (_ : Heap) (L : List Loc) => v = some (.int (1 : Int32)) ∧ Fr n0 L) v U'.heap L ∧ CHr Z own_EL U.vm U.heap U'.vm U'.heap ∧ ReturnedEndW U o U' L 34 140) := by
  refine OwnK.metW (Q := (fun (v : Option Value) (_ : Heap) (L : List Loc) => v = some (.int (1 : Int32)) ∧ Fr n0 L)) (C := 34) (N := 140) (own_ew l Z a0 hw) own_pl_0 (own_ef_0 q0 q1 q2 q3 q4) ?_
  intro p e s m below meth c T0 X0 hx Yd0 hby hml hnm hret hlk e0
  have hZ := Yd0.z
  have hown := Yd0.o
  have N0 := Fr.nil n0
  have J1 : ∀ vJ1 : Int32, OwnK.Go p.tables e below (OwnK.PQW Z own_EL s h0 (fun (v : Option Value) (_ : Heap) (L : List Loc) => v = some (.int (1 : Int32)) ∧ Fr n0 L) 34 140) T0 (mkF m 12 #[.val (.int q0), .val (.int q1), .val (.int q2), .val (.int q3), .val (.int q4), .unset, .unset, .unset, .unset, .unset, .unset, .unset, .unset] [(.int vJ1)]) := by
    intro vJ1
    refine OwnK.istore X0 hx (hb hby at_12) (pc' := 14) rfl (Ls' := #[.val (.int q0), .val (.int q1), .val (.int q2), .val (.int q3), .val (.int q4), .val (.int vJ1), .unset, .unset, .unset, .unset, .unset, .unset, .unset]) rfl ?_
    have J2 : ∀ vJ2 : Int32, OwnK.Go p.tables e below (OwnK.PQW Z own_EL s h0 (fun (v : Option Value) (_ : Heap) (L : List Loc) => v = some (.int (1 : Int32)) ∧ Fr n0 L) 34 140) T0 (mkF m 27 #[.val (.int q0), .val (.int q1), .val (.int q2), .val (.int q3), .val (.int q4), .val (.int vJ1), .unset, .unset, .unset, .unset, .unset, .unset, .unset] [(.int vJ2)]) := by
      intro vJ2
      refine OwnK.istore X0 hx (hb hby at_27) (pc' := 29) rfl (Ls' := #[.val (.int q0), .val (.int q1), .val (.int q2), .val (.int q3), .val (.int q4), .val (.int vJ1), .val (.int vJ2), .unset, .unset, .unset, .unset, .unset, .unset]) rfl ?_
      refine OwnK.new_ X0 hx hZ hown (hw _ (List.mem_of_getElem? (i := 0) rfl)) (hw _ (List.mem_of_getElem? (i := 1) rfl)) (hw _ (List.mem_of_getElem? (i := 2) rfl)) e0 (hb hby at_29) (pc' := 32) rfl (by decide) (by decide) (fun T3 h3 a3 X3 e3 g3 E3 A3 D3 => ?_)
      have ge_a3 : n0 ≤ a3 := Nat.le_trans Z0 (Nat.le_of_eq g3.symm)
      have z4 : n0 ≤ h3.size := Nat.le_trans Z0 E3.1
      have O5 := O0.ext E3
      have Ye3 := Yd0.ext E3
      have f6 : Fld Z h3 a3 "com/example/traceway/traceway/core/Header" "name" "Ljava/lang/String;" .null := D3 (Or.inr (hw _ (List.mem_of_getElem? (i := 47) rfl))) (ty := (.object "java/lang/String")) (by decide)
      have f7 : Fld Z h3 a3 "com/example/traceway/traceway/core/Header" "value" "Ljava/lang/String;" .null := D3 (Or.inr (hw _ (List.mem_of_getElem? (i := 50) rfl))) (ty := (.object "java/lang/String")) (by decide)
      refine OwnK.dup X3 hx (hb hby at_32) (pc' := 33) rfl rfl ?_
      refine OwnK.iloadN X3 hx (hb hby at_33) (pc' := 34) rfl (v := q0) rfl ?_
      refine OwnK.callSW_ X3 hx Ye3 (y := (⟨"com/example/traceway/traceway/core/HeaderEqualsPinLaw", "mk", "(I)Ljava/lang/String;"⟩ : MethodName)) (hw _ (List.mem_of_getElem? (i := 3) rfl)) (hw _ (List.mem_of_getElem? (i := 4) rfl)) (hw _ (List.mem_of_getElem? (i := 5) rfl)) (hw _ (List.mem_of_getElem? (i := 6) rfl)) (by decide) (own_met1 l Z a0 hw h3 n0 z4 q0 cs O5  hcs SS ) (by decide) (W := 2) (by decide) e3 (by rw [hml]; rfl) own_pd_3 (argsL := [(.int q0)]) rfl (S := [(.ref a3), (.ref a3)]) rfl (Nat.le_of_eq rfl) (hb hby at_34) (pc' := 37) rfl (by decide) (by decide) (fun T8 v8 L8 X8 Yd8 hQ8 => ?_)
      have hZ := Yd8.z
      have hown := Yd8.o
      obtain ⟨a8, t8, kt8, rfl, N8q, K8, hr8, Es8, Cs8, Vs8, Bs8⟩ := hQ8
      have N9 := Fr.app N0 N8q
      have q10 : a3 ≠ a8 := Nat.ne_of_lt (Nat.lt_of_lt_of_le A3.lt hr8)
      have ge_a8 : n0 ≤ a8 := Nat.le_trans z4 hr8
      have f11 := A3.keep K8
      have f12 := f6.keep K8 nin0
      have f13 := f7.keep K8 nin0
      have z14 : n0 ≤ T8.heap.size := Nat.le_trans z4 K8.1
      have O15 := O5.keep K8 all0
      have q16 := own_nek (hw _ (List.mem_of_getElem? (i := 1) rfl)) f11 Bs8
      refine OwnK.iloadN X8 hx (hb hby at_37) (pc' := 38) rfl (v := q1) rfl ?_
      refine OwnK.callSW_ X8 hx Yd8 (y := (⟨"com/example/traceway/traceway/core/HeaderEqualsPinLaw", "mk", "(I)Ljava/lang/String;"⟩ : MethodName)) (hw _ (List.mem_of_getElem? (i := 3) rfl)) (hw _ (List.mem_of_getElem? (i := 4) rfl)) (hw _ (List.mem_of_getElem? (i := 5) rfl)) (hw _ (List.mem_of_getElem? (i := 6) rfl)) (by decide) (own_met1 l Z a0 hw T8.heap n0 z14 q1 cs O15  hcs SS ) (by decide) (W := 3) (by decide) rfl (by rw [hml]; rfl) own_pd_3 (argsL := [(.int q1)]) rfl (S := [(.ref a8), (.ref a3), (.ref a3)]) rfl (Nat.le_of_eq rfl) (hb hby at_38) (pc' := 41) rfl (by decide) (by decide) (fun T17 v17 L17 X17 Yd17 hQ17 => ?_)
      have hZ := Yd17.z
      have hown := Yd17.o
      obtain ⟨a17, t17, kt17, rfl, N17q, K17, hr17, Es17, Cs17, Vs17, Bs17⟩ := hQ17
      have N18 := Fr.app N9 N17q
      have q19 : a3 ≠ a17 := Nat.ne_of_lt (Nat.lt_of_lt_of_le f11.lt hr17)
      have q20 : a8 ≠ a17 := Nat.ne_of_lt (Nat.lt_of_lt_of_le Es8.lt hr17)
      have q21 : t8 ≠ a17 := Nat.ne_of_lt (Nat.lt_of_lt_of_le Bs8.lt hr17)
      have ge_a17 : n0 ≤ a17 := Nat.le_trans z14 hr17
      have f22 := f11.keep K17
      have f23 := f12.keep K17 nin0
      have f24 := f13.keep K17 nin0
      have f25 := Es8.keep K17
      have f26 := Cs8.keep K17 nin0
      have f27 := Vs8.keep K17 nin0
      have f28 := Bs8.keep K17 nin0
      have z29 : n0 ≤ T17.heap.size := Nat.le_trans z14 K17.1
      have O30 := O15.keep K17 all0
      have q31 := own_nek (hw _ (List.mem_of_getElem? (i := 1) rfl)) f22 Bs17
      refine OwnK.callIW_ X17 hx Yd17 (y := (⟨"com/example/traceway/traceway/core/Header", "<init>", "(Ljava/lang/String;Ljava/lang/String;)V"⟩ : MethodName)) (a := a3) rfl (hw _ (List.mem_of_getElem? (i := 36) rfl)) (hw _ (List.mem_of_getElem? (i := 37) rfl)) (hw _ (List.mem_of_getElem? (i := 2) rfl)) (hw _ (List.mem_of_getElem? (i := 38) rfl)) rfl (by decide) (own_met7 l Z a0 hw T17.heap n0 z29 a3 a8 a17   ge_a3 f22 f23 f24 f25 Es17 ) (by decide) (W := 1) (by decide) rfl (by rw [hml]; rfl) own_pd_8 (argsL := [(.ref a8), (.ref a17)]) rfl (S := [(.ref a3)]) rfl (Nat.le_of_eq rfl) (hb hby at_41) (pc' := 44) rfl (by decide) (by decide) (fun T32 v32 L32 X32 Yd32 hQ32 => ?_)
      have hZ := Yd32.z
      have hown := Yd32.o
      obtain ⟨rfl, N32q, K32, E32q, Fn32, Fv32⟩ := hQ32
      have N33 := Fr.app N18 N32q
      have f34 := f22.keep K32
      have f35 := f25.keep K32
      have f36 := f26.keep K32 (ninS (Ne.symm q10) nin0)
      have f37 := f27.keep K32 (ninS (Ne.symm q10) nin0)
      have f38 := f28.keep K32 (ninS (Ne.symm q16) nin0)
      have f39 := Es17.keep K32
      have f40 := Cs17.keep K32 (ninS (Ne.symm q19) nin0)
      have f41 := Vs17.keep K32 (ninS (Ne.symm q19) nin0)
      have f42 := Bs17.keep K32 (ninS (Ne.symm q31) nin0)
      have z43 : n0 ≤ T32.heap.size := Nat.le_trans z29 K32.1
      have O44 := O30.keep K32 (allS ge_a3 all0)
      refine OwnK.astore X32 hx (hb hby at_44) (pc' := 46) rfl rfl (Ls' := #[.val (.int q0), .val (.int q1), .val (.int q2), .val (.int q3), .val (.int q4), .val (.int vJ1), .val (.int vJ2), .val (.ref a3), .unset, .unset, .unset, .unset, .unset]) rfl ?_
      refine OwnK.iload X32 hx (hb hby at_46) (pc' := 48) rfl (v := q4) rfl ?_
      refine OwnK.iconst X32 hx (hb hby at_48) (pc' := 49) rfl (v := (3 : Int32)) (by decide) ?_
      refine OwnK.iand X32 hx (hb hby at_49) (pc' := 50) rfl ?_
      refine OwnK.istore X32 hx (hb hby at_50) (pc' := 52) rfl (Ls' := #[.val (.int q0), .val (.int q1), .val (.int q2), .val (.int q3), .val (.int q4), .val (.int vJ1), .val (.int vJ2), .val (.ref a3), .val (.int (q4 &&& (3 : Int32))), .unset, .unset, .unset, .unset]) rfl ?_
      refine OwnK.iload X32 hx (hb hby at_52) (pc' := 54) rfl (v := (q4 &&& (3 : Int32))) rfl ?_
      refine OwnK.if_ne X32 hx (hb hby at_54) (by decide) (pcT := 139) (by decide) (pc' := 57) rfl (fun (hc45 : ¬ (q4 &&& (3 : Int32)).toInt = 0) => ?_) (fun (hc45 : (q4 &&& (3 : Int32)).toInt = 0) => ?_)
      · refine OwnK.iload X32 hx (hb hby at_139) (pc' := 141) rfl (v := (q4 &&& (3 : Int32))) rfl ?_
        refine OwnK.iconst X32 hx (hb hby at_141) (pc' := 142) rfl (v := (1 : Int32)) (by decide) ?_
        refine OwnK.icmp_ne X32 hx (hb hby at_142) (by decide) (pcT := 160) (by decide) (pc' := 145) rfl (fun (hc46 : ¬ (q4 &&& (3 : Int32)).toInt = 1) => ?_) (fun (hc46 : (q4 &&& (3 : Int32)).toInt = 1) => ?_)
        · refine OwnK.iload X32 hx (hb hby at_160) (pc' := 162) rfl (v := (q4 &&& (3 : Int32))) rfl ?_
          refine OwnK.iconst X32 hx (hb hby at_162) (pc' := 163) rfl (v := (2 : Int32)) (by decide) ?_
          refine OwnK.icmp_ne X32 hx (hb hby at_163) (by decide) (pcT := 188) (by decide) (pc' := 166) rfl (fun (hc47 : ¬ (q4 &&& (3 : Int32)).toInt = 2) => ?_) (fun (hc47 : (q4 &&& (3 : Int32)).toInt = 2) => ?_)
          · refine OwnK.aload X32 hx (hb hby at_188) (pc' := 190) rfl (v := (.ref a3)) rfl rfl ?_
            refine OwnK.aload X32 hx (hb hby at_190) (pc' := 192) rfl (v := (.ref a3)) rfl rfl ?_
            refine OwnK.callV_ X32 hx hZ hown (y := (⟨"com/example/traceway/traceway/core/Header", "equals", "(Ljava/lang/Object;)Z"⟩ : MethodName)) (z := (⟨"com/example/traceway/traceway/core/Header", "equals", "(Ljava/lang/Object;)Z"⟩ : MethodName)) (a := a3) (hw _ (List.mem_of_getElem? (i := 54) rfl)) (hw _ (List.mem_of_getElem? (i := 55) rfl)) (notFace_of_selects (args := #[]) (mvT hZ (hw _ (List.mem_of_getElem? (i := 57) rfl)))) (hw _ (List.mem_of_getElem? (i := 57) rfl)) (hw _ (List.mem_of_getElem? (i := 56) rfl)) (hw _ (List.mem_of_getElem? (i := 58) rfl)) (hw _ (List.mem_of_getElem? (i := 2) rfl)) (by decide) E32q (own_met10 l Z a0 hw T32.heap a3 a3 n0 a8 a17 a8 a17 t8 t17 t8 t17 _ _ _ _ (own_len q0) (own_b0 q0) (own_b1 q0) (own_len q1) (own_b0 q1) (own_b1 q1) (own_len q0) (own_b0 q0) (own_b1 q0) (own_len q1) (own_b0 q1) (own_b1 q1) cs O44 E32q E32q Fn32 Fv32 Fn32 Fv32 ⟨f35, f36, f37, f38⟩ ⟨f39, f40, f41, f42⟩ ⟨f35, f36, f37, f38⟩ ⟨f39, f40, f41, f42⟩ (own_lenr q0).2 (own_lenr q1).2 (own_lenr q0).2 (own_lenr q1).2 hcs SS ) (by decide) (W := 0) (by decide) rfl (by rw [hml]; rfl) own_pd_6 (argsL := [(.ref a3)]) rfl (S := []) rfl (Nat.le_of_eq rfl) (hb hby at_192) (pc' := 195) rfl (by decide) (by decide) (fun T48 v48 L48 X48 hQ48 => ?_)
            obtain ⟨rfl, e48, rfl⟩ := hQ48
            have N49 := Fr.app N33 (Fr.nil n0)
            refine OwnK.retNW_ X48 hx Yd32 hret (by simp) hlk (hb hby at_195) e48 (by decide) (by decide) ?_
            exact ⟨congrArg (fun z => some (Value.int z)) (own_bself _ _ _ _ _ _), N49⟩
          · refine OwnK.iloadN X32 hx (hb hby at_166) (pc' := 167) rfl (v := q0) rfl ?_
            refine OwnK.callSW_ X32 hx Yd32 (y := (⟨"com/example/traceway/traceway/core/HeaderEqualsPinLaw", "mk", "(I)Ljava/lang/String;"⟩ : MethodName)) (hw _ (List.mem_of_getElem? (i := 3) rfl)) (hw _ (List.mem_of_getElem? (i := 4) rfl)) (hw _ (List.mem_of_getElem? (i := 5) rfl)) (hw _ (List.mem_of_getElem? (i := 6) rfl)) (by decide) (own_met1 l Z a0 hw T32.heap n0 z43 q0 cs O44  hcs SS ) (by decide) (W := 0) (by decide) rfl (by rw [hml]; rfl) own_pd_3 (argsL := [(.int q0)]) rfl (S := []) rfl (Nat.le_of_eq rfl) (hb hby at_167) (pc' := 170) rfl (by decide) (by decide) (fun T50 v50 L50 X50 Yd50 hQ50 => ?_)
            have hZ := Yd50.z
            have hown := Yd50.o
            obtain ⟨a50, t50, kt50, rfl, N50q, K50, hr50, Es50, Cs50, Vs50, Bs50⟩ := hQ50
            have N51 := Fr.app N33 N50q
            have q52 : a17 ≠ a50 := Nat.ne_of_lt (Nat.lt_of_lt_of_le f39.lt hr50)
            have q53 : a3 ≠ a50 := Nat.ne_of_lt (Nat.lt_of_lt_of_le E32q.lt hr50)
            have q54 : a8 ≠ a50 := Nat.ne_of_lt (Nat.lt_of_lt_of_le f35.lt hr50)
            have q55 : t17 ≠ a50 := Nat.ne_of_lt (Nat.lt_of_lt_of_le f42.lt hr50)
            have q56 : t8 ≠ a50 := Nat.ne_of_lt (Nat.lt_of_lt_of_le f38.lt hr50)
            have ge_a50 : n0 ≤ a50 := Nat.le_trans z43 hr50
            have f57 := E32q.keep K50
            have f58 := f35.keep K50
            have f59 := f36.keep K50 nin0
            have f60 := f37.keep K50 nin0
            have f61 := f38.keep K50 nin0
            have f62 := f39.keep K50
            have f63 := f40.keep K50 nin0
            have f64 := f41.keep K50 nin0
            have f65 := f42.keep K50 nin0
            have f66 := Fn32.keep K50 nin0
            have f67 := Fv32.keep K50 nin0
            have z68 : n0 ≤ T50.heap.size := Nat.le_trans z43 K50.1
            have O69 := O44.keep K50 all0
            have q70 := own_nek (hw _ (List.mem_of_getElem? (i := 1) rfl)) f57 Bs50
            refine OwnK.astore X50 hx (hb hby at_170) (pc' := 172) rfl rfl (Ls' := #[.val (.int q0), .val (.int q1), .val (.int q2), .val (.int q3), .val (.int q4), .val (.int vJ1), .val (.int vJ2), .val (.ref a3), .val (.int (q4 &&& (3 : Int32))), .val (.ref a50), .unset, .unset, .unset]) rfl ?_
            refine OwnK.aload X50 hx (hb hby at_172) (pc' := 174) rfl (v := (.ref a3)) rfl rfl ?_
            refine OwnK.aload X50 hx (hb hby at_174) (pc' := 176) rfl (v := (.ref a50)) rfl rfl ?_
            refine OwnK.callV_ X50 hx hZ hown (y := (⟨"com/example/traceway/traceway/core/Header", "equals", "(Ljava/lang/Object;)Z"⟩ : MethodName)) (z := (⟨"com/example/traceway/traceway/core/Header", "equals", "(Ljava/lang/Object;)Z"⟩ : MethodName)) (a := a3) (hw _ (List.mem_of_getElem? (i := 54) rfl)) (hw _ (List.mem_of_getElem? (i := 55) rfl)) (notFace_of_selects (args := #[]) (mvT hZ (hw _ (List.mem_of_getElem? (i := 57) rfl)))) (hw _ (List.mem_of_getElem? (i := 57) rfl)) (hw _ (List.mem_of_getElem? (i := 56) rfl)) (hw _ (List.mem_of_getElem? (i := 58) rfl)) (hw _ (List.mem_of_getElem? (i := 2) rfl)) (by decide) f57 (own_met10_s l Z a0 hw T50.heap a3 a50 Es50 ) (by decide) (W := 0) (by decide) rfl (by rw [hml]; rfl) own_pd_6 (argsL := [(.ref a50)]) rfl (S := []) rfl (Nat.le_of_eq rfl) (hb hby at_176) (pc' := 179) rfl (by decide) (by decide) (fun T71 v71 L71 X71 hQ71 => ?_)
            obtain ⟨rfl, e71, rfl⟩ := hQ71
            have N72 := Fr.app N51 (Fr.nil n0)
            refine OwnK.if_ne X71 hx (hb hby at_179) (by decide) (pcT := 186) (by decide) (pc' := 182) rfl (fun (hc179 : ¬ 0 = 0) => absurd hc179 (by decide)) (fun hc179 => ?_)
            refine OwnK.iconst X71 hx (hb hby at_182) (pc' := 183) rfl (v := (1 : Int32)) (by decide) ?_
            refine OwnK.goto_ X71 hx (hb hby at_183) (by decide) (pc' := 187) (by decide) ?_
            refine OwnK.retNW_ X71 hx Yd50 hret (by simp) hlk (hb hby at_187) e71 (by decide) (by decide) ?_
            exact ⟨by rw [own_nar1], N72⟩
        · refine OwnK.aload X32 hx (hb hby at_145) (pc' := 147) rfl (v := (.ref a3)) rfl rfl ?_
          refine OwnK.aconstNull X32 hx (hb hby at_147) (pc' := 148) rfl ?_
          refine OwnK.callV_ X32 hx hZ hown (y := (⟨"com/example/traceway/traceway/core/Header", "equals", "(Ljava/lang/Object;)Z"⟩ : MethodName)) (z := (⟨"com/example/traceway/traceway/core/Header", "equals", "(Ljava/lang/Object;)Z"⟩ : MethodName)) (a := a3) (hw _ (List.mem_of_getElem? (i := 54) rfl)) (hw _ (List.mem_of_getElem? (i := 55) rfl)) (notFace_of_selects (args := #[]) (mvT hZ (hw _ (List.mem_of_getElem? (i := 57) rfl)))) (hw _ (List.mem_of_getElem? (i := 57) rfl)) (hw _ (List.mem_of_getElem? (i := 56) rfl)) (hw _ (List.mem_of_getElem? (i := 58) rfl)) (hw _ (List.mem_of_getElem? (i := 2) rfl)) (by decide) E32q (own_met10_n l Z a0 hw T32.heap a3  ) (by decide) (W := 0) (by decide) rfl (by rw [hml]; rfl) own_pd_6 (argsL := [.null]) rfl (S := []) rfl (Nat.le_of_eq rfl) (hb hby at_148) (pc' := 151) rfl (by decide) (by decide) (fun T73 v73 L73 X73 hQ73 => ?_)
          obtain ⟨rfl, e73, rfl⟩ := hQ73
          have N74 := Fr.app N33 (Fr.nil n0)
          refine OwnK.if_ne X73 hx (hb hby at_151) (by decide) (pcT := 158) (by decide) (pc' := 154) rfl (fun (hc151 : ¬ 0 = 0) => absurd hc151 (by decide)) (fun hc151 => ?_)
          refine OwnK.iconst X73 hx (hb hby at_154) (pc' := 155) rfl (v := (1 : Int32)) (by decide) ?_
          refine OwnK.goto_ X73 hx (hb hby at_155) (by decide) (pc' := 159) (by decide) ?_
          refine OwnK.retNW_ X73 hx Yd32 hret (by simp) hlk (hb hby at_159) e73 (by decide) (by decide) ?_
          exact ⟨by rw [own_nar1], N74⟩
      · refine OwnK.new_ X32 hx hZ hown (hw _ (List.mem_of_getElem? (i := 0) rfl)) (hw _ (List.mem_of_getElem? (i := 1) rfl)) (hw _ (List.mem_of_getElem? (i := 2) rfl)) rfl (hb hby at_57) (pc' := 60) rfl (by decide) (by decide) (fun T75 h75 a75 X75 e75 g75 E75 A75 D75 => ?_)
        have q76 : a17 ≠ a75 := Nat.ne_of_lt (Nat.lt_of_lt_of_le f39.lt (Nat.le_of_eq g75.symm))
        have q77 : a3 ≠ a75 := Nat.ne_of_lt (Nat.lt_of_lt_of_le E32q.lt (Nat.le_of_eq g75.symm))
        have q78 : a8 ≠ a75 := Nat.ne_of_lt (Nat.lt_of_lt_of_le f35.lt (Nat.le_of_eq g75.symm))
        have q79 : t17 ≠ a75 := Nat.ne_of_lt (Nat.lt_of_lt_of_le f42.lt (Nat.le_of_eq g75.symm))
        have q80 : t8 ≠ a75 := Nat.ne_of_lt (Nat.lt_of_lt_of_le f38.lt (Nat.le_of_eq g75.symm))
        have ge_a75 : n0 ≤ a75 := Nat.le_trans z43 (Nat.le_of_eq g75.symm)
        have z81 : n0 ≤ h75.size := Nat.le_trans z43 E75.1
        have f82 := E32q.ext E75
        have f83 := f35.ext E75
        have f84 := f36.ext E75
        have f85 := f37.ext E75
        have f86 := f38.ext E75
        have f87 := f39.ext E75
        have f88 := f40.ext E75
        have f89 := f41.ext E75
        have f90 := f42.ext E75
        have f91 := Fn32.ext E75
        have f92 := Fv32.ext E75
        have O93 := O44.ext E75
        have Ye75 := Yd32.ext E75
        have f94 : Fld Z h75 a75 "com/example/traceway/traceway/core/Header" "name" "Ljava/lang/String;" .null := D75 (Or.inr (hw _ (List.mem_of_getElem? (i := 47) rfl))) (ty := (.object "java/lang/String")) (by decide)
        have f95 : Fld Z h75 a75 "com/example/traceway/traceway/core/Header" "value" "Ljava/lang/String;" .null := D75 (Or.inr (hw _ (List.mem_of_getElem? (i := 50) rfl))) (ty := (.object "java/lang/String")) (by decide)
        refine OwnK.dup X75 hx (hb hby at_60) (pc' := 61) rfl rfl ?_
        refine OwnK.iload X75 hx (hb hby at_61) (pc' := 63) rfl (v := vJ1) rfl ?_
        refine OwnK.callSW_ X75 hx Ye75 (y := (⟨"com/example/traceway/traceway/core/HeaderEqualsPinLaw", "mk", "(I)Ljava/lang/String;"⟩ : MethodName)) (hw _ (List.mem_of_getElem? (i := 3) rfl)) (hw _ (List.mem_of_getElem? (i := 4) rfl)) (hw _ (List.mem_of_getElem? (i := 5) rfl)) (hw _ (List.mem_of_getElem? (i := 6) rfl)) (by decide) (own_met1 l Z a0 hw h75 n0 z81 vJ1 cs O93  hcs SS ) (by decide) (W := 2) (by decide) e75 (by rw [hml]; rfl) own_pd_3 (argsL := [(.int vJ1)]) rfl (S := [(.ref a75), (.ref a75)]) rfl (Nat.le_of_eq rfl) (hb hby at_63) (pc' := 66) rfl (by decide) (by decide) (fun T96 v96 L96 X96 Yd96 hQ96 => ?_)
        have hZ := Yd96.z
        have hown := Yd96.o
        obtain ⟨a96, t96, kt96, rfl, N96q, K96, hr96, Es96, Cs96, Vs96, Bs96⟩ := hQ96
        have N97 := Fr.app N33 N96q
        have q98 : a17 ≠ a96 := Nat.ne_of_lt (Nat.lt_of_lt_of_le f87.lt hr96)
        have q99 : a3 ≠ a96 := Nat.ne_of_lt (Nat.lt_of_lt_of_le f82.lt hr96)
        have q100 : a75 ≠ a96 := Nat.ne_of_lt (Nat.lt_of_lt_of_le A75.lt hr96)
        have q101 : a8 ≠ a96 := Nat.ne_of_lt (Nat.lt_of_lt_of_le f83.lt hr96)
        have q102 : t17 ≠ a96 := Nat.ne_of_lt (Nat.lt_of_lt_of_le f90.lt hr96)
        have q103 : t8 ≠ a96 := Nat.ne_of_lt (Nat.lt_of_lt_of_le f86.lt hr96)
        have ge_a96 : n0 ≤ a96 := Nat.le_trans z81 hr96
        have f104 := f82.keep K96
        have f105 := f83.keep K96
        have f106 := f84.keep K96 nin0
        have f107 := f85.keep K96 nin0
        have f108 := f86.keep K96 nin0
        have f109 := f87.keep K96
        have f110 := f88.keep K96 nin0
        have f111 := f89.keep K96 nin0
        have f112 := f90.keep K96 nin0
        have f113 := f91.keep K96 nin0
        have f114 := f92.keep K96 nin0
        have f115 := A75.keep K96
        have f116 := f94.keep K96 nin0
        have f117 := f95.keep K96 nin0
        have z118 : n0 ≤ T96.heap.size := Nat.le_trans z81 K96.1
        have O119 := O93.keep K96 all0
        have q120 := own_nek (hw _ (List.mem_of_getElem? (i := 1) rfl)) f104 Bs96
        have q121 := own_nek (hw _ (List.mem_of_getElem? (i := 1) rfl)) f115 Bs96
        refine OwnK.iload X96 hx (hb hby at_66) (pc' := 68) rfl (v := vJ2) rfl ?_
        refine OwnK.callSW_ X96 hx Yd96 (y := (⟨"com/example/traceway/traceway/core/HeaderEqualsPinLaw", "mk", "(I)Ljava/lang/String;"⟩ : MethodName)) (hw _ (List.mem_of_getElem? (i := 3) rfl)) (hw _ (List.mem_of_getElem? (i := 4) rfl)) (hw _ (List.mem_of_getElem? (i := 5) rfl)) (hw _ (List.mem_of_getElem? (i := 6) rfl)) (by decide) (own_met1 l Z a0 hw T96.heap n0 z118 vJ2 cs O119  hcs SS ) (by decide) (W := 3) (by decide) rfl (by rw [hml]; rfl) own_pd_3 (argsL := [(.int vJ2)]) rfl (S := [(.ref a96), (.ref a75), (.ref a75)]) rfl (Nat.le_of_eq rfl) (hb hby at_68) (pc' := 71) rfl (by decide) (by decide) (fun T122 v122 L122 X122 Yd122 hQ122 => ?_)
        have hZ := Yd122.z
        have hown := Yd122.o
        obtain ⟨a122, t122, kt122, rfl, N122q, K122, hr122, Es122, Cs122, Vs122, Bs122⟩ := hQ122
        have N123 := Fr.app N97 N122q
        have q124 : a17 ≠ a122 := Nat.ne_of_lt (Nat.lt_of_lt_of_le f109.lt hr122)
        have q125 : a3 ≠ a122 := Nat.ne_of_lt (Nat.lt_of_lt_of_le f104.lt hr122)
        have q126 : a75 ≠ a122 := Nat.ne_of_lt (Nat.lt_of_lt_of_le f115.lt hr122)
        have q127 : a8 ≠ a122 := Nat.ne_of_lt (Nat.lt_of_lt_of_le f105.lt hr122)
        have q128 : a96 ≠ a122 := Nat.ne_of_lt (Nat.lt_of_lt_of_le Es96.lt hr122)
        have q129 : t17 ≠ a122 := Nat.ne_of_lt (Nat.lt_of_lt_of_le f112.lt hr122)
        have q130 : t8 ≠ a122 := Nat.ne_of_lt (Nat.lt_of_lt_of_le f108.lt hr122)
        have q131 : t96 ≠ a122 := Nat.ne_of_lt (Nat.lt_of_lt_of_le Bs96.lt hr122)
        have ge_a122 : n0 ≤ a122 := Nat.le_trans z118 hr122
        have f132 := f104.keep K122
        have f133 := f105.keep K122
        have f134 := f106.keep K122 nin0
        have f135 := f107.keep K122 nin0
        have f136 := f108.keep K122 nin0
        have f137 := f109.keep K122
        have f138 := f110.keep K122 nin0
        have f139 := f111.keep K122 nin0
        have f140 := f112.keep K122 nin0
        have f141 := f113.keep K122 nin0
        have f142 := f114.keep K122 nin0
        have f143 := f115.keep K122
        have f144 := f116.keep K122 nin0
        have f145 := f117.keep K122 nin0
        have f146 := Es96.keep K122
        have f147 := Cs96.keep K122 nin0
        have f148 := Vs96.keep K122 nin0
        have f149 := Bs96.keep K122 nin0
        have z150 : n0 ≤ T122.heap.size := Nat.le_trans z118 K122.1
        have O151 := O119.keep K122 all0
        have q152 := own_nek (hw _ (List.mem_of_getElem? (i := 1) rfl)) f132 Bs122
        have q153 := own_nek (hw _ (List.mem_of_getElem? (i := 1) rfl)) f143 Bs122
        refine OwnK.callIW_ X122 hx Yd122 (y := (⟨"com/example/traceway/traceway/core/Header", "<init>", "(Ljava/lang/String;Ljava/lang/String;)V"⟩ : MethodName)) (a := a75) rfl (hw _ (List.mem_of_getElem? (i := 36) rfl)) (hw _ (List.mem_of_getElem? (i := 37) rfl)) (hw _ (List.mem_of_getElem? (i := 2) rfl)) (hw _ (List.mem_of_getElem? (i := 38) rfl)) rfl (by decide) (own_met7 l Z a0 hw T122.heap n0 z150 a75 a96 a122   ge_a75 f143 f144 f145 f146 Es122 ) (by decide) (W := 1) (by decide) rfl (by rw [hml]; rfl) own_pd_8 (argsL := [(.ref a96), (.ref a122)]) rfl (S := [(.ref a75)]) rfl (Nat.le_of_eq rfl) (hb hby at_71) (pc' := 74) rfl (by decide) (by decide) (fun T154 v154 L154 X154 Yd154 hQ154 => ?_)
        have hZ := Yd154.z
        have hown := Yd154.o
        obtain ⟨rfl, N154q, K154, E154q, Fn154, Fv154⟩ := hQ154
        have N155 := Fr.app N123 N154q
        have f156 := f132.keep K154
        have f157 := f133.keep K154
        have f158 := f134.keep K154 (ninS q78 nin0)
        have f159 := f135.keep K154 (ninS q78 nin0)
        have f160 := f136.keep K154 (ninS q80 nin0)
        have f161 := f137.keep K154
        have f162 := f138.keep K154 (ninS q76 nin0)
        have f163 := f139.keep K154 (ninS q76 nin0)
        have f164 := f140.keep K154 (ninS q79 nin0)
        have f165 := f141.keep K154 (ninS q77 nin0)
        have f166 := f142.keep K154 (ninS q77 nin0)
        have f167 := f143.keep K154
        have f168 := f146.keep K154
        have f169 := f147.keep K154 (ninS (Ne.symm q100) nin0)
        have f170 := f148.keep K154 (ninS (Ne.symm q100) nin0)
        have f171 := f149.keep K154 (ninS (Ne.symm q121) nin0)
        have f172 := Es122.keep K154
        have f173 := Cs122.keep K154 (ninS (Ne.symm q126) nin0)
        have f174 := Vs122.keep K154 (ninS (Ne.symm q126) nin0)
        have f175 := Bs122.keep K154 (ninS (Ne.symm q153) nin0)
        have z176 : n0 ≤ T154.heap.size := Nat.le_trans z150 K154.1
        have O177 := O151.keep K154 (allS ge_a75 all0)
        refine OwnK.astore X154 hx (hb hby at_74) (pc' := 76) rfl rfl (Ls' := #[.val (.int q0), .val (.int q1), .val (.int q2), .val (.int q3), .val (.int q4), .val (.int vJ1), .val (.int vJ2), .val (.ref a3), .val (.int (q4 &&& (3 : Int32))), .val (.ref a75), .unset, .unset, .unset]) rfl ?_
        refine OwnK.iloadN X154 hx (hb hby at_76) (pc' := 77) rfl (v := q0) rfl ?_
        refine OwnK.iload X154 hx (hb hby at_77) (pc' := 79) rfl (v := vJ1) rfl ?_
        refine OwnK.callS_ X154 hx hZ hown (y := (⟨"com/example/traceway/traceway/core/HeaderEqualsPinLaw", "same", "(II)Z"⟩ : MethodName)) (hw _ (List.mem_of_getElem? (i := 51) rfl)) (hw _ (List.mem_of_getElem? (i := 52) rfl)) (hw _ (List.mem_of_getElem? (i := 5) rfl)) (hw _ (List.mem_of_getElem? (i := 53) rfl)) (by decide) (own_met9 l Z a0 hw T154.heap q0 vJ1  ) (by decide) (W := 0) (by decide) rfl (by rw [hml]; rfl) own_pd_5 (argsL := [(.int q0), (.int vJ1)]) rfl (S := []) rfl (Nat.le_of_eq rfl) (hb hby at_79) (pc' := 82) rfl (by decide) (by decide) (fun T178 v178 L178 X178 hQ178 => ?_)
        obtain ⟨rfl, e178, rfl⟩ := hQ178
        have N179 := Fr.app N155 (Fr.nil n0)
        refine OwnK.if_eq X178 hx (hb hby at_82) (by decide) (pcT := 98) (by decide) (pc' := 85) rfl (fun (hc180 : (own_sameI q0 vJ1).toInt = 0) => ?_) (fun (hc180 : ¬ (own_sameI q0 vJ1).toInt = 0) => ?_)
        · have hb82_0 : (own_str q0 vJ1).toInt = 0 := by rw [own_strs]; exact hc180
          have hb82_1 : (own_str vJ1 q0).toInt = 0 := by rw [own_strs']; exact hc180
          refine OwnK.iconst X178 hx (hb hby at_98) (pc' := 99) rfl (v := (0 : Int32)) (by decide) ?_
          refine OwnK.istore X178 hx (hb hby at_99) (pc' := 101) rfl (Ls' := #[.val (.int q0), .val (.int q1), .val (.int q2), .val (.int q3), .val (.int q4), .val (.int vJ1), .val (.int vJ2), .val (.ref a3), .val (.int (q4 &&& (3 : Int32))), .val (.ref a75), .val (.int (0 : Int32)), .unset, .unset]) rfl ?_
          refine OwnK.aload X178 hx (hb hby at_101) (pc' := 103) rfl (v := (.ref a3)) rfl rfl ?_
          refine OwnK.aload X178 hx (hb hby at_103) (pc' := 105) rfl (v := (.ref a75)) rfl rfl ?_
          refine OwnK.callV_ X178 hx hZ hown (y := (⟨"com/example/traceway/traceway/core/Header", "equals", "(Ljava/lang/Object;)Z"⟩ : MethodName)) (z := (⟨"com/example/traceway/traceway/core/Header", "equals", "(Ljava/lang/Object;)Z"⟩ : MethodName)) (a := a3) (hw _ (List.mem_of_getElem? (i := 54) rfl)) (hw _ (List.mem_of_getElem? (i := 55) rfl)) (notFace_of_selects (args := #[]) (mvT hZ (hw _ (List.mem_of_getElem? (i := 57) rfl)))) (hw _ (List.mem_of_getElem? (i := 57) rfl)) (hw _ (List.mem_of_getElem? (i := 56) rfl)) (hw _ (List.mem_of_getElem? (i := 58) rfl)) (hw _ (List.mem_of_getElem? (i := 2) rfl)) (by decide) f156 (own_met10 l Z a0 hw T154.heap a3 a75 n0 a8 a17 a96 a122 t8 t17 t96 t122 _ _ _ _ (own_len q0) (own_b0 q0) (own_b1 q0) (own_len q1) (own_b0 q1) (own_b1 q1) (own_len vJ1) (own_b0 vJ1) (own_b1 vJ1) (own_len vJ2) (own_b0 vJ2) (own_b1 vJ2) cs O177 f156 E154q f165 f166 Fn154 Fv154 ⟨f157, f158, f159, f160⟩ ⟨f161, f162, f163, f164⟩ ⟨f168, f169, f170, f171⟩ ⟨f172, f173, f174, f175⟩ (own_lenr q0).2 (own_lenr q1).2 (own_lenr vJ1).2 (own_lenr vJ2).2 hcs SS ) (by decide) (W := 0) (by decide) e178 (by rw [hml]; rfl) own_pd_6 (argsL := [(.ref a75)]) rfl (S := []) rfl (Nat.le_of_eq rfl) (hb hby at_105) (pc' := 108) rfl (by decide) (by decide) (fun T181 v181 L181 X181 hQ181 => ?_)
          obtain ⟨rfl, e181, rfl⟩ := hQ181
          have N182 := Fr.app N179 (Fr.nil n0)
          refine OwnK.istore X181 hx (hb hby at_108) (pc' := 110) rfl (Ls' := #[.val (.int q0), .val (.int q1), .val (.int q2), .val (.int q3), .val (.int q4), .val (.int vJ1), .val (.int vJ2), .val (.ref a3), .val (.int (q4 &&& (3 : Int32))), .val (.ref a75), .val (.int (0 : Int32)), .val (.int (own_both (own_eqI (own_len q0).toInt (own_b0 q0).toInt (own_b1 q0).toInt (own_len vJ1).toInt (own_b0 vJ1).toInt (own_b1 vJ1).toInt) (own_eqI (own_len q1).toInt (own_b0 q1).toInt (own_b1 q1).toInt (own_len vJ2).toInt (own_b0 vJ2).toInt (own_b1 vJ2).toInt))), .unset]) rfl ?_
          refine OwnK.aload X181 hx (hb hby at_110) (pc' := 112) rfl (v := (.ref a75)) rfl rfl ?_
          refine OwnK.aload X181 hx (hb hby at_112) (pc' := 114) rfl (v := (.ref a3)) rfl rfl ?_
          refine OwnK.callV_ X181 hx hZ hown (y := (⟨"com/example/traceway/traceway/core/Header", "equals", "(Ljava/lang/Object;)Z"⟩ : MethodName)) (z := (⟨"com/example/traceway/traceway/core/Header", "equals", "(Ljava/lang/Object;)Z"⟩ : MethodName)) (a := a75) (hw _ (List.mem_of_getElem? (i := 54) rfl)) (hw _ (List.mem_of_getElem? (i := 55) rfl)) (notFace_of_selects (args := #[]) (mvT hZ (hw _ (List.mem_of_getElem? (i := 57) rfl)))) (hw _ (List.mem_of_getElem? (i := 57) rfl)) (hw _ (List.mem_of_getElem? (i := 56) rfl)) (hw _ (List.mem_of_getElem? (i := 58) rfl)) (hw _ (List.mem_of_getElem? (i := 2) rfl)) (by decide) E154q (own_met10 l Z a0 hw T154.heap a75 a3 n0 a96 a122 a8 a17 t96 t122 t8 t17 _ _ _ _ (own_len vJ1) (own_b0 vJ1) (own_b1 vJ1) (own_len vJ2) (own_b0 vJ2) (own_b1 vJ2) (own_len q0) (own_b0 q0) (own_b1 q0) (own_len q1) (own_b0 q1) (own_b1 q1) cs O177 E154q f156 Fn154 Fv154 f165 f166 ⟨f168, f169, f170, f171⟩ ⟨f172, f173, f174, f175⟩ ⟨f157, f158, f159, f160⟩ ⟨f161, f162, f163, f164⟩ (own_lenr vJ1).2 (own_lenr vJ2).2 (own_lenr q0).2 (own_lenr q1).2 hcs SS ) (by decide) (W := 0) (by decide) e181 (by rw [hml]; rfl) own_pd_6 (argsL := [(.ref a3)]) rfl (S := []) rfl (Nat.le_of_eq rfl) (hb hby at_114) (pc' := 117) rfl (by decide) (by decide) (fun T183 v183 L183 X183 hQ183 => ?_)
          obtain ⟨rfl, e183, rfl⟩ := hQ183
          have N184 := Fr.app N182 (Fr.nil n0)
          refine OwnK.istore X183 hx (hb hby at_117) (pc' := 119) rfl (Ls' := #[.val (.int q0), .val (.int q1), .val (.int q2), .val (.int q3), .val (.int q4), .val (.int vJ1), .val (.int vJ2), .val (.ref a3), .val (.int (q4 &&& (3 : Int32))), .val (.ref a75), .val (.int (0 : Int32)), .val (.int (own_both (own_eqI (own_len q0).toInt (own_b0 q0).toInt (own_b1 q0).toInt (own_len vJ1).toInt (own_b0 vJ1).toInt (own_b1 vJ1).toInt) (own_eqI (own_len q1).toInt (own_b0 q1).toInt (own_b1 q1).toInt (own_len vJ2).toInt (own_b0 vJ2).toInt (own_b1 vJ2).toInt))), .val (.int (own_both (own_eqI (own_len vJ1).toInt (own_b0 vJ1).toInt (own_b1 vJ1).toInt (own_len q0).toInt (own_b0 q0).toInt (own_b1 q0).toInt) (own_eqI (own_len vJ2).toInt (own_b0 vJ2).toInt (own_b1 vJ2).toInt (own_len q1).toInt (own_b0 q1).toInt (own_b1 q1).toInt)))]) rfl ?_
          refine OwnK.iload X183 hx (hb hby at_119) (pc' := 121) rfl (v := (own_both (own_eqI (own_len q0).toInt (own_b0 q0).toInt (own_b1 q0).toInt (own_len vJ1).toInt (own_b0 vJ1).toInt (own_b1 vJ1).toInt) (own_eqI (own_len q1).toInt (own_b0 q1).toInt (own_b1 q1).toInt (own_len vJ2).toInt (own_b0 vJ2).toInt (own_b1 vJ2).toInt))) rfl ?_
          refine OwnK.iload X183 hx (hb hby at_121) (pc' := 123) rfl (v := (0 : Int32)) rfl ?_
          refine OwnK.icmp_ne X183 hx (hb hby at_123) (by decide) (pcT := 137) (by decide) (pc' := 126) rfl (fun (hc123 : ¬ (own_both (own_eqI (own_len q0).toInt (own_b0 q0).toInt (own_b1 q0).toInt (own_len vJ1).toInt (own_b0 vJ1).toInt (own_b1 vJ1).toInt) (own_eqI (own_len q1).toInt (own_b0 q1).toInt (own_b1 q1).toInt (own_len vJ2).toInt (own_b0 vJ2).toInt (own_b1 vJ2).toInt)).toInt = 0) => absurd ((congrArg Int32.toInt (own_bol hb82_0)).trans own_i0) hc123) (fun hc123 => ?_)
          refine OwnK.iload X183 hx (hb hby at_126) (pc' := 128) rfl (v := (own_both (own_eqI (own_len vJ1).toInt (own_b0 vJ1).toInt (own_b1 vJ1).toInt (own_len q0).toInt (own_b0 q0).toInt (own_b1 q0).toInt) (own_eqI (own_len vJ2).toInt (own_b0 vJ2).toInt (own_b1 vJ2).toInt (own_len q1).toInt (own_b0 q1).toInt (own_b1 q1).toInt))) rfl ?_
          refine OwnK.iload X183 hx (hb hby at_128) (pc' := 130) rfl (v := (0 : Int32)) rfl ?_
          refine OwnK.icmp_ne X183 hx (hb hby at_130) (by decide) (pcT := 137) (by decide) (pc' := 133) rfl (fun (hc130 : ¬ (own_both (own_eqI (own_len vJ1).toInt (own_b0 vJ1).toInt (own_b1 vJ1).toInt (own_len q0).toInt (own_b0 q0).toInt (own_b1 q0).toInt) (own_eqI (own_len vJ2).toInt (own_b0 vJ2).toInt (own_b1 vJ2).toInt (own_len q1).toInt (own_b0 q1).toInt (own_b1 q1).toInt)).toInt = 0) => absurd ((congrArg Int32.toInt (own_bol hb82_1)).trans own_i0) hc130) (fun hc130 => ?_)
          refine OwnK.iconst X183 hx (hb hby at_133) (pc' := 134) rfl (v := (1 : Int32)) (by decide) ?_
          refine OwnK.goto_ X183 hx (hb hby at_134) (by decide) (pc' := 138) (by decide) ?_
          refine OwnK.retNW_ X183 hx Yd154 hret (by simp) hlk (hb hby at_138) e183 (by decide) (by decide) ?_
          exact ⟨by rw [own_nar1], N184⟩
        · have hb82_0 : ¬ (own_str q0 vJ1).toInt = 0 := by rw [own_strs]; exact hc180
          have hb82_1 : ¬ (own_str vJ1 q0).toInt = 0 := by rw [own_strs']; exact hc180
          refine OwnK.iloadN X178 hx (hb hby at_85) (pc' := 86) rfl (v := q1) rfl ?_
          refine OwnK.iload X178 hx (hb hby at_86) (pc' := 88) rfl (v := vJ2) rfl ?_
          refine OwnK.callS_ X178 hx hZ hown (y := (⟨"com/example/traceway/traceway/core/HeaderEqualsPinLaw", "same", "(II)Z"⟩ : MethodName)) (hw _ (List.mem_of_getElem? (i := 51) rfl)) (hw _ (List.mem_of_getElem? (i := 52) rfl)) (hw _ (List.mem_of_getElem? (i := 5) rfl)) (hw _ (List.mem_of_getElem? (i := 53) rfl)) (by decide) (own_met9 l Z a0 hw T154.heap q1 vJ2  ) (by decide) (W := 0) (by decide) e178 (by rw [hml]; rfl) own_pd_5 (argsL := [(.int q1), (.int vJ2)]) rfl (S := []) rfl (Nat.le_of_eq rfl) (hb hby at_88) (pc' := 91) rfl (by decide) (by decide) (fun T185 v185 L185 X185 hQ185 => ?_)
          obtain ⟨rfl, e185, rfl⟩ := hQ185
          have N186 := Fr.app N179 (Fr.nil n0)
          refine OwnK.if_eq X185 hx (hb hby at_91) (by decide) (pcT := 98) (by decide) (pc' := 94) rfl (fun (hc187 : (own_sameI q1 vJ2).toInt = 0) => ?_) (fun (hc187 : ¬ (own_sameI q1 vJ2).toInt = 0) => ?_)
          · have hb91_0 : (own_str q1 vJ2).toInt = 0 := by rw [own_strs]; exact hc187
            have hb91_1 : (own_str vJ2 q1).toInt = 0 := by rw [own_strs']; exact hc187
            refine OwnK.iconst X185 hx (hb hby at_98) (pc' := 99) rfl (v := (0 : Int32)) (by decide) ?_
            refine OwnK.istore X185 hx (hb hby at_99) (pc' := 101) rfl (Ls' := #[.val (.int q0), .val (.int q1), .val (.int q2), .val (.int q3), .val (.int q4), .val (.int vJ1), .val (.int vJ2), .val (.ref a3), .val (.int (q4 &&& (3 : Int32))), .val (.ref a75), .val (.int (0 : Int32)), .unset, .unset]) rfl ?_
            refine OwnK.aload X185 hx (hb hby at_101) (pc' := 103) rfl (v := (.ref a3)) rfl rfl ?_
            refine OwnK.aload X185 hx (hb hby at_103) (pc' := 105) rfl (v := (.ref a75)) rfl rfl ?_
            refine OwnK.callV_ X185 hx hZ hown (y := (⟨"com/example/traceway/traceway/core/Header", "equals", "(Ljava/lang/Object;)Z"⟩ : MethodName)) (z := (⟨"com/example/traceway/traceway/core/Header", "equals", "(Ljava/lang/Object;)Z"⟩ : MethodName)) (a := a3) (hw _ (List.mem_of_getElem? (i := 54) rfl)) (hw _ (List.mem_of_getElem? (i := 55) rfl)) (notFace_of_selects (args := #[]) (mvT hZ (hw _ (List.mem_of_getElem? (i := 57) rfl)))) (hw _ (List.mem_of_getElem? (i := 57) rfl)) (hw _ (List.mem_of_getElem? (i := 56) rfl)) (hw _ (List.mem_of_getElem? (i := 58) rfl)) (hw _ (List.mem_of_getElem? (i := 2) rfl)) (by decide) f156 (own_met10 l Z a0 hw T154.heap a3 a75 n0 a8 a17 a96 a122 t8 t17 t96 t122 _ _ _ _ (own_len q0) (own_b0 q0) (own_b1 q0) (own_len q1) (own_b0 q1) (own_b1 q1) (own_len vJ1) (own_b0 vJ1) (own_b1 vJ1) (own_len vJ2) (own_b0 vJ2) (own_b1 vJ2) cs O177 f156 E154q f165 f166 Fn154 Fv154 ⟨f157, f158, f159, f160⟩ ⟨f161, f162, f163, f164⟩ ⟨f168, f169, f170, f171⟩ ⟨f172, f173, f174, f175⟩ (own_lenr q0).2 (own_lenr q1).2 (own_lenr vJ1).2 (own_lenr vJ2).2 hcs SS ) (by decide) (W := 0) (by decide) e185 (by rw [hml]; rfl) own_pd_6 (argsL := [(.ref a75)]) rfl (S := []) rfl (Nat.le_of_eq rfl) (hb hby at_105) (pc' := 108) rfl (by decide) (by decide) (fun T188 v188 L188 X188 hQ188 => ?_)
            obtain ⟨rfl, e188, rfl⟩ := hQ188
            have N189 := Fr.app N186 (Fr.nil n0)
            refine OwnK.istore X188 hx (hb hby at_108) (pc' := 110) rfl (Ls' := #[.val (.int q0), .val (.int q1), .val (.int q2), .val (.int q3), .val (.int q4), .val (.int vJ1), .val (.int vJ2), .val (.ref a3), .val (.int (q4 &&& (3 : Int32))), .val (.ref a75), .val (.int (0 : Int32)), .val (.int (own_both (own_eqI (own_len q0).toInt (own_b0 q0).toInt (own_b1 q0).toInt (own_len vJ1).toInt (own_b0 vJ1).toInt (own_b1 vJ1).toInt) (own_eqI (own_len q1).toInt (own_b0 q1).toInt (own_b1 q1).toInt (own_len vJ2).toInt (own_b0 vJ2).toInt (own_b1 vJ2).toInt))), .unset]) rfl ?_
            refine OwnK.aload X188 hx (hb hby at_110) (pc' := 112) rfl (v := (.ref a75)) rfl rfl ?_
            refine OwnK.aload X188 hx (hb hby at_112) (pc' := 114) rfl (v := (.ref a3)) rfl rfl ?_
            refine OwnK.callV_ X188 hx hZ hown (y := (⟨"com/example/traceway/traceway/core/Header", "equals", "(Ljava/lang/Object;)Z"⟩ : MethodName)) (z := (⟨"com/example/traceway/traceway/core/Header", "equals", "(Ljava/lang/Object;)Z"⟩ : MethodName)) (a := a75) (hw _ (List.mem_of_getElem? (i := 54) rfl)) (hw _ (List.mem_of_getElem? (i := 55) rfl)) (notFace_of_selects (args := #[]) (mvT hZ (hw _ (List.mem_of_getElem? (i := 57) rfl)))) (hw _ (List.mem_of_getElem? (i := 57) rfl)) (hw _ (List.mem_of_getElem? (i := 56) rfl)) (hw _ (List.mem_of_getElem? (i := 58) rfl)) (hw _ (List.mem_of_getElem? (i := 2) rfl)) (by decide) E154q (own_met10 l Z a0 hw T154.heap a75 a3 n0 a96 a122 a8 a17 t96 t122 t8 t17 _ _ _ _ (own_len vJ1) (own_b0 vJ1) (own_b1 vJ1) (own_len vJ2) (own_b0 vJ2) (own_b1 vJ2) (own_len q0) (own_b0 q0) (own_b1 q0) (own_len q1) (own_b0 q1) (own_b1 q1) cs O177 E154q f156 Fn154 Fv154 f165 f166 ⟨f168, f169, f170, f171⟩ ⟨f172, f173, f174, f175⟩ ⟨f157, f158, f159, f160⟩ ⟨f161, f162, f163, f164⟩ (own_lenr vJ1).2 (own_lenr vJ2).2 (own_lenr q0).2 (own_lenr q1).2 hcs SS ) (by decide) (W := 0) (by decide) e188 (by rw [hml]; rfl) own_pd_6 (argsL := [(.ref a3)]) rfl (S := []) rfl (Nat.le_of_eq rfl) (hb hby at_114) (pc' := 117) rfl (by decide) (by decide) (fun T190 v190 L190 X190 hQ190 => ?_)
            obtain ⟨rfl, e190, rfl⟩ := hQ190
            have N191 := Fr.app N189 (Fr.nil n0)
            refine OwnK.istore X190 hx (hb hby at_117) (pc' := 119) rfl (Ls' := #[.val (.int q0), .val (.int q1), .val (.int q2), .val (.int q3), .val (.int q4), .val (.int vJ1), .val (.int vJ2), .val (.ref a3), .val (.int (q4 &&& (3 : Int32))), .val (.ref a75), .val (.int (0 : Int32)), .val (.int (own_both (own_eqI (own_len q0).toInt (own_b0 q0).toInt (own_b1 q0).toInt (own_len vJ1).toInt (own_b0 vJ1).toInt (own_b1 vJ1).toInt) (own_eqI (own_len q1).toInt (own_b0 q1).toInt (own_b1 q1).toInt (own_len vJ2).toInt (own_b0 vJ2).toInt (own_b1 vJ2).toInt))), .val (.int (own_both (own_eqI (own_len vJ1).toInt (own_b0 vJ1).toInt (own_b1 vJ1).toInt (own_len q0).toInt (own_b0 q0).toInt (own_b1 q0).toInt) (own_eqI (own_len vJ2).toInt (own_b0 vJ2).toInt (own_b1 vJ2).toInt (own_len q1).toInt (own_b0 q1).toInt (own_b1 q1).toInt)))]) rfl ?_
            refine OwnK.iload X190 hx (hb hby at_119) (pc' := 121) rfl (v := (own_both (own_eqI (own_len q0).toInt (own_b0 q0).toInt (own_b1 q0).toInt (own_len vJ1).toInt (own_b0 vJ1).toInt (own_b1 vJ1).toInt) (own_eqI (own_len q1).toInt (own_b0 q1).toInt (own_b1 q1).toInt (own_len vJ2).toInt (own_b0 vJ2).toInt (own_b1 vJ2).toInt))) rfl ?_
            refine OwnK.iload X190 hx (hb hby at_121) (pc' := 123) rfl (v := (0 : Int32)) rfl ?_
            refine OwnK.icmp_ne X190 hx (hb hby at_123) (by decide) (pcT := 137) (by decide) (pc' := 126) rfl (fun (hc123 : ¬ (own_both (own_eqI (own_len q0).toInt (own_b0 q0).toInt (own_b1 q0).toInt (own_len vJ1).toInt (own_b0 vJ1).toInt (own_b1 vJ1).toInt) (own_eqI (own_len q1).toInt (own_b0 q1).toInt (own_b1 q1).toInt (own_len vJ2).toInt (own_b0 vJ2).toInt (own_b1 vJ2).toInt)).toInt = 0) => absurd ((congrArg Int32.toInt (own_bor hb91_0)).trans own_i0) hc123) (fun hc123 => ?_)
            refine OwnK.iload X190 hx (hb hby at_126) (pc' := 128) rfl (v := (own_both (own_eqI (own_len vJ1).toInt (own_b0 vJ1).toInt (own_b1 vJ1).toInt (own_len q0).toInt (own_b0 q0).toInt (own_b1 q0).toInt) (own_eqI (own_len vJ2).toInt (own_b0 vJ2).toInt (own_b1 vJ2).toInt (own_len q1).toInt (own_b0 q1).toInt (own_b1 q1).toInt))) rfl ?_
            refine OwnK.iload X190 hx (hb hby at_128) (pc' := 130) rfl (v := (0 : Int32)) rfl ?_
            refine OwnK.icmp_ne X190 hx (hb hby at_130) (by decide) (pcT := 137) (by decide) (pc' := 133) rfl (fun (hc130 : ¬ (own_both (own_eqI (own_len vJ1).toInt (own_b0 vJ1).toInt (own_b1 vJ1).toInt (own_len q0).toInt (own_b0 q0).toInt (own_b1 q0).toInt) (own_eqI (own_len vJ2).toInt (own_b0 vJ2).toInt (own_b1 vJ2).toInt (own_len q1).toInt (own_b0 q1).toInt (own_b1 q1).toInt)).toInt = 0) => absurd ((congrArg Int32.toInt (own_bor hb91_1)).trans own_i0) hc130) (fun hc130 => ?_)
            refine OwnK.iconst X190 hx (hb hby at_133) (pc' := 134) rfl (v := (1 : Int32)) (by decide) ?_
            refine OwnK.goto_ X190 hx (hb hby at_134) (by decide) (pc' := 138) (by decide) ?_
            refine OwnK.retNW_ X190 hx Yd154 hret (by simp) hlk (hb hby at_138) e190 (by decide) (by decide) ?_
            exact ⟨by rw [own_nar1], N191⟩
          · have hb91_0 : ¬ (own_str q1 vJ2).toInt = 0 := by rw [own_strs]; exact hc187
            have hb91_1 : ¬ (own_str vJ2 q1).toInt = 0 := by rw [own_strs']; exact hc187
            refine OwnK.iconst X185 hx (hb hby at_94) (pc' := 95) rfl (v := (1 : Int32)) (by decide) ?_
            refine OwnK.goto_ X185 hx (hb hby at_95) (by decide) (pc' := 99) (by decide) ?_
            refine OwnK.istore X185 hx (hb hby at_99) (pc' := 101) rfl (Ls' := #[.val (.int q0), .val (.int q1), .val (.int q2), .val (.int q3), .val (.int q4), .val (.int vJ1), .val (.int vJ2), .val (.ref a3), .val (.int (q4 &&& (3 : Int32))), .val (.ref a75), .val (.int (1 : Int32)), .unset, .unset]) rfl ?_
            refine OwnK.aload X185 hx (hb hby at_101) (pc' := 103) rfl (v := (.ref a3)) rfl rfl ?_
            refine OwnK.aload X185 hx (hb hby at_103) (pc' := 105) rfl (v := (.ref a75)) rfl rfl ?_
            refine OwnK.callV_ X185 hx hZ hown (y := (⟨"com/example/traceway/traceway/core/Header", "equals", "(Ljava/lang/Object;)Z"⟩ : MethodName)) (z := (⟨"com/example/traceway/traceway/core/Header", "equals", "(Ljava/lang/Object;)Z"⟩ : MethodName)) (a := a3) (hw _ (List.mem_of_getElem? (i := 54) rfl)) (hw _ (List.mem_of_getElem? (i := 55) rfl)) (notFace_of_selects (args := #[]) (mvT hZ (hw _ (List.mem_of_getElem? (i := 57) rfl)))) (hw _ (List.mem_of_getElem? (i := 57) rfl)) (hw _ (List.mem_of_getElem? (i := 56) rfl)) (hw _ (List.mem_of_getElem? (i := 58) rfl)) (hw _ (List.mem_of_getElem? (i := 2) rfl)) (by decide) f156 (own_met10 l Z a0 hw T154.heap a3 a75 n0 a8 a17 a96 a122 t8 t17 t96 t122 _ _ _ _ (own_len q0) (own_b0 q0) (own_b1 q0) (own_len q1) (own_b0 q1) (own_b1 q1) (own_len vJ1) (own_b0 vJ1) (own_b1 vJ1) (own_len vJ2) (own_b0 vJ2) (own_b1 vJ2) cs O177 f156 E154q f165 f166 Fn154 Fv154 ⟨f157, f158, f159, f160⟩ ⟨f161, f162, f163, f164⟩ ⟨f168, f169, f170, f171⟩ ⟨f172, f173, f174, f175⟩ (own_lenr q0).2 (own_lenr q1).2 (own_lenr vJ1).2 (own_lenr vJ2).2 hcs SS ) (by decide) (W := 0) (by decide) e185 (by rw [hml]; rfl) own_pd_6 (argsL := [(.ref a75)]) rfl (S := []) rfl (Nat.le_of_eq rfl) (hb hby at_105) (pc' := 108) rfl (by decide) (by decide) (fun T192 v192 L192 X192 hQ192 => ?_)
            obtain ⟨rfl, e192, rfl⟩ := hQ192
            have N193 := Fr.app N186 (Fr.nil n0)
            refine OwnK.istore X192 hx (hb hby at_108) (pc' := 110) rfl (Ls' := #[.val (.int q0), .val (.int q1), .val (.int q2), .val (.int q3), .val (.int q4), .val (.int vJ1), .val (.int vJ2), .val (.ref a3), .val (.int (q4 &&& (3 : Int32))), .val (.ref a75), .val (.int (1 : Int32)), .val (.int (own_both (own_eqI (own_len q0).toInt (own_b0 q0).toInt (own_b1 q0).toInt (own_len vJ1).toInt (own_b0 vJ1).toInt (own_b1 vJ1).toInt) (own_eqI (own_len q1).toInt (own_b0 q1).toInt (own_b1 q1).toInt (own_len vJ2).toInt (own_b0 vJ2).toInt (own_b1 vJ2).toInt))), .unset]) rfl ?_
            refine OwnK.aload X192 hx (hb hby at_110) (pc' := 112) rfl (v := (.ref a75)) rfl rfl ?_
            refine OwnK.aload X192 hx (hb hby at_112) (pc' := 114) rfl (v := (.ref a3)) rfl rfl ?_
            refine OwnK.callV_ X192 hx hZ hown (y := (⟨"com/example/traceway/traceway/core/Header", "equals", "(Ljava/lang/Object;)Z"⟩ : MethodName)) (z := (⟨"com/example/traceway/traceway/core/Header", "equals", "(Ljava/lang/Object;)Z"⟩ : MethodName)) (a := a75) (hw _ (List.mem_of_getElem? (i := 54) rfl)) (hw _ (List.mem_of_getElem? (i := 55) rfl)) (notFace_of_selects (args := #[]) (mvT hZ (hw _ (List.mem_of_getElem? (i := 57) rfl)))) (hw _ (List.mem_of_getElem? (i := 57) rfl)) (hw _ (List.mem_of_getElem? (i := 56) rfl)) (hw _ (List.mem_of_getElem? (i := 58) rfl)) (hw _ (List.mem_of_getElem? (i := 2) rfl)) (by decide) E154q (own_met10 l Z a0 hw T154.heap a75 a3 n0 a96 a122 a8 a17 t96 t122 t8 t17 _ _ _ _ (own_len vJ1) (own_b0 vJ1) (own_b1 vJ1) (own_len vJ2) (own_b0 vJ2) (own_b1 vJ2) (own_len q0) (own_b0 q0) (own_b1 q0) (own_len q1) (own_b0 q1) (own_b1 q1) cs O177 E154q f156 Fn154 Fv154 f165 f166 ⟨f168, f169, f170, f171⟩ ⟨f172, f173, f174, f175⟩ ⟨f157, f158, f159, f160⟩ ⟨f161, f162, f163, f164⟩ (own_lenr vJ1).2 (own_lenr vJ2).2 (own_lenr q0).2 (own_lenr q1).2 hcs SS ) (by decide) (W := 0) (by decide) e192 (by rw [hml]; rfl) own_pd_6 (argsL := [(.ref a3)]) rfl (S := []) rfl (Nat.le_of_eq rfl) (hb hby at_114) (pc' := 117) rfl (by decide) (by decide) (fun T194 v194 L194 X194 hQ194 => ?_)
            obtain ⟨rfl, e194, rfl⟩ := hQ194
            have N195 := Fr.app N193 (Fr.nil n0)
            refine OwnK.istore X194 hx (hb hby at_117) (pc' := 119) rfl (Ls' := #[.val (.int q0), .val (.int q1), .val (.int q2), .val (.int q3), .val (.int q4), .val (.int vJ1), .val (.int vJ2), .val (.ref a3), .val (.int (q4 &&& (3 : Int32))), .val (.ref a75), .val (.int (1 : Int32)), .val (.int (own_both (own_eqI (own_len q0).toInt (own_b0 q0).toInt (own_b1 q0).toInt (own_len vJ1).toInt (own_b0 vJ1).toInt (own_b1 vJ1).toInt) (own_eqI (own_len q1).toInt (own_b0 q1).toInt (own_b1 q1).toInt (own_len vJ2).toInt (own_b0 vJ2).toInt (own_b1 vJ2).toInt))), .val (.int (own_both (own_eqI (own_len vJ1).toInt (own_b0 vJ1).toInt (own_b1 vJ1).toInt (own_len q0).toInt (own_b0 q0).toInt (own_b1 q0).toInt) (own_eqI (own_len vJ2).toInt (own_b0 vJ2).toInt (own_b1 vJ2).toInt (own_len q1).toInt (own_b0 q1).toInt (own_b1 q1).toInt)))]) rfl ?_
            refine OwnK.iload X194 hx (hb hby at_119) (pc' := 121) rfl (v := (own_both (own_eqI (own_len q0).toInt (own_b0 q0).toInt (own_b1 q0).toInt (own_len vJ1).toInt (own_b0 vJ1).toInt (own_b1 vJ1).toInt) (own_eqI (own_len q1).toInt (own_b0 q1).toInt (own_b1 q1).toInt (own_len vJ2).toInt (own_b0 vJ2).toInt (own_b1 vJ2).toInt))) rfl ?_
            refine OwnK.iload X194 hx (hb hby at_121) (pc' := 123) rfl (v := (1 : Int32)) rfl ?_
            refine OwnK.icmp_ne X194 hx (hb hby at_123) (by decide) (pcT := 137) (by decide) (pc' := 126) rfl (fun (hc123 : ¬ (own_both (own_eqI (own_len q0).toInt (own_b0 q0).toInt (own_b1 q0).toInt (own_len vJ1).toInt (own_b0 vJ1).toInt (own_b1 vJ1).toInt) (own_eqI (own_len q1).toInt (own_b0 q1).toInt (own_b1 q1).toInt (own_len vJ2).toInt (own_b0 vJ2).toInt (own_b1 vJ2).toInt)).toInt = 1) => absurd ((congrArg Int32.toInt (own_bo1 hb82_0 hb91_0)).trans own_i1) hc123) (fun hc123 => ?_)
            refine OwnK.iload X194 hx (hb hby at_126) (pc' := 128) rfl (v := (own_both (own_eqI (own_len vJ1).toInt (own_b0 vJ1).toInt (own_b1 vJ1).toInt (own_len q0).toInt (own_b0 q0).toInt (own_b1 q0).toInt) (own_eqI (own_len vJ2).toInt (own_b0 vJ2).toInt (own_b1 vJ2).toInt (own_len q1).toInt (own_b0 q1).toInt (own_b1 q1).toInt))) rfl ?_
            refine OwnK.iload X194 hx (hb hby at_128) (pc' := 130) rfl (v := (1 : Int32)) rfl ?_
            refine OwnK.icmp_ne X194 hx (hb hby at_130) (by decide) (pcT := 137) (by decide) (pc' := 133) rfl (fun (hc130 : ¬ (own_both (own_eqI (own_len vJ1).toInt (own_b0 vJ1).toInt (own_b1 vJ1).toInt (own_len q0).toInt (own_b0 q0).toInt (own_b1 q0).toInt) (own_eqI (own_len vJ2).toInt (own_b0 vJ2).toInt (own_b1 vJ2).toInt (own_len q1).toInt (own_b0 q1).toInt (own_b1 q1).toInt)).toInt = 1) => absurd ((congrArg Int32.toInt (own_bo1 hb82_1 hb91_1)).trans own_i1) hc130) (fun hc130 => ?_)
            refine OwnK.iconst X194 hx (hb hby at_133) (pc' := 134) rfl (v := (1 : Int32)) (by decide) ?_
            refine OwnK.goto_ X194 hx (hb hby at_134) (by decide) (pc' := 138) (by decide) ?_
            refine OwnK.retNW_ X194 hx Yd154 hret (by simp) hlk (hb hby at_138) e194 (by decide) (by decide) ?_
            exact ⟨by rw [own_nar1], N195⟩
    refine OwnK.iload X0 hx (hb hby at_14) (pc' := 16) rfl (v := q4) rfl ?_
    refine OwnK.bipush X0 hx (hb hby at_16) (pc' := 18) rfl (v := (8 : Int32)) (by decide) ?_
    refine OwnK.iand X0 hx (hb hby at_18) (pc' := 19) rfl ?_
    refine OwnK.if_eq X0 hx (hb hby at_19) (by decide) (pcT := 26) (by decide) (pc' := 22) rfl (fun (hc196 : (q4 &&& (8 : Int32)).toInt = 0) => ?_) (fun (hc196 : ¬ (q4 &&& (8 : Int32)).toInt = 0) => ?_)
    · refine OwnK.iloadN X0 hx (hb hby at_26) (pc' := 27) rfl (v := q3) rfl ?_
      exact J2 _
    · refine OwnK.iloadN X0 hx (hb hby at_22) (pc' := 23) rfl (v := q1) rfl ?_
      refine OwnK.goto_ X0 hx (hb hby at_23) (by decide) (pc' := 27) (by decide) ?_
      exact J2 _
  refine OwnK.iload X0 hx (hb hby at_0) (pc' := 2) rfl (v := q4) rfl ?_
  refine OwnK.iconst X0 hx (hb hby at_2) (pc' := 3) rfl (v := (4 : Int32)) (by decide) ?_
  refine OwnK.iand X0 hx (hb hby at_3) (pc' := 4) rfl ?_
  refine OwnK.if_eq X0 hx (hb hby at_4) (by decide) (pcT := 11) (by decide) (pc' := 7) rfl (fun (hc197 : (q4 &&& (4 : Int32)).toInt = 0) => ?_) (fun (hc197 : ¬ (q4 &&& (4 : Int32)).toInt = 0) => ?_)
  · refine OwnK.iloadN X0 hx (hb hby at_11) (pc' := 12) rfl (v := q2) rfl ?_
    exact J1 _
  · refine OwnK.iloadN X0 hx (hb hby at_7) (pc' := 8) rfl (v := q0) rfl ?_
    refine OwnK.goto_ X0 hx (hb hby at_8) (by decide) (pc' := 12) (by decide) ?_
    exact J1 _
set_option maxRecDepth 65536 in
set_option maxHeartbeats 40000000 in
theorem comes_1 {Post : Tables → Env → Array Value → State → Outcome → State → Prop} (hpost : ∀ tb e args s v u, (limb_1_1.after args s (.returned v) u = true ∧ limb_1_2.after args s (.returned v) u = true ∧ True) → ReturnedEndW s (.returned v) u (Jvm.fieldLocs frame_1_writes args s ++ Jvm.arrayLocs frame_1_arrays args s ++ Jvm.staticLocs frame_1_statics s) 48 3264 → Post tb e args s (.returned v) u) :
    ArmFor flags0 classFile x code maxLocals ret World_1 tables_1 room_1 Calls_1 rest_1 Pre_1 Post := by
  intro l hfl _ _ p e ha hc hk s m args below hf hA hF happ hP
  obtain ⟨hcalls, hrest, hpre⟩ := hP
  obtain ⟨-, -, -, hnamed, -, -, -, hat⟩ := (Spec.applies_iff hf).mp happ
  obtain ⟨hg, hn⟩ := and_e (Cond.before_iff.mp (show (Jvm.Cond.and given_1 narrow_1).before args s = true from hpre))
  obtain ⟨hcnt, hg0⟩ := and_e hg
  obtain ⟨ha0, hg1⟩ := and_e hg0
  obtain ⟨ha1, hg2⟩ := and_e hg1
  obtain ⟨ha2, hg3⟩ := and_e hg2
  obtain ⟨ha3, hg4⟩ := and_e hg3
  have ha4 := hg4
  obtain ⟨w0, w1, w2, w3, w4, rfl⟩ : ∃ w0 w1 w2 w3 w4 : Value, args = #[w0, w1, w2, w3, w4] := by
    have hs : args.size = 5 := by simpa [Cond.value, given_1] using hcnt
    obtain ⟨L⟩ := args
    match L, hs with
    | [w0, w1, w2, w3, w4], _ => exact ⟨w0, w1, w2, w3, w4, rfl⟩
  have hw := fun d (hd : d ∈ tables_1) => atoms_spec (ws := Jvm.Cond.code x code maxLocals ret :: tables_1) hat d (List.mem_cons_of_mem _ hd)
  obtain ⟨hsets, hown0⟩ := atoms_of _ (rest_1_c_eq ▸ (show rest_1_c.before _ s = true from hrest))
  have hfit : Fit s := fun {y c} hc i hi => by
    obtain ⟨ha, rfl⟩ := Array.getElem?_eq_some_iff.mp hc
    have q := List.all_eq_true.mp ((Array.all_eq_true_iff_forall_mem.mp hF) _ (Array.getElem_mem ha)) i (List.mem_range.mpr hi)
    simpa [Array.getElem?_eq_getElem hi] using q
  obtain ⟨i0, e0⟩ := is_v ha0
  obtain rfl : w0 = (.int i0) := Option.some.inj e0
  obtain ⟨i1, e1⟩ := is_v ha1
  obtain rfl : w1 = (.int i1) := Option.some.inj e1
  obtain ⟨i2, e2⟩ := is_v ha2
  obtain rfl : w2 = (.int i2) := Option.some.inj e2
  obtain ⟨i3, e3⟩ := is_v ha3
  obtain rfl : w3 = (.int i3) := Option.some.inj e3
  obtain ⟨i4, e4⟩ := is_v ha4
  obtain rfl : w4 = (.int i4) := Option.some.inj e4
  obtain ⟨cs, exc⟩ := is_v (Cond.before_iff.mp (hsets _ (List.mem_of_getElem? (i := 1) rfl)))
  have SS := Sta.start exc (Or.inl (hsets _ (List.mem_of_getElem? (i := 0) rfl)))
  have hcs : ¬ cs.toInt = 0 := own_cs exc (hsets _ (List.mem_of_getElem? (i := 2) rfl))
  obtain ⟨n, o, h1, h2, h3, _, L, rfl, ⟨rfl, N⟩, -, hq⟩ := own_law l s _ hw tables_1 s.heap s.heap.size (Nat.le_refl _) i0 i1 i2 i3 i4 cs (Old.start s) hcs SS p e ha hc hk s m _ below hf ((Spec.applies_iff_loose hf).mp happ).1 ⟨rfl, State.Warmed39.refl s, rfl, (CHv.start (own_ew l s _ hw) (fun p hp => hcalls.1 p (by revert hp; simp only [own_EL, consts_1, List.mem_cons, List.not_mem_nil, or_false]; intro hp; subst hp; simp)) (hsets _ (List.mem_of_getElem? (i := 2) rfl)) (hw _ (List.mem_of_getElem? (i := 29) rfl)) (hw _ (List.mem_of_getElem? (i := 15) rfl)))⟩ trivial
  refine ⟨n, _, h1, h2, h3, hpost _ _ _ _ _ _ ⟨Cond.after_iff.mpr rfl, Cond.after_iff.mpr (eq_i res_at (Term.int_eval (1)) rfl), trivial⟩ ⟨hq.1, hq.2.1, hq.2.2.1, (hq.2.2.2.sift fun y hy => Or.inr (N y hy)).mono (by decide) (by decide)⟩⟩
theorem main_1_1 : Claimed_1_1 := comes_1 fun _ _ _ _ _ _ h hF => ⟨h.1, hF⟩
theorem main_1_2 : Claimed_1_2 := comes_1 fun _ _ _ _ _ _ h hF => ⟨h.2.1, hF⟩
end Jvm.Pilot.@@N@@
namespace Jvm.Pilot.@@N@@
open Jvm Jvm.ClassFile Sem Op Lib Jvm.Free Jvm.Stand Jvm.Pilot.@@N@@.Jvm.D
/-! MADE BY PROGRAM (witnessworld.py) out of the Statement's table words and the real class files: 22 classes; the members and pool entries that the words name. The judged class is class 1, her method 6. -/
namespace start1
open Jvm.ClassFile
def u (s : String) : CpInfo := .utf8 (stringToUtf16 s)
/-- a pool by its gaps: so many unusable entries, then the entry; so many at the end -/
def gap : Nat → List CpInfo → List CpInfo
  | 0, r => r
  | n + 1, r => .unusable :: gap n r
def poolList (es : List (Nat × CpInfo)) (last : Nat) : List CpInfo := es.foldr (fun e r => gap e.1 (e.2 :: r)) (gap last [])
def pool (es : List (Nat × CpInfo)) (last : Nat) : Array CpInfo := ⟨poolList es last⟩
def fileOf (pool : Array CpInfo) (this : Nat) (attrs : Array Attribute := #[]) (ms : Array MethodInfo := #[]) (fl : Nat := 33) (sup : Nat := 0) (ifs : Array Nat := #[]) (fds : Array FieldInfo := #[]) : ClassFile where
  minorVersion := 0
  majorVersion := 65
  constantPool := pool
  accessFlags := fl
  thisClass := this
  superClass := sup
  interfaces := ifs
  fields := fds
  methods := ms
  attributes := attrs
def plain (name : String) (sup : Option ClassId) : Class where
  name := name
  kind := .ordinary
  loader := none
  accessFlags := 33
  super := sup
  interfaces := #[]
  cf := none
  fields := #[]
  methods := #[]
  instanceTypes := #[]
  staticTypes := #[]
  resolved := #[]
  callSites := []
  init := .initialized
  statics := none
  mirror := none

def pool0 : Array CpInfo := pool [(5, u "<init>"), (0, u "()V"), (1, .class_ 10), (1, u "java/lang/Object")] 113

def k0c0 : Code := { maxStack := 0, maxLocals := 1, code := object_method_1_code, exceptionTable := #[], attributes := #[] }
def k0m0 : Method := { name := "<init>", desc := "()V", sig := { parameters := [], returnType := none }, accessFlags := 1, code := some k0c0 }
/-- java/lang/Object -/
def k0 : Class := { plain "java/lang/Object" none with
  accessFlags := 33
  interfaces := #[]
  cf := some (fileOf pool0 8 #[] #[{ accessFlags := 1, nameIndex := 5, descriptorIndex := 6, attributes := #[] }] 33 0 #[] #[])
  fields := #[]
  methods := #[k0m0]
  instanceTypes := #[]
  staticTypes := #[]
  resolved := Array.replicate 124 none
  statics := none }

def pool1 : Array CpInfo := pool [(2, .class_ 4), (1, u "java/lang/Object"), (0, u "<init>"), (0, u "()V"), (0, .methodref 8 9), (0, .class_ 10), (0, .nameAndType 11 12), (0, u "java/lang/Math"), (0, u "min"), (0, u "(II)I"), (0, .methodref 14 15), (0, .class_ 16), (0, .nameAndType 17 18), (0, u "com/example/traceway/traceway/core/HeaderEqualsPinLaw"), (0, u "len"), (0, u "(I)I"), (0, .class_ 20), (0, u "java/lang/String"), (0, .methodref 19 22), (0, .nameAndType 5 23), (0, u "([C)V"), (0, .methodref 14 25), (0, .nameAndType 26 27), (0, u "c0"), (0, u "(I)C"), (0, .methodref 14 29), (0, .nameAndType 30 27), (0, u "c1"), (0, .class_ 32), (0, u "com/example/traceway/traceway/core/Header"), (0, .methodref 14 34), (0, .nameAndType 35 36), (0, u "mk"), (0, u "(I)Ljava/lang/String;"), (0, .methodref 31 38), (0, .nameAndType 5 39), (0, u "(Ljava/lang/String;Ljava/lang/String;)V"), (0, .methodref 14 41), (0, .nameAndType 42 43), (0, u "same"), (0, u "(II)Z"), (0, .methodref 31 45), (0, .nameAndType 46 47), (0, u "equals"), (0, u "(Ljava/lang/Object;)Z"), (3, u "law"), (0, u "(IIIII)Z")] 2

def k1m0 : Method := { name := "<init>", desc := "()V", sig := { parameters := [], returnType := none }, accessFlags := 1, code := none }
def k1c1 : Code := { maxStack := 2, maxLocals := 1, code := method_2_code, exceptionTable := #[], attributes := #[] }
def k1m1 : Method := { name := "len", desc := "(I)I", sig := { parameters := [.int], returnType := some .int }, accessFlags := 10, code := some k1c1 }
def k1c2 : Code := { maxStack := 2, maxLocals := 1, code := method_3_code, exceptionTable := #[], attributes := #[] }
def k1m2 : Method := { name := "c0", desc := "(I)C", sig := { parameters := [.int], returnType := some .char }, accessFlags := 10, code := some k1c2 }
def k1c3 : Code := { maxStack := 2, maxLocals := 1, code := method_4_code, exceptionTable := #[], attributes := #[] }
def k1m3 : Method := { name := "c1", desc := "(I)C", sig := { parameters := [.int], returnType := some .char }, accessFlags := 10, code := some k1c3 }
def k1c4 : Code := { maxStack := 6, maxLocals := 2, code := method_5_code, exceptionTable := #[], attributes := #[] }
def k1m4 : Method := { name := "mk", desc := "(I)Ljava/lang/String;", sig := { parameters := [.int], returnType := some (.object "java/lang/String") }, accessFlags := 10, code := some k1c4 }
def k1c5 : Code := { maxStack := 2, maxLocals := 2, code := method_6_code, exceptionTable := #[], attributes := #[] }
def k1m5 : Method := { name := "same", desc := "(II)Z", sig := { parameters := [.int, .int], returnType := some .boolean }, accessFlags := 10, code := some k1c5 }
def k1c6 : Code := { maxStack := 4, maxLocals := 13, code := code, exceptionTable := #[], attributes := #[] }
def k1m6 : Method := { name := "law", desc := "(IIIII)Z", sig := { parameters := [.int, .int, .int, .int, .int], returnType := some .boolean }, accessFlags := 9, code := some k1c6 }
/-- com/example/traceway/traceway/core/HeaderEqualsPinLaw -/
def k1 : Class := { plain "com/example/traceway/traceway/core/HeaderEqualsPinLaw" (some 0) with
  accessFlags := 49
  interfaces := #[]
  cf := some (fileOf pool1 14 #[] #[{ accessFlags := 1, nameIndex := 5, descriptorIndex := 6, attributes := #[] }, { accessFlags := 10, nameIndex := 17, descriptorIndex := 18, attributes := #[] }, { accessFlags := 10, nameIndex := 26, descriptorIndex := 27, attributes := #[] }, { accessFlags := 10, nameIndex := 30, descriptorIndex := 27, attributes := #[] }, { accessFlags := 10, nameIndex := 35, descriptorIndex := 36, attributes := #[] }, { accessFlags := 10, nameIndex := 42, descriptorIndex := 43, attributes := #[] }, { accessFlags := 9, nameIndex := 51, descriptorIndex := 52, attributes := #[] }] 49 2 #[] #[])
  fields := #[]
  methods := #[k1m0, k1m1, k1m2, k1m3, k1m4, k1m5, k1m6]
  instanceTypes := #[]
  staticTypes := #[]
  resolved := Array.replicate 55 none
  statics := none }

def pool2 : Array CpInfo := pool [(1, .methodref 2 3), (0, .class_ 4), (0, .nameAndType 5 6), (0, u "java/lang/Object"), (0, u "<init>"), (0, u "()V"), (0, .string 8), (0, u "name"), (0, .methodref 10 11), (0, .class_ 12), (0, .nameAndType 13 14), (0, u "java/util/Objects"), (0, u "requireNonNull"), (0, u "(Ljava/lang/Object;Ljava/lang/String;)Ljava/lang/Object;"), (0, .class_ 16), (0, u "java/lang/String"), (0, .fieldref 18 19), (0, .class_ 20), (0, .nameAndType 8 21), (0, u "com/example/traceway/traceway/core/Header"), (0, u "Ljava/lang/String;"), (0, .string 23), (0, u "value"), (0, .fieldref 18 25), (0, .nameAndType 23 21), (36, .methodref 15 63), (0, .nameAndType 64 65), (0, u "equals"), (0, u "(Ljava/lang/Object;)Z"), (4, u "(Ljava/lang/String;Ljava/lang/String;)V")] 12

def k2c0 : Code := { maxStack := 3, maxLocals := 3, code := prog_15_method_1_code, exceptionTable := #[], attributes := #[] }
def k2m0 : Method := { name := "<init>", desc := "(Ljava/lang/String;Ljava/lang/String;)V", sig := { parameters := [(.object "java/lang/String"), (.object "java/lang/String")], returnType := none }, accessFlags := 1, code := some k2c0 }
def k2c1 : Code := { maxStack := 2, maxLocals := 3, code := prog_15_method_7_code, exceptionTable := #[], attributes := #[] }
def k2m1 : Method := { name := "equals", desc := "(Ljava/lang/Object;)Z", sig := { parameters := [(.object "java/lang/Object")], returnType := some .boolean }, accessFlags := 1, code := some k2c1 }
/-- com/example/traceway/traceway/core/Header -/
def k2 : Class := { plain "com/example/traceway/traceway/core/Header" (some 0) with
  accessFlags := 49
  interfaces := #[]
  cf := some (fileOf pool2 18 #[] #[{ accessFlags := 1, nameIndex := 5, descriptorIndex := 70, attributes := #[] }, { accessFlags := 1, nameIndex := 64, descriptorIndex := 65, attributes := #[] }] 49 2 #[] #[{ accessFlags := 18, nameIndex := 8, descriptorIndex := 21, attributes := #[] }, { accessFlags := 18, nameIndex := 23, descriptorIndex := 21, attributes := #[] }])
  fields := #[{ name := "name", type := (.object "java/lang/String"), accessFlags := 18, slot := 0, constantValue := 0 }, { name := "value", type := (.object "java/lang/String"), accessFlags := 18, slot := 1, constantValue := 0 }]
  methods := #[k2m0, k2m1]
  instanceTypes := #[(.object "java/lang/String"), (.object "java/lang/String")]
  staticTypes := #[]
  resolved := Array.replicate 83 none
  statics := none }

def pool3 : Array CpInfo := pool [(1, .class_ 2), (0, u "java/lang/Math"), (1, .class_ 6), (1, u "java/lang/Object"), (0, u "<init>"), (0, u "()V"), (89, .class_ 100), (1, u "java/lang/Math$RandomNumberGeneratorHolder"), (71, u "negativeZeroFloatBits"), (0, u "J"), (2, u "negativeZeroDoubleBits"), (24, u "min"), (43, u "$assertionsDisabled"), (0, u "Z"), (88, u "(II)I"), (2, u "twoToTheDoubleScaleDown"), (0, u "D"), (4, u "twoToTheDoubleScaleUp"), (9, u "E"), (3, u "PI"), (2, u "TAU"), (2, u "DEGREES_TO_RADIANS"), (0, u "RADIANS_TO_DEGREES")] 94

def k3m0 : Method := { name := "<init>", desc := "()V", sig := { parameters := [], returnType := none }, accessFlags := 2, code := none }
def k3c1 : Code := { maxStack := 2, maxLocals := 2, code := jdk_29_method_69_code, exceptionTable := #[], attributes := #[] }
def k3m1 : Method := { name := "min", desc := "(II)I", sig := { parameters := [.int, .int], returnType := some .int }, accessFlags := 9, code := some k3c1 }
/-- java/lang/Math -/
def k3 : Class := { plain "java/lang/Math" (some 0) with
  accessFlags := 49
  interfaces := #[]
  cf := some (fileOf pool3 1 #[.nestMembers #[98]] #[{ accessFlags := 2, nameIndex := 7, descriptorIndex := 8, attributes := #[] }, { accessFlags := 9, nameIndex := 201, descriptorIndex := 335, attributes := #[] }] 49 4 #[] #[{ accessFlags := 25, nameIndex := 354, descriptorIndex := 339, attributes := #[] }, { accessFlags := 25, nameIndex := 358, descriptorIndex := 339, attributes := #[] }, { accessFlags := 25, nameIndex := 361, descriptorIndex := 339, attributes := #[] }, { accessFlags := 26, nameIndex := 364, descriptorIndex := 339, attributes := #[] }, { accessFlags := 26, nameIndex := 365, descriptorIndex := 339, attributes := #[] }, { accessFlags := 26, nameIndex := 172, descriptorIndex := 173, attributes := #[] }, { accessFlags := 26, nameIndex := 176, descriptorIndex := 173, attributes := #[] }, { accessFlags := 8, nameIndex := 344, descriptorIndex := 339, attributes := #[] }, { accessFlags := 8, nameIndex := 338, descriptorIndex := 339, attributes := #[] }, { accessFlags := 4120, nameIndex := 245, descriptorIndex := 246, attributes := #[] }])
  fields := #[{ name := "E", type := .double, accessFlags := 25, slot := 0, constantValue := 0 }, { name := "PI", type := .double, accessFlags := 25, slot := 1, constantValue := 0 }, { name := "TAU", type := .double, accessFlags := 25, slot := 2, constantValue := 0 }, { name := "DEGREES_TO_RADIANS", type := .double, accessFlags := 26, slot := 3, constantValue := 0 }, { name := "RADIANS_TO_DEGREES", type := .double, accessFlags := 26, slot := 4, constantValue := 0 }, { name := "negativeZeroFloatBits", type := .long, accessFlags := 26, slot := 5, constantValue := 0 }, { name := "negativeZeroDoubleBits", type := .long, accessFlags := 26, slot := 6, constantValue := 0 }, { name := "twoToTheDoubleScaleUp", type := .double, accessFlags := 8, slot := 7, constantValue := 0 }, { name := "twoToTheDoubleScaleDown", type := .double, accessFlags := 8, slot := 8, constantValue := 0 }, { name := "$assertionsDisabled", type := .boolean, accessFlags := 4120, slot := 9, constantValue := 0 }]
  methods := #[k3m0, k3m1]
  instanceTypes := #[]
  staticTypes := #[.double, .double, .double, .double, .double, .long, .long, .double, .double, .boolean]
  resolved := Array.replicate 460 none
  statics := none }

def pool4 : Array CpInfo := pool [(1, .class_ 2), (0, u "java/io/Serializable"), (0, .class_ 4), (0, u "java/lang/Object")] 2

/-- java/io/Serializable -/
def k4 : Class := { plain "java/io/Serializable" (some 0) with
  accessFlags := 1537
  interfaces := #[]
  cf := some (fileOf pool4 1 #[] #[] 1537 3 #[] #[])
  fields := #[]
  methods := #[]
  instanceTypes := #[]
  staticTypes := #[]
  resolved := Array.replicate 7 none
  statics := none }

def pool5 : Array CpInfo := pool [(1, .class_ 2), (0, u "java/lang/Comparable"), (0, .class_ 4), (0, u "java/lang/Object")] 7

/-- java/lang/Comparable -/
def k5 : Class := { plain "java/lang/Comparable" (some 0) with
  accessFlags := 1537
  interfaces := #[]
  cf := some (fileOf pool5 1 #[] #[] 1537 3 #[] #[])
  fields := #[]
  methods := #[]
  instanceTypes := #[]
  staticTypes := #[]
  resolved := Array.replicate 12 none
  statics := none }

def pool6 : Array CpInfo := pool [(2, .class_ 4), (1, u "java/lang/CharSequence"), (42, .class_ 48), (0, u "java/lang/CharSequence$1CodePointIterator"), (10, .class_ 60), (0, u "java/lang/CharSequence$1CharIterator"), (5, .class_ 67), (0, u "java/lang/Object")] 63

/-- java/lang/CharSequence -/
def k6 : Class := { plain "java/lang/CharSequence" (some 0) with
  accessFlags := 1537
  interfaces := #[]
  cf := some (fileOf pool6 2 #[.nestMembers #[47, 59]] #[] 1537 66 #[] #[])
  fields := #[]
  methods := #[]
  instanceTypes := #[]
  staticTypes := #[]
  resolved := Array.replicate 131 none
  statics := none }

def pool7 : Array CpInfo := pool [(1, .class_ 2), (0, u "java/lang/constant/Constable"), (0, .class_ 4), (0, u "java/lang/Object")] 6

/-- java/lang/constant/Constable -/
def k7 : Class := { plain "java/lang/constant/Constable" (some 0) with
  accessFlags := 1537
  interfaces := #[]
  cf := some (fileOf pool7 1 #[] #[] 1537 3 #[] #[])
  fields := #[]
  methods := #[]
  instanceTypes := #[]
  staticTypes := #[]
  resolved := Array.replicate 11 none
  statics := none }

def pool8 : Array CpInfo := pool [(1, .class_ 2), (0, u "java/lang/constant/ConstantDesc"), (0, .class_ 4), (0, u "java/lang/Object")] 32

/-- java/lang/constant/ConstantDesc -/
def k8 : Class := { plain "java/lang/constant/ConstantDesc" (some 0) with
  accessFlags := 1537
  interfaces := #[]
  cf := some (fileOf pool8 1 #[] #[] 1537 3 #[] #[])
  fields := #[]
  methods := #[]
  instanceTypes := #[]
  staticTypes := #[]
  resolved := Array.replicate 37 none
  statics := none }

def pool9 : Array CpInfo := pool [(1, .methodref 2 3), (0, .class_ 4), (0, .nameAndType 5 6), (0, u "java/lang/Object"), (0, u "<init>"), (0, u "()V"), (0, .string 8), (0, u ""), (0, .fieldref 10 11), (0, .class_ 12), (0, .nameAndType 13 14), (0, u "java/lang/String"), (0, u "value"), (0, u "[B"), (0, .fieldref 10 16), (0, .nameAndType 17 18), (0, u "coder"), (0, u "B"), (2, u "hash"), (0, u "I"), (2, u "hashIsZero"), (0, u "Z"), (0, .methodref 10 28), (0, .nameAndType 5 29), (0, u "([CIILjava/lang/Void;)V"), (8, .fieldref 10 39), (0, .nameAndType 40 26), (0, u "COMPACT_STRINGS"), (1, .class_ 44), (1, u "java/lang/StringUTF16"), (0, u "compress"), (1, .methodref 42 48), (0, .nameAndType 49 50), (0, u "coderFromArrayLen"), (0, u "([BI)B"), (56, .class_ 109), (1, u "java/lang/StringLatin1"), (67, .methodref 42 178), (0, .nameAndType 45 179), (0, u "([CII)[B"), (361, .methodref 107 542), (0, .nameAndType 543 544), (0, u "equals"), (0, u "([B[B)Z"), (28, u "(Ljava/lang/Object;)Z"), (1, .class_ 576), (0, u "java/lang/CharSequence"), (22, u "CASE_INSENSITIVE_ORDER"), (0, u "Ljava/util/Comparator;"), (409, u "([C)V"), (90, u "serialPersistentFields"), (0, u "[Ljava/io/ObjectStreamField;"), (0, .class_ 1104), (0, u "java/lang/String$CaseInsensitiveComparator"), (1, .class_ 1107), (0, u "java/io/Serializable"), (0, .class_ 1109), (0, u "java/lang/Comparable"), (0, .class_ 1111), (0, u "java/lang/constant/Constable"), (0, .class_ 1113), (0, u "java/lang/constant/ConstantDesc"), (2, u "serialVersionUID"), (0, u "J"), (3, u "REPL"), (0, u "C"), (2, u "LATIN1"), (1, u "UTF16")] 323

def k9m0 : Method := { name := "<init>", desc := "()V", sig := { parameters := [], returnType := none }, accessFlags := 1, code := none }
def k9c1 : Code := { maxStack := 5, maxLocals := 2, code := jdk_42_method_3_code, exceptionTable := #[], attributes := #[] }
def k9m1 : Method := { name := "<init>", desc := "([C)V", sig := { parameters := [(.array .char)], returnType := none }, accessFlags := 1, code := some k9c1 }
def k9c2 : Code := { maxStack := 2, maxLocals := 3, code := jdk_42_method_66_code, exceptionTable := #[], attributes := #[] }
def k9m2 : Method := { name := "equals", desc := "(Ljava/lang/Object;)Z", sig := { parameters := [(.object "java/lang/Object")], returnType := some .boolean }, accessFlags := 1, code := some k9c2 }
def k9c3 : Code := { maxStack := 4, maxLocals := 6, code := jdk_42_method_149_code, exceptionTable := #[], attributes := #[] }
def k9m3 : Method := { name := "<init>", desc := "([CIILjava/lang/Void;)V", sig := { parameters := [(.array .char), .int, .int, (.object "java/lang/Void")], returnType := none }, accessFlags := 2, code := some k9c3 }
/-- java/lang/String -/
def k9 : Class := { plain "java/lang/String" (some 0) with
  accessFlags := 49
  interfaces := #[4, 5, 6, 7, 8]
  cf := some (fileOf pool9 10 #[.nestMembers #[1103]] #[{ accessFlags := 1, nameIndex := 5, descriptorIndex := 6, attributes := #[] }, { accessFlags := 1, nameIndex := 5, descriptorIndex := 1010, attributes := #[] }, { accessFlags := 1, nameIndex := 543, descriptorIndex := 573, attributes := #[] }, { accessFlags := 2, nameIndex := 5, descriptorIndex := 29, attributes := #[] }] 49 2 #[1106, 1108, 575, 1110, 1112] #[{ accessFlags := 18, nameIndex := 13, descriptorIndex := 14, attributes := #[] }, { accessFlags := 18, nameIndex := 17, descriptorIndex := 18, attributes := #[] }, { accessFlags := 2, nameIndex := 21, descriptorIndex := 22, attributes := #[] }, { accessFlags := 2, nameIndex := 25, descriptorIndex := 26, attributes := #[] }, { accessFlags := 26, nameIndex := 1116, descriptorIndex := 1117, attributes := #[] }, { accessFlags := 24, nameIndex := 40, descriptorIndex := 26, attributes := #[] }, { accessFlags := 26, nameIndex := 1101, descriptorIndex := 1102, attributes := #[] }, { accessFlags := 26, nameIndex := 1121, descriptorIndex := 1122, attributes := #[] }, { accessFlags := 25, nameIndex := 599, descriptorIndex := 600, attributes := #[] }, { accessFlags := 24, nameIndex := 1125, descriptorIndex := 18, attributes := #[] }, { accessFlags := 24, nameIndex := 1127, descriptorIndex := 18, attributes := #[] }])
  fields := #[{ name := "value", type := (.array .byte), accessFlags := 18, slot := 0, constantValue := 0 }, { name := "coder", type := .byte, accessFlags := 18, slot := 1, constantValue := 0 }, { name := "hash", type := .int, accessFlags := 2, slot := 2, constantValue := 0 }, { name := "hashIsZero", type := .boolean, accessFlags := 2, slot := 3, constantValue := 0 }, { name := "serialVersionUID", type := .long, accessFlags := 26, slot := 0, constantValue := 0 }, { name := "COMPACT_STRINGS", type := .boolean, accessFlags := 24, slot := 1, constantValue := 0 }, { name := "serialPersistentFields", type := (.array (.object "java/io/ObjectStreamField")), accessFlags := 26, slot := 2, constantValue := 0 }, { name := "REPL", type := .char, accessFlags := 26, slot := 3, constantValue := 0 }, { name := "CASE_INSENSITIVE_ORDER", type := (.object "java/util/Comparator"), accessFlags := 25, slot := 4, constantValue := 0 }, { name := "LATIN1", type := .byte, accessFlags := 24, slot := 5, constantValue := 0 }, { name := "UTF16", type := .byte, accessFlags := 24, slot := 6, constantValue := 0 }]
  methods := #[k9m0, k9m1, k9m2, k9m3]
  instanceTypes := #[(.array .byte), .byte, .int, .boolean]
  staticTypes := #[.long, .boolean, (.array (.object "java/io/ObjectStreamField")), .char, (.object "java/util/Comparator"), .byte, .byte]
  resolved := Array.replicate 1451 none
  statics := some 0 }

def pool10 : Array CpInfo := pool [(2, .class_ 4), (1, u "java/lang/Object"), (0, u "<init>"), (0, u "()V"), (35, .class_ 44), (1, u "java/util/Objects"), (0, u "requireNonNull"), (48, u "(Ljava/lang/Object;Ljava/lang/String;)Ljava/lang/Object;")] 89

def k10m0 : Method := { name := "<init>", desc := "()V", sig := { parameters := [], returnType := none }, accessFlags := 2, code := none }
def k10c1 : Code := { maxStack := 3, maxLocals := 2, code := jdk_31_method_11_code, exceptionTable := #[], attributes := #[] }
def k10m1 : Method := { name := "requireNonNull", desc := "(Ljava/lang/Object;Ljava/lang/String;)Ljava/lang/Object;", sig := { parameters := [(.object "java/lang/Object"), (.object "java/lang/String")], returnType := some (.object "java/lang/Object") }, accessFlags := 9, code := some k10c1 }
/-- java/util/Objects -/
def k10 : Class := { plain "java/util/Objects" (some 0) with
  accessFlags := 49
  interfaces := #[]
  cf := some (fileOf pool10 42 #[] #[{ accessFlags := 2, nameIndex := 5, descriptorIndex := 6, attributes := #[] }, { accessFlags := 9, nameIndex := 45, descriptorIndex := 94, attributes := #[] }] 49 2 #[] #[])
  fields := #[]
  methods := #[k10m0, k10m1]
  instanceTypes := #[]
  staticTypes := #[]
  resolved := Array.replicate 184 none
  statics := none }

def pool11 : Array CpInfo := pool [(4, .class_ 6), (1, u "java/lang/Object"), (0, u "<init>"), (0, u "()V"), (5, .class_ 16), (1, u "java/lang/StringLatin1"), (104, u "$assertionsDisabled"), (0, u "Z"), (98, .class_ 223), (1, u "java/lang/StringLatin1$LinesSpliterator"), (57, u "equals"), (0, u "([B[B)Z"), (107, .class_ 391), (0, u "java/lang/StringLatin1$CharsSpliterator")] 3

def k11m0 : Method := { name := "<init>", desc := "()V", sig := { parameters := [], returnType := none }, accessFlags := 0, code := none }
def k11c1 : Code := { maxStack := 3, maxLocals := 3, code := jdk_43_method_13_code, exceptionTable := #[], attributes := #[] }
def k11m1 : Method := { name := "equals", desc := "([B[B)Z", sig := { parameters := [(.array .byte), (.array .byte)], returnType := some .boolean }, accessFlags := 9, code := some k11c1 }
/-- java/lang/StringLatin1 -/
def k11 : Class := { plain "java/lang/StringLatin1" (some 0) with
  accessFlags := 48
  interfaces := #[]
  cf := some (fileOf pool11 14 #[.nestMembers #[390, 221]] #[{ accessFlags := 0, nameIndex := 7, descriptorIndex := 8, attributes := #[] }, { accessFlags := 9, nameIndex := 281, descriptorIndex := 282, attributes := #[] }] 48 4 #[] #[{ accessFlags := 4120, nameIndex := 121, descriptorIndex := 122, attributes := #[] }])
  fields := #[{ name := "$assertionsDisabled", type := .boolean, accessFlags := 4120, slot := 0, constantValue := 0 }]
  methods := #[k11m0, k11m1]
  instanceTypes := #[]
  staticTypes := #[.boolean]
  resolved := Array.replicate 395 none
  statics := none }

def pool12 : Array CpInfo := pool [(6, .class_ 8), (1, u "java/lang/Object"), (0, u "<init>"), (0, u "()V"), (1, .class_ 14), (1, u "java/lang/StringUTF16"), (31, u "$assertionsDisabled"), (0, u "Z"), (13, u "HI_BYTE_SHIFT"), (0, u "I"), (2, u "LO_BYTE_SHIFT"), (49, .methodref 12 116), (0, .nameAndType 117 118), (0, u "compress"), (0, u "([CI[BII)I"), (3, u "([CII)[B"), (138, u "coderFromArrayLen"), (0, u "([BI)B"), (106, .class_ 371), (1, u "java/lang/StringUTF16$LinesSpliterator"), (58, u "MAX_LENGTH"), (196, .class_ 628), (0, u "java/lang/StringUTF16$CodePointsSpliterator"), (0, .class_ 630), (0, u "java/lang/StringUTF16$CharsSpliterator")] 4

def k12m0 : Method := { name := "<init>", desc := "()V", sig := { parameters := [], returnType := none }, accessFlags := 0, code := none }
def k12c1 : Code := { maxStack := 2, maxLocals := 2, code := jdk_52_method_15_code, exceptionTable := #[], attributes := #[] }
def k12m1 : Method := { name := "coderFromArrayLen", desc := "([BI)B", sig := { parameters := [(.array .byte), .int], returnType := some .byte }, accessFlags := 8, code := some k12c1 }
def k12c2 : Code := { maxStack := 5, maxLocals := 6, code := jdk_52_method_16_code, exceptionTable := #[], attributes := #[] }
def k12m2 : Method := { name := "compress", desc := "([CII)[B", sig := { parameters := [(.array .char), .int, .int], returnType := some (.array .byte) }, accessFlags := 9, code := some k12c2 }
def k12c3 : Code := { maxStack := 3, maxLocals := 7, code := jdk_52_method_21_code, exceptionTable := #[], attributes := #[] }
def k12m3 : Method := { name := "compress", desc := "([CI[BII)I", sig := { parameters := [(.array .char), .int, (.array .byte), .int, .int], returnType := some .int }, accessFlags := 9, code := some k12c3 }
/-- java/lang/StringUTF16 -/
def k12 : Class := { plain "java/lang/StringUTF16" (some 0) with
  accessFlags := 48
  interfaces := #[]
  cf := some (fileOf pool12 12 #[.nestMembers #[627, 629, 369]] #[{ accessFlags := 0, nameIndex := 9, descriptorIndex := 10, attributes := #[] }, { accessFlags := 8, nameIndex := 261, descriptorIndex := 262, attributes := #[] }, { accessFlags := 9, nameIndex := 117, descriptorIndex := 122, attributes := #[] }, { accessFlags := 9, nameIndex := 117, descriptorIndex := 118, attributes := #[] }] 48 6 #[] #[{ accessFlags := 26, nameIndex := 61, descriptorIndex := 62, attributes := #[] }, { accessFlags := 26, nameIndex := 65, descriptorIndex := 62, attributes := #[] }, { accessFlags := 24, nameIndex := 430, descriptorIndex := 62, attributes := #[] }, { accessFlags := 4120, nameIndex := 46, descriptorIndex := 47, attributes := #[] }])
  fields := #[{ name := "HI_BYTE_SHIFT", type := .int, accessFlags := 26, slot := 0, constantValue := 0 }, { name := "LO_BYTE_SHIFT", type := .int, accessFlags := 26, slot := 1, constantValue := 0 }, { name := "MAX_LENGTH", type := .int, accessFlags := 24, slot := 2, constantValue := 0 }, { name := "$assertionsDisabled", type := .boolean, accessFlags := 4120, slot := 3, constantValue := 0 }]
  methods := #[k12m0, k12m1, k12m2, k12m3]
  instanceTypes := #[]
  staticTypes := #[.int, .int, .int, .boolean]
  resolved := Array.replicate 635 none
  statics := none }

def pool13 : Array CpInfo := pool [(2, .class_ 4), (1, u "java/lang/Object"), (0, u "<init>"), (0, u "()V"), (17, .class_ 26), (1, u "jdk/internal/util/Preconditions"), (28, .class_ 56), (0, u "jdk/internal/util/Preconditions$4"), (57, .class_ 115), (0, u "jdk/internal/util/Preconditions$1"), (7, u "SIOOBE_FORMATTER"), (0, u "Ljava/util/function/BiFunction;"), (0, .class_ 126), (0, u "jdk/internal/util/Preconditions$2"), (3, u "AIOOBE_FORMATTER"), (0, .class_ 132), (0, u "jdk/internal/util/Preconditions$3"), (3, u "IOOBE_FORMATTER")] 57

def k13m0 : Method := { name := "<init>", desc := "()V", sig := { parameters := [], returnType := none }, accessFlags := 1, code := none }
/-- jdk/internal/util/Preconditions -/
def k13 : Class := { plain "jdk/internal/util/Preconditions" (some 0) with
  accessFlags := 33
  interfaces := #[]
  cf := some (fileOf pool13 24 #[.nestMembers #[55, 131, 125, 114]] #[{ accessFlags := 1, nameIndex := 5, descriptorIndex := 6, attributes := #[] }] 33 2 #[] #[{ accessFlags := 25, nameIndex := 123, descriptorIndex := 124, attributes := #[] }, { accessFlags := 25, nameIndex := 130, descriptorIndex := 124, attributes := #[] }, { accessFlags := 25, nameIndex := 136, descriptorIndex := 124, attributes := #[] }])
  fields := #[{ name := "SIOOBE_FORMATTER", type := (.object "java/util/function/BiFunction"), accessFlags := 25, slot := 0, constantValue := 0 }, { name := "AIOOBE_FORMATTER", type := (.object "java/util/function/BiFunction"), accessFlags := 25, slot := 1, constantValue := 0 }, { name := "IOOBE_FORMATTER", type := (.object "java/util/function/BiFunction"), accessFlags := 25, slot := 2, constantValue := 0 }]
  methods := #[k13m0]
  instanceTypes := #[]
  staticTypes := #[(.object "java/util/function/BiFunction"), (.object "java/util/function/BiFunction"), (.object "java/util/function/BiFunction")]
  resolved := Array.replicate 194 none
  statics := some 1 }

def pool14 : Array CpInfo := pool [(9, u "<init>"), (6, .class_ 18), (1, u "java/lang/Object"), (0, u "()V"), (1, .class_ 23), (1, u "jdk/internal/util/ArraysSupport"), (0, u "LOG2_ARRAY_LONG_INDEX_SCALE"), (0, u "I"), (2, u "U"), (0, u "Ljdk/internal/misc/Unsafe;"), (8, u "BIG_ENDIAN"), (0, u "Z"), (8, u "LOG2_BYTE_BIT_SIZE"), (4, u "LOG2_ARRAY_INT_INDEX_SCALE"), (54, u "JLA"), (0, u "Ljdk/internal/access/JavaLangAccess;"), (11, u "LOG2_ARRAY_BOOLEAN_INDEX_SCALE"), (9, u "LOG2_ARRAY_BYTE_INDEX_SCALE"), (5, u "LOG2_ARRAY_CHAR_INDEX_SCALE"), (5, u "LOG2_ARRAY_SHORT_INDEX_SCALE"), (18, u "LOG2_ARRAY_FLOAT_INDEX_SCALE"), (24, u "LOG2_ARRAY_DOUBLE_INDEX_SCALE"), (89, u "T_BOOLEAN"), (2, u "T_CHAR"), (1, u "T_FLOAT"), (1, u "T_DOUBLE"), (1, u "T_BYTE"), (1, u "T_SHORT"), (1, u "T_INT"), (1, u "T_LONG"), (1, u "SOFT_MAX_ARRAY_LENGTH")] 83

def k14m0 : Method := { name := "<init>", desc := "()V", sig := { parameters := [], returnType := none }, accessFlags := 2, code := none }
/-- jdk/internal/util/ArraysSupport -/
def k14 : Class := { plain "jdk/internal/util/ArraysSupport" (some 0) with
  accessFlags := 33
  interfaces := #[]
  cf := some (fileOf pool14 21 #[] #[{ accessFlags := 2, nameIndex := 9, descriptorIndex := 19, attributes := #[] }] 33 16 #[] #[{ accessFlags := 24, nameIndex := 28, descriptorIndex := 29, attributes := #[] }, { accessFlags := 26, nameIndex := 38, descriptorIndex := 39, attributes := #[] }, { accessFlags := 25, nameIndex := 121, descriptorIndex := 25, attributes := #[] }, { accessFlags := 25, nameIndex := 131, descriptorIndex := 25, attributes := #[] }, { accessFlags := 25, nameIndex := 137, descriptorIndex := 25, attributes := #[] }, { accessFlags := 25, nameIndex := 143, descriptorIndex := 25, attributes := #[] }, { accessFlags := 25, nameIndex := 53, descriptorIndex := 25, attributes := #[] }, { accessFlags := 25, nameIndex := 24, descriptorIndex := 25, attributes := #[] }, { accessFlags := 25, nameIndex := 162, descriptorIndex := 25, attributes := #[] }, { accessFlags := 25, nameIndex := 187, descriptorIndex := 25, attributes := #[] }, { accessFlags := 26, nameIndex := 48, descriptorIndex := 25, attributes := #[] }, { accessFlags := 25, nameIndex := 277, descriptorIndex := 25, attributes := #[] }, { accessFlags := 25, nameIndex := 280, descriptorIndex := 25, attributes := #[] }, { accessFlags := 25, nameIndex := 282, descriptorIndex := 25, attributes := #[] }, { accessFlags := 25, nameIndex := 284, descriptorIndex := 25, attributes := #[] }, { accessFlags := 25, nameIndex := 286, descriptorIndex := 25, attributes := #[] }, { accessFlags := 25, nameIndex := 288, descriptorIndex := 25, attributes := #[] }, { accessFlags := 25, nameIndex := 290, descriptorIndex := 25, attributes := #[] }, { accessFlags := 25, nameIndex := 292, descriptorIndex := 25, attributes := #[] }, { accessFlags := 26, nameIndex := 108, descriptorIndex := 109, attributes := #[] }, { accessFlags := 25, nameIndex := 294, descriptorIndex := 25, attributes := #[] }])
  fields := #[{ name := "U", type := (.object "jdk/internal/misc/Unsafe"), accessFlags := 24, slot := 0, constantValue := 0 }, { name := "BIG_ENDIAN", type := .boolean, accessFlags := 26, slot := 1, constantValue := 0 }, { name := "LOG2_ARRAY_BOOLEAN_INDEX_SCALE", type := .int, accessFlags := 25, slot := 2, constantValue := 0 }, { name := "LOG2_ARRAY_BYTE_INDEX_SCALE", type := .int, accessFlags := 25, slot := 3, constantValue := 0 }, { name := "LOG2_ARRAY_CHAR_INDEX_SCALE", type := .int, accessFlags := 25, slot := 4, constantValue := 0 }, { name := "LOG2_ARRAY_SHORT_INDEX_SCALE", type := .int, accessFlags := 25, slot := 5, constantValue := 0 }, { name := "LOG2_ARRAY_INT_INDEX_SCALE", type := .int, accessFlags := 25, slot := 6, constantValue := 0 }, { name := "LOG2_ARRAY_LONG_INDEX_SCALE", type := .int, accessFlags := 25, slot := 7, constantValue := 0 }, { name := "LOG2_ARRAY_FLOAT_INDEX_SCALE", type := .int, accessFlags := 25, slot := 8, constantValue := 0 }, { name := "LOG2_ARRAY_DOUBLE_INDEX_SCALE", type := .int, accessFlags := 25, slot := 9, constantValue := 0 }, { name := "LOG2_BYTE_BIT_SIZE", type := .int, accessFlags := 26, slot := 10, constantValue := 0 }, { name := "T_BOOLEAN", type := .int, accessFlags := 25, slot := 11, constantValue := 0 }, { name := "T_CHAR", type := .int, accessFlags := 25, slot := 12, constantValue := 0 }, { name := "T_FLOAT", type := .int, accessFlags := 25, slot := 13, constantValue := 0 }, { name := "T_DOUBLE", type := .int, accessFlags := 25, slot := 14, constantValue := 0 }, { name := "T_BYTE", type := .int, accessFlags := 25, slot := 15, constantValue := 0 }, { name := "T_SHORT", type := .int, accessFlags := 25, slot := 16, constantValue := 0 }, { name := "T_INT", type := .int, accessFlags := 25, slot := 17, constantValue := 0 }, { name := "T_LONG", type := .int, accessFlags := 25, slot := 18, constantValue := 0 }, { name := "JLA", type := (.object "jdk/internal/access/JavaLangAccess"), accessFlags := 26, slot := 19, constantValue := 0 }, { name := "SOFT_MAX_ARRAY_LENGTH", type := .int, accessFlags := 25, slot := 20, constantValue := 0 }]
  methods := #[k14m0]
  instanceTypes := #[]
  staticTypes := #[(.object "jdk/internal/misc/Unsafe"), .boolean, .int, .int, .int, .int, .int, .int, .int, .int, .int, .int, .int, .int, .int, .int, .int, .int, .int, (.object "jdk/internal/access/JavaLangAccess"), .int]
  resolved := Array.replicate 378 none
  statics := none }

def pool15 : Array CpInfo := pool [(1, u "java/lang/Cloneable"), (0, .class_ 1), (0, u "java/lang/Object"), (0, .class_ 3)] 3

/-- java/lang/Cloneable -/
def k15 : Class := { plain "java/lang/Cloneable" (some 0) with
  accessFlags := 1537
  interfaces := #[]
  cf := some (fileOf pool15 2 #[] #[] 1537 4 #[] #[])
  fields := #[]
  methods := #[]
  instanceTypes := #[]
  staticTypes := #[]
  resolved := Array.replicate 8 none
  statics := none }

/-- the primitive byte -/
def k16 : Class := { plain "byte" none with kind := .primitive 'B', accessFlags := 0x411 }
/-- [B -/
def k17 : Class := { plain "[B" (some 0) with kind := .array 16 .byte, interfaces := #[15, 4], accessFlags := 1041 }

/-- the primitive char -/
def k18 : Class := { plain "char" none with kind := .primitive 'C', accessFlags := 0x411 }
/-- [C -/
def k19 : Class := { plain "[C" (some 0) with kind := .array 18 .char, interfaces := #[15, 4], accessFlags := 1041 }

/-- the primitive int -/
def k20 : Class := { plain "int" none with kind := .primitive 'I', accessFlags := 0x411 }
/-- [I -/
def k21 : Class := { plain "[I" (some 0) with kind := .array 20 .int, interfaces := #[15, 4], accessFlags := 1041 }

def heap : Heap := #[{ cls := 9, slots := #[.long 0, .int 1, .null, .int 0, .null, .int 0, .int 0], vm := .statics 9 },
  { cls := 13, slots := #[.null, .null, .null], vm := .statics 13 }]
def classes : Array Class := #[k0, k1, k2, k3, k4, k5, k6, k7, k8, k9, k10, k11, k12, k13, k14, k15, k16, k17, k18, k19, k20, k21]
def interned : List (Array UInt16 × Addr) := []
def slotsUsed : Nat := 10
def theMethod : MethodId := ⟨1, 6⟩
def args0 : Array Value := #[.int 5, .int 6, .int 7, .int 8, .int 0]
def aboutOver (below : List Frame) : State where
  vm := { classes := classes, interned := interned.toArray }
  heap := heap
  slotsUsed := slotsUsed
  threads := #[{ frames := .invoking theMethod args0 :: below }]
def below0 : List Frame := [.native { method := ⟨0, 0⟩, args := #[] }]
def about1 : State := aboutOver below0
def p0 : Program := .bare "" "" ""
def e0 : Env := launch0.env 0 0 0
theorem w_frames : about1.frames = Frame.invoking theMethod args0 :: below0 := rfl
set_option maxRecDepth 65536 in
theorem w_args : argsFit about1.vm theMethod args0 = true := by decide +kernel
set_option maxRecDepth 65536 in
theorem w_heap : heapFits about1 = true := by decide +kernel
set_option maxRecDepth 65536 in
theorem w_runnable : about1.curStatus? = some .runnable := by decide +kernel
set_option maxRecDepth 65536 in
theorem w_alone : about1.alone = true := by decide +kernel
set_option maxRecDepth 65536 in
theorem w_named : about1.methodNamed? x = some theMethod := by decide +kernel
set_option maxRecDepth 65536 in
theorem w_hears : about1.hears theMethod below0 = true := by decide +kernel
set_option maxRecDepth 65536 in
theorem w_ripe : about1.ripe theMethod args0 below0 = true := by decide +kernel
theorem w_running : about1.status = .running := rfl
set_option maxRecDepth 65536 in
theorem w_room : about1.hasRoom e0.platform room_1 = true :=
  launch0.hasRoom_least _ room_1 (by decide +kernel) (by decide +kernel) (by decide +kernel) (by decide +kernel) (by decide +kernel) (by decide +kernel)
theorem allAtoms_all (ts : List Jvm.Cond) (a : Array Jvm.Value) (st : Jvm.State) : (allAtoms ts).before a st = ts.all (fun c => c.before a st) := by
  induction ts with
  | nil => rfl
  | cons c t ih =>
    show (Jvm.Cond.and c (allAtoms t)).before a st = _
    rw [Jvm.Cond.before_and, ih, List.all_cons]
def words1 : List Jvm.Cond := Jvm.Cond.code x code maxLocals ret :: tables_1
/-- a 'code' word, met by the world's own term for the bytes: nothing is compared byte by byte -/
theorem code_word {y : MethodName} {bytes : ByteArray} {mx : Nat} {rt : Option FieldType} {a : Array Value} {s : State} {m : MethodId} {meth : Method} {c : Code} (h1 : s.methodNamed? y = some m) (h2 : s.vm.method? m = some meth) (h3 : meth.code = some c) (h4 : c.code = bytes)
    (h5 : (c.maxLocals == mx && c.exceptionTable.isEmpty && decide (c.maxStack ≤ mostOperands) && decide (meth.sig.returnType = rt) && !meth.locks && decide (parseMethodDescriptor y.desc = some meth.sig)) = true) : (Jvm.Cond.code y bytes mx rt).before a s = true := by
  simp only [Bool.and_eq_true, beq_iff_eq, Bool.not_eq_true', decide_eq_true_eq] at h5
  obtain ⟨⟨⟨⟨⟨g1, g2⟩, g3⟩, g4⟩, g5⟩, g6⟩ := h5
  simp [Cond.before, Cond.holds, Cond.value, h1, h2, h3, h4, g1, g2, g3, g4, g5, g6]
def isCode : Jvm.Cond → Bool
  | .code _ _ _ _ => true
  | _ => false
theorem all_split {L : List Jvm.Cond} {P : Jvm.Cond → Bool} (h1 : L.all (fun c => isCode c || P c) = true) (h2 : ∀ c ∈ L.filter isCode, P c = true) : L.all P = true := by
  refine List.all_eq_true.mpr fun c hc => ?_
  have h := List.all_eq_true.mp h1 c hc
  rcases Bool.eq_false_or_eq_true (isCode c) with hi | hi
  · exact h2 c (List.mem_filter.mpr ⟨hc, hi⟩)
  · simpa [hi] using h
set_option maxRecDepth 65536 in
theorem w_c0 : (Jvm.Cond.code x code maxLocals ret).before args0 about1 = true := code_word (m := ⟨1, 6⟩) (meth := k1m6) (c := k1c6) (by decide +kernel) rfl rfl rfl (by decide +kernel)
set_option maxRecDepth 65536 in
theorem w_c1 : (Jvm.Cond.code ({ cls := "com/example/traceway/traceway/core/HeaderEqualsPinLaw", name := "mk", desc := "(I)Ljava/lang/String;" } : Jvm.MethodName) method_5_code (2 : Nat) (Option.some (Jvm.ClassFile.FieldType.object "java/lang/String"))).before args0 about1 = true := code_word (m := ⟨1, 4⟩) (meth := k1m4) (c := k1c4) (by decide +kernel) rfl rfl rfl (by decide +kernel)
set_option maxRecDepth 65536 in
theorem w_c2 : (Jvm.Cond.code ({ cls := "com/example/traceway/traceway/core/HeaderEqualsPinLaw", name := "len", desc := "(I)I" } : Jvm.MethodName) method_2_code (1 : Nat) (Option.some Jvm.ClassFile.FieldType.int)).before args0 about1 = true := code_word (m := ⟨1, 1⟩) (meth := k1m1) (c := k1c1) (by decide +kernel) rfl rfl rfl (by decide +kernel)
set_option maxRecDepth 65536 in
theorem w_c3 : (Jvm.Cond.code ({ cls := "java/lang/Math", name := "min", desc := "(II)I" } : Jvm.MethodName) jdk_29_method_69_code (2 : Nat) (Option.some Jvm.ClassFile.FieldType.int)).before args0 about1 = true := code_word (m := ⟨3, 1⟩) (meth := k3m1) (c := k3c1) (by decide +kernel) rfl rfl rfl (by decide +kernel)
set_option maxRecDepth 65536 in
theorem w_c4 : (Jvm.Cond.code ({ cls := "java/lang/String", name := "<init>", desc := "([C)V" } : Jvm.MethodName) jdk_42_method_3_code (2 : Nat) (Option.none : Option Jvm.ClassFile.FieldType)).before args0 about1 = true := code_word (m := ⟨9, 1⟩) (meth := k9m1) (c := k9c1) (by decide +kernel) rfl rfl rfl (by decide +kernel)
set_option maxRecDepth 65536 in
theorem w_c5 : (Jvm.Cond.code ({ cls := "java/lang/String", name := "<init>", desc := "([CIILjava/lang/Void;)V" } : Jvm.MethodName) jdk_42_method_149_code (6 : Nat) (Option.none : Option Jvm.ClassFile.FieldType)).before args0 about1 = true := code_word (m := ⟨9, 3⟩) (meth := k9m3) (c := k9c3) (by decide +kernel) rfl rfl rfl (by decide +kernel)
set_option maxRecDepth 65536 in
theorem w_c6 : (Jvm.Cond.code ({ cls := "java/lang/Object", name := "<init>", desc := "()V" } : Jvm.MethodName) object_method_1_code (1 : Nat) (Option.none : Option Jvm.ClassFile.FieldType)).before args0 about1 = true := code_word (m := ⟨0, 0⟩) (meth := k0m0) (c := k0c0) (by decide +kernel) rfl rfl rfl (by decide +kernel)
set_option maxRecDepth 65536 in
theorem w_c7 : (Jvm.Cond.code ({ cls := "com/example/traceway/traceway/core/Header", name := "<init>", desc := "(Ljava/lang/String;Ljava/lang/String;)V" } : Jvm.MethodName) prog_15_method_1_code (3 : Nat) (Option.none : Option Jvm.ClassFile.FieldType)).before args0 about1 = true := code_word (m := ⟨2, 0⟩) (meth := k2m0) (c := k2c0) (by decide +kernel) rfl rfl rfl (by decide +kernel)
set_option maxRecDepth 65536 in
theorem w_c8 : (Jvm.Cond.code ({ cls := "java/util/Objects", name := "requireNonNull", desc := "(Ljava/lang/Object;Ljava/lang/String;)Ljava/lang/Object;" } : Jvm.MethodName) jdk_31_method_11_code (2 : Nat) (Option.some (Jvm.ClassFile.FieldType.object "java/lang/Object"))).before args0 about1 = true := code_word (m := ⟨10, 1⟩) (meth := k10m1) (c := k10c1) (by decide +kernel) rfl rfl rfl (by decide +kernel)
set_option maxRecDepth 65536 in
theorem w_c9 : (Jvm.Cond.code ({ cls := "com/example/traceway/traceway/core/HeaderEqualsPinLaw", name := "same", desc := "(II)Z" } : Jvm.MethodName) method_6_code (2 : Nat) (Option.some Jvm.ClassFile.FieldType.boolean)).before args0 about1 = true := code_word (m := ⟨1, 5⟩) (meth := k1m5) (c := k1c5) (by decide +kernel) rfl rfl rfl (by decide +kernel)
set_option maxRecDepth 65536 in
theorem w_c10 : (Jvm.Cond.code ({ cls := "com/example/traceway/traceway/core/Header", name := "equals", desc := "(Ljava/lang/Object;)Z" } : Jvm.MethodName) prog_15_method_7_code (3 : Nat) (Option.some Jvm.ClassFile.FieldType.boolean)).before args0 about1 = true := code_word (m := ⟨2, 1⟩) (meth := k2m1) (c := k2c1) (by decide +kernel) rfl rfl rfl (by decide +kernel)
set_option maxRecDepth 65536 in
theorem w_c11 : (Jvm.Cond.code ({ cls := "java/lang/String", name := "equals", desc := "(Ljava/lang/Object;)Z" } : Jvm.MethodName) jdk_42_method_66_code (3 : Nat) (Option.some Jvm.ClassFile.FieldType.boolean)).before args0 about1 = true := code_word (m := ⟨9, 2⟩) (meth := k9m2) (c := k9c2) (by decide +kernel) rfl rfl rfl (by decide +kernel)
set_option maxRecDepth 65536 in
theorem w_c12 : (Jvm.Cond.code ({ cls := "java/lang/StringLatin1", name := "equals", desc := "([B[B)Z" } : Jvm.MethodName) jdk_43_method_13_code (3 : Nat) (Option.some Jvm.ClassFile.FieldType.boolean)).before args0 about1 = true := code_word (m := ⟨11, 1⟩) (meth := k11m1) (c := k11c1) (by decide +kernel) rfl rfl rfl (by decide +kernel)
set_option maxRecDepth 65536 in
theorem w_c13 : (Jvm.Cond.code ({ cls := "com/example/traceway/traceway/core/HeaderEqualsPinLaw", name := "c0", desc := "(I)C" } : Jvm.MethodName) method_3_code (1 : Nat) (Option.some Jvm.ClassFile.FieldType.char)).before args0 about1 = true := code_word (m := ⟨1, 2⟩) (meth := k1m2) (c := k1c2) (by decide +kernel) rfl rfl rfl (by decide +kernel)
set_option maxRecDepth 65536 in
theorem w_c14 : (Jvm.Cond.code ({ cls := "com/example/traceway/traceway/core/HeaderEqualsPinLaw", name := "c1", desc := "(I)C" } : Jvm.MethodName) method_4_code (1 : Nat) (Option.some Jvm.ClassFile.FieldType.char)).before args0 about1 = true := code_word (m := ⟨1, 3⟩) (meth := k1m3) (c := k1c3) (by decide +kernel) rfl rfl rfl (by decide +kernel)
set_option maxRecDepth 65536 in
theorem w_c15 : (Jvm.Cond.code ({ cls := "java/lang/StringUTF16", name := "compress", desc := "([CII)[B" } : Jvm.MethodName) jdk_52_method_16_code (6 : Nat) (Option.some (Jvm.ClassFile.FieldType.array Jvm.ClassFile.FieldType.byte))).before args0 about1 = true := code_word (m := ⟨12, 2⟩) (meth := k12m2) (c := k12c2) (by decide +kernel) rfl rfl rfl (by decide +kernel)
set_option maxRecDepth 65536 in
theorem w_c16 : (Jvm.Cond.code ({ cls := "java/lang/StringUTF16", name := "compress", desc := "([CI[BII)I" } : Jvm.MethodName) jdk_52_method_21_code (7 : Nat) (Option.some Jvm.ClassFile.FieldType.int)).before args0 about1 = true := code_word (m := ⟨12, 3⟩) (meth := k12m3) (c := k12c3) (by decide +kernel) rfl rfl rfl (by decide +kernel)
set_option maxRecDepth 65536 in
theorem w_c17 : (Jvm.Cond.code ({ cls := "java/lang/StringUTF16", name := "coderFromArrayLen", desc := "([BI)B" } : Jvm.MethodName) jdk_52_method_15_code (2 : Nat) (Option.some Jvm.ClassFile.FieldType.byte)).before args0 about1 = true := code_word (m := ⟨12, 1⟩) (meth := k12m1) (c := k12c1) (by decide +kernel) rfl rfl rfl (by decide +kernel)
def codes1 : List Jvm.Cond := [Jvm.Cond.code x code maxLocals ret, Jvm.Cond.code ({ cls := "com/example/traceway/traceway/core/HeaderEqualsPinLaw", name := "mk", desc := "(I)Ljava/lang/String;" } : Jvm.MethodName) method_5_code (2 : Nat) (Option.some (Jvm.ClassFile.FieldType.object "java/lang/String")), Jvm.Cond.code ({ cls := "com/example/traceway/traceway/core/HeaderEqualsPinLaw", name := "len", desc := "(I)I" } : Jvm.MethodName) method_2_code (1 : Nat) (Option.some Jvm.ClassFile.FieldType.int), Jvm.Cond.code ({ cls := "java/lang/Math", name := "min", desc := "(II)I" } : Jvm.MethodName) jdk_29_method_69_code (2 : Nat) (Option.some Jvm.ClassFile.FieldType.int), Jvm.Cond.code ({ cls := "java/lang/String", name := "<init>", desc := "([C)V" } : Jvm.MethodName) jdk_42_method_3_code (2 : Nat) (Option.none : Option Jvm.ClassFile.FieldType), Jvm.Cond.code ({ cls := "java/lang/String", name := "<init>", desc := "([CIILjava/lang/Void;)V" } : Jvm.MethodName) jdk_42_method_149_code (6 : Nat) (Option.none : Option Jvm.ClassFile.FieldType), Jvm.Cond.code ({ cls := "java/lang/Object", name := "<init>", desc := "()V" } : Jvm.MethodName) object_method_1_code (1 : Nat) (Option.none : Option Jvm.ClassFile.FieldType), Jvm.Cond.code ({ cls := "com/example/traceway/traceway/core/Header", name := "<init>", desc := "(Ljava/lang/String;Ljava/lang/String;)V" } : Jvm.MethodName) prog_15_method_1_code (3 : Nat) (Option.none : Option Jvm.ClassFile.FieldType), Jvm.Cond.code ({ cls := "java/util/Objects", name := "requireNonNull", desc := "(Ljava/lang/Object;Ljava/lang/String;)Ljava/lang/Object;" } : Jvm.MethodName) jdk_31_method_11_code (2 : Nat) (Option.some (Jvm.ClassFile.FieldType.object "java/lang/Object")), Jvm.Cond.code ({ cls := "com/example/traceway/traceway/core/HeaderEqualsPinLaw", name := "same", desc := "(II)Z" } : Jvm.MethodName) method_6_code (2 : Nat) (Option.some Jvm.ClassFile.FieldType.boolean), Jvm.Cond.code ({ cls := "com/example/traceway/traceway/core/Header", name := "equals", desc := "(Ljava/lang/Object;)Z" } : Jvm.MethodName) prog_15_method_7_code (3 : Nat) (Option.some Jvm.ClassFile.FieldType.boolean), Jvm.Cond.code ({ cls := "java/lang/String", name := "equals", desc := "(Ljava/lang/Object;)Z" } : Jvm.MethodName) jdk_42_method_66_code (3 : Nat) (Option.some Jvm.ClassFile.FieldType.boolean), Jvm.Cond.code ({ cls := "java/lang/StringLatin1", name := "equals", desc := "([B[B)Z" } : Jvm.MethodName) jdk_43_method_13_code (3 : Nat) (Option.some Jvm.ClassFile.FieldType.boolean), Jvm.Cond.code ({ cls := "com/example/traceway/traceway/core/HeaderEqualsPinLaw", name := "c0", desc := "(I)C" } : Jvm.MethodName) method_3_code (1 : Nat) (Option.some Jvm.ClassFile.FieldType.char), Jvm.Cond.code ({ cls := "com/example/traceway/traceway/core/HeaderEqualsPinLaw", name := "c1", desc := "(I)C" } : Jvm.MethodName) method_4_code (1 : Nat) (Option.some Jvm.ClassFile.FieldType.char), Jvm.Cond.code ({ cls := "java/lang/StringUTF16", name := "compress", desc := "([CII)[B" } : Jvm.MethodName) jdk_52_method_16_code (6 : Nat) (Option.some (Jvm.ClassFile.FieldType.array Jvm.ClassFile.FieldType.byte)), Jvm.Cond.code ({ cls := "java/lang/StringUTF16", name := "compress", desc := "([CI[BII)I" } : Jvm.MethodName) jdk_52_method_21_code (7 : Nat) (Option.some Jvm.ClassFile.FieldType.int), Jvm.Cond.code ({ cls := "java/lang/StringUTF16", name := "coderFromArrayLen", desc := "([BI)B" } : Jvm.MethodName) jdk_52_method_15_code (2 : Nat) (Option.some Jvm.ClassFile.FieldType.byte)]
set_option maxRecDepth 65536 in
theorem codes_eq : words1.filter isCode = codes1 := rfl
theorem w_codes : ∀ c ∈ words1.filter isCode, c.before args0 about1 = true := by
  rw [codes_eq]
  intro c hc
  simp only [codes1, List.mem_cons, List.not_mem_nil, or_false] at hc
  rcases hc with rfl | rfl | rfl | rfl | rfl | rfl | rfl | rfl | rfl | rfl | rfl | rfl | rfl | rfl | rfl | rfl | rfl | rfl
  · exact w_c0
  · exact w_c1
  · exact w_c2
  · exact w_c3
  · exact w_c4
  · exact w_c5
  · exact w_c6
  · exact w_c7
  · exact w_c8
  · exact w_c9
  · exact w_c10
  · exact w_c11
  · exact w_c12
  · exact w_c13
  · exact w_c14
  · exact w_c15
  · exact w_c16
  · exact w_c17
set_option maxRecDepth 65536 in
theorem w_t1 : (words1.take 24).all (fun c => isCode c || c.before args0 about1) = true := by decide +kernel
set_option maxRecDepth 65536 in
theorem w_t2 : ((words1.drop 24).take 24).all (fun c => isCode c || c.before args0 about1) = true := by decide +kernel
set_option maxRecDepth 65536 in
theorem w_t3 : (((words1.drop 24).drop 24).take 24).all (fun c => isCode c || c.before args0 about1) = true := by decide +kernel
set_option maxRecDepth 65536 in
theorem w_t4 : (((words1.drop 24).drop 24).drop 24).all (fun c => isCode c || c.before args0 about1) = true := by decide +kernel
theorem w_tables : (allAtoms (Jvm.Cond.code x code maxLocals ret :: tables_1)).before args0 about1 = true := by
  rw [allAtoms_all]
  show words1.all (fun c => c.before args0 about1) = true
  refine all_split ?_ w_codes
  rw [← List.take_append_drop 24 words1, List.all_append, w_t1, ← List.take_append_drop 24 (words1.drop 24), List.all_append, w_t2, ← List.take_append_drop 24 ((words1.drop 24).drop 24), List.all_append, w_t3, w_t4]
  rfl
set_option maxRecDepth 65536 in
theorem w_rest : rest_1_c.before args0 about1 = true := by decide +kernel
set_option maxRecDepth 65536 in
theorem w_case : (Jvm.Cond.and given_1 narrow_1).before args0 about1 = true := by decide +kernel
set_option maxRecDepth 65536 in
theorem w_consts : constsHeld consts_1 about1 := Jvm.Lit.constsHeldB_iff.mp (by decide +kernel)
theorem w_applies : (headSpec (Jvm.Cond.code x code maxLocals ret :: tables_1) room_1).applies x e0.platform about1 = true :=
  (Spec.applies_iff w_frames).mpr ⟨w_running, w_runnable, w_alone, w_named, w_hears, w_ripe, w_room, w_tables⟩
theorem atStart : AtStart classFile x code maxLocals ret World_1 tables_1 room_1 Calls_1 rest_1 Pre_1 launch0 p0 e0 about1 theMethod args0 below0 :=
  ⟨lists_1, trivial, launch0.admits_env _ _ _, launch0.least_env, fairChoices_fair.cas, fairChoices_fair.clock, w_frames, w_args, w_heap, w_applies, ⟨w_consts, trivial⟩, w_rest, w_case⟩
end start1
theorem witness_1 : WitnessClaimed_1 := ⟨start1.p0, start1.e0, start1.about1, start1.theMethod, start1.args0, start1.below0, start1.atStart⟩
end Jvm.Pilot.@@N@@
