import JvmDerived
import JvmDerived.Pilot.@@N@@Statement
import JvmDerived.Pilot.@@N@@Code
set_option linter.unusedVariables false
set_option linter.unusedSimpArgs false
@@BLOCK:NumsL.lean.txt@@
namespace Jvm.OwnK
open Sem ClassFile Op Lib Jvm.Stand Jvm.Free Jvm.LawKit Jvm.RoadKit Bundle
/-- from the frame f at T the run ends, and P holds of its end -/
def Go (tb : Tables) (e : Env) (below : List Frame) (P : Outcome → State → Prop) (T : State) (f : JFrame) : Prop :=
  ∃ s₂ o, Steps tb e below (T.setTop f) s₂ ∧ s₂.status = .running ∧ Ended s₂ below o ∧ P o s₂
abbrev PQ (s : State) (Q : Option Value → Heap → List Loc → Prop) (C N : Nat) : Outcome → State → Prop := fun o U' => ∃ v L, o = .returned v ∧ Q v U'.heap L ∧ FrameEnd s o U' L C N
theorem Go.st {tb : Tables} {e : Env} {below : List Frame} {P : Outcome → State → Prop} {T T' : State} {f f' : JFrame} (h : ∀ t, Steps tb e below (T'.setTop f') t → Steps tb e below (T.setTop f) t) (k : Go tb e below P T' f') : Go tb e below P T f := by
  obtain ⟨s₂, o, h1, h2⟩ := k; exact ⟨s₂, o, h _ h1, h2⟩
theorem Go.st1 {tb : Tables} {e : Env} {below : List Frame} {P : Outcome → State → Prop} {T T' : State} {f f' : JFrame} (h : Steps tb e below (T.setTop f) (T'.setTop f')) (k : Go tb e below P T' f') : Go tb e below P T f :=
  Go.st (fun t q => h.trans q) k
theorem tI {x : Int32} {n : Int} (h : x.toInt = n) : x = Int32.ofInt n := by subst h; simp
section Steps
variable {p : Program} {l : Launch} {e : Env} {R : Room} {s : State} {m : MethodId} {args : Array Value} {below : List Frame} {meth : Method} {c : Code} {T : State} {locs : List Loc} {cells slots : Nat} {P : Outcome → State → Prop} {pc pc' : Nat} {Ls : Array Slot} {S : List Value} {Z : State} {a0 : Array Value} {h : Heap}
theorem iload (X : Stand p l e R s m args below meth c T locs cells slots) (hx : p.tables.exec = Jvm.exec) {j : Nat} {v : Int32} (hd : decode c.code pc = .ok (.iload j, 2)) (hp : pc' = pc + 2) (hl : Ls[j]? = some (.val (.int v)))
    (k : Go p.tables e below P T (mkF m pc' Ls (.int v :: S))) : Go p.tables e below P T (mkF m pc Ls (S)) := by
  subst hp; exact Go.st (fun t q => XS.iload X.here hx rfl hd  hl q) k
theorem iloadN (X : Stand p l e R s m args below meth c T locs cells slots) (hx : p.tables.exec = Jvm.exec) {j : Fin 4} {v : Int32} (hd : decode c.code pc = .ok (.iload_n j, 1)) (hp : pc' = pc + 1) (hl : Ls[j.val]? = some (.val (.int v)))
    (k : Go p.tables e below P T (mkF m pc' Ls (.int v :: S))) : Go p.tables e below P T (mkF m pc Ls (S)) := by
  subst hp; exact Go.st (fun t q => XS.iloadN X.here hx rfl hd  hl q) k
theorem aload (X : Stand p l e R s m args below meth c T locs cells slots) (hx : p.tables.exec = Jvm.exec) {j : Nat} {v : Value} (hd : decode c.code pc = .ok (.aload j, 2)) (hp : pc' = pc + 2) (hl : Ls[j]? = some (.val v)) (hv : v.isRef = true)
    (k : Go p.tables e below P T (mkF m pc' Ls (v :: S))) : Go p.tables e below P T (mkF m pc Ls (S)) := by
  subst hp; exact Go.st (fun t q => XS.aload X.here hx rfl hd  hl hv q) k
theorem aloadN (X : Stand p l e R s m args below meth c T locs cells slots) (hx : p.tables.exec = Jvm.exec) {j : Fin 4} {v : Value} (hd : decode c.code pc = .ok (.aload_n j, 1)) (hp : pc' = pc + 1) (hl : Ls[j.val]? = some (.val v)) (hv : v.isRef = true)
    (k : Go p.tables e below P T (mkF m pc' Ls (v :: S))) : Go p.tables e below P T (mkF m pc Ls (S)) := by
  subst hp; exact Go.st (fun t q => XS.aloadN X.here hx rfl hd  hl hv q) k
theorem istore (X : Stand p l e R s m args below meth c T locs cells slots) (hx : p.tables.exec = Jvm.exec) {j : Nat} {v : Int32} {Ls' : Array Slot} (hd : decode c.code pc = .ok (.istore j, 2)) (hp : pc' = pc + 2) (hl : storeLocals Ls j (.int v) = some Ls')
    (k : Go p.tables e below P T (mkF m pc' Ls' (S))) : Go p.tables e below P T (mkF m pc Ls (.int v :: S)) := by
  subst hp; exact Go.st (fun t q => XS.istore X.here hx rfl hd rfl hl q) k
theorem istoreN (X : Stand p l e R s m args below meth c T locs cells slots) (hx : p.tables.exec = Jvm.exec) {j : Fin 4} {v : Int32} {Ls' : Array Slot} (hd : decode c.code pc = .ok (.istore_n j, 1)) (hp : pc' = pc + 1) (hl : storeLocals Ls j.val (.int v) = some Ls')
    (k : Go p.tables e below P T (mkF m pc' Ls' (S))) : Go p.tables e below P T (mkF m pc Ls (.int v :: S)) := by
  subst hp; exact Go.st (fun t q => XS.istoreN X.here hx rfl hd rfl hl q) k
theorem astore (X : Stand p l e R s m args below meth c T locs cells slots) (hx : p.tables.exec = Jvm.exec) {j : Nat} {v : Value} {Ls' : Array Slot} (hd : decode c.code pc = .ok (.astore j, 2)) (hp : pc' = pc + 2) (hv : v.isRef = true) (hl : storeLocals Ls j v = some Ls')
    (k : Go p.tables e below P T (mkF m pc' Ls' (S))) : Go p.tables e below P T (mkF m pc Ls (v :: S)) := by
  subst hp; exact Go.st (fun t q => XS.astore X.here hx rfl hd rfl hv hl q) k
theorem astoreN (X : Stand p l e R s m args below meth c T locs cells slots) (hx : p.tables.exec = Jvm.exec) {j : Fin 4} {v : Value} {Ls' : Array Slot} (hd : decode c.code pc = .ok (.astore_n j, 1)) (hp : pc' = pc + 1) (hv : v.isRef = true) (hl : storeLocals Ls j.val v = some Ls')
    (k : Go p.tables e below P T (mkF m pc' Ls' (S))) : Go p.tables e below P T (mkF m pc Ls (v :: S)) := by
  subst hp; exact Go.st (fun t q => XS.astoreN X.here hx rfl hd rfl hv hl q) k
theorem istoreG (X : Stand p l e R s m args below meth c T locs cells slots) (hx : p.tables.exec = Jvm.exec) {j : Nat} {v : Int32} {Ls' : Int32 → Array Slot} (hd : decode c.code pc = .ok (.istore j, 2)) (hp : pc' = pc + 2) (hl : ∀ u, storeLocals Ls j (.int u) = some (Ls' u))
    (k : ∀ u, u = v → Go p.tables e below P T (mkF m pc' (Ls' u) (S))) : Go p.tables e below P T (mkF m pc Ls (.int v :: S)) := istore X hx hd hp (hl v) (k v rfl)
theorem iconst (X : Stand p l e R s m args below meth c T locs cells slots) (hx : p.tables.exec = Jvm.exec) {i : Int} {v : Int32} (hd : decode c.code pc = .ok (.iconst i, 1)) (hp : pc' = pc + 1) (hv : Int32.ofInt i = v)
    (k : Go p.tables e below P T (mkF m pc' Ls (.int v :: S))) : Go p.tables e below P T (mkF m pc Ls (S)) := by
  subst hp hv; exact Go.st (fun t q => XS.iconst X.here hx rfl hd q) k
theorem iand (X : Stand p l e R s m args below meth c T locs cells slots) (hx : p.tables.exec = Jvm.exec) {x y : Int32} (hd : decode c.code pc = .ok (.iand, 1)) (hp : pc' = pc + 1)
    (k : Go p.tables e below P T (mkF m pc' Ls (.int (x &&& y) :: S))) : Go p.tables e below P T (mkF m pc Ls (.int y :: .int x :: S)) := by
  subst hp; exact Go.st (fun t q => XS.iand X.here hx rfl hd rfl  q) k
theorem iushr (X : Stand p l e R s m args below meth c T locs cells slots) (hx : p.tables.exec = Jvm.exec) {x y : Int32} (hd : decode c.code pc = .ok (.iushr, 1)) (hp : pc' = pc + 1)
    (k : Go p.tables e below P T (mkF m pc' Ls (.int (XT.ushr x y) :: S))) : Go p.tables e below P T (mkF m pc Ls (.int y :: .int x :: S)) := by
  subst hp; exact Go.st (fun t q => XT.iushr X.here hx rfl hd rfl  q) k
theorem i2b (X : Stand p l e R s m args below meth c T locs cells slots) (hx : p.tables.exec = Jvm.exec) {x : Int32} (hd : decode c.code pc = .ok (.i2b, 1)) (hp : pc' = pc + 1)
    (k : Go p.tables e below P T (mkF m pc' Ls (.int (x.toInt8.toInt32) :: S))) : Go p.tables e below P T (mkF m pc Ls (.int x :: S)) := by
  subst hp; exact Go.st (fun t q => XT.i2b X.here hx rfl hd rfl  q) k
theorem dup (X : Stand p l e R s m args below meth c T locs cells slots) (hx : p.tables.exec = Jvm.exec) {x : Value} (hd : decode c.code pc = .ok (.dup, 1)) (hp : pc' = pc + 1) (hc : x.category = 1)
    (k : Go p.tables e below P T (mkF m pc' Ls (x :: x :: S))) : Go p.tables e below P T (mkF m pc Ls (x :: S)) := by
  subst hp; exact Go.st (fun t q => XS.dup X.here hx rfl hd rfl hc q) k
theorem iinc (X : Stand p l e R s m args below meth c T locs cells slots) (hx : p.tables.exec = Jvm.exec) {j : Nat} {i : Int} {x v : Int32} {Ls' : Array Slot} (hd : decode c.code pc = .ok (.iinc j i, 3)) (hp : pc' = pc + 3) (hv : Int32.ofInt i = v) (hl : Ls[j]? = some (.val (.int x))) (hl' : storeLocals Ls j (.int (x + v)) = some Ls')
    (k : Go p.tables e below P T (mkF m pc' Ls' (S))) : Go p.tables e below P T (mkF m pc Ls (S)) := by
  subst hp hv; exact Go.st (fun t q => XS.iinc X.here hx rfl hd hl hl' q) k
theorem iincL (X : Stand p l e R s m args below meth c T locs cells slots) (hx : p.tables.exec = Jvm.exec) {j : Nat} {i : Int} {x v : Int32} {Ls' : Array Slot} (hd : decode c.code pc = .ok (.iinc j i, 3)) (hp : pc' = pc + 3) (hl : Ls[j]? = some (.val (.int x))) (hv : x + Int32.ofInt i = v) (hl' : storeLocals Ls j (.int v) = some Ls')
    (k : Go p.tables e below P T (mkF m pc' Ls' (S))) : Go p.tables e below P T (mkF m pc Ls (S)) := by
  subst hv; exact iinc X hx hd hp rfl hl hl' k
theorem goto_ (X : Stand p l e R s m args below meth c T locs cells slots) (hx : p.tables.exec = Jvm.exec) {o : Int} (hd : decode c.code pc = .ok (.goto o, 3)) (ho : 0 ≤ (pc : Int) + o) (hp : ((pc : Int) + o).toNat = pc')
    (k : Go p.tables e below P T (mkF m pc' Ls (S))) : Go p.tables e below P T (mkF m pc Ls (S)) :=
  Go.st (fun t q => XS.goto X.here hx rfl rfl hd ho hp q) k
theorem h_lt (x y : Int32) : if_icmp.holds .lt x y = decide (x.toInt < y.toInt) := by simp [if_icmp.holds, Int32.lt_iff_toInt_lt]
theorem h_ge (x y : Int32) : if_icmp.holds .ge x y = decide (y.toInt ≤ x.toInt) := by simp [if_icmp.holds, Int32.le_iff_toInt_le]
theorem h_eq (x y : Int32) : if_icmp.holds .eq x y = decide (x.toInt = y.toInt) := by rw [Bool.eq_iff_iff]; simp [if_icmp.holds, Int32.toInt_inj]
theorem h_ne (x y : Int32) : if_icmp.holds .ne x y = decide (¬ x.toInt = y.toInt) := by rw [Bool.eq_iff_iff]; simp [if_icmp.holds, Int32.toInt_inj]
theorem z_any (cd : ClassFile.Cond) (x : Int32) : ifCond.holds cd x = if_icmp.holds cd x 0 := by cases cd <;> simp [ifCond.holds, if_icmp.holds]
theorem z0 : (0 : Int32).toInt = 0 := by decide
theorem icmp_lt (X : Stand p l e R s m args below meth c T locs cells slots) (hx : p.tables.exec = Jvm.exec) {o : Int} {x y : Int32} {pcT : Nat} (hd : decode c.code pc = .ok (.if_icmp .lt o, 3)) (ho : 0 ≤ (pc : Int) + o) (hT : ((pc : Int) + o).toNat = pcT) (hp : pc' = pc + 3)
    (kt : x.toInt < y.toInt → Go p.tables e below P T (mkF m pcT Ls (S))) (kf : y.toInt ≤ x.toInt → Go p.tables e below P T (mkF m pc' Ls (S))) : Go p.tables e below P T (mkF m pc Ls (.int y :: .int x :: S)) := by
  subst hp
  by_cases q : x.toInt < y.toInt
  · exact Go.st (fun t r => XS.icmpYes X.here hx rfl rfl hd rfl (by rw [h_lt]; exact decide_eq_true q) ho hT r) (kt q)
  · exact Go.st (fun t r => XS.icmpNo X.here hx rfl hd rfl (by rw [h_lt]; exact decide_eq_false q) r) (kf (by omega))
theorem icmp_ge (X : Stand p l e R s m args below meth c T locs cells slots) (hx : p.tables.exec = Jvm.exec) {o : Int} {x y : Int32} {pcT : Nat} (hd : decode c.code pc = .ok (.if_icmp .ge o, 3)) (ho : 0 ≤ (pc : Int) + o) (hT : ((pc : Int) + o).toNat = pcT) (hp : pc' = pc + 3)
    (kt : y.toInt ≤ x.toInt → Go p.tables e below P T (mkF m pcT Ls (S))) (kf : x.toInt < y.toInt → Go p.tables e below P T (mkF m pc' Ls (S))) : Go p.tables e below P T (mkF m pc Ls (.int y :: .int x :: S)) := by
  subst hp
  by_cases q : y.toInt ≤ x.toInt
  · exact Go.st (fun t r => XS.icmpYes X.here hx rfl rfl hd rfl (by rw [h_ge]; exact decide_eq_true q) ho hT r) (kt q)
  · exact Go.st (fun t r => XS.icmpNo X.here hx rfl hd rfl (by rw [h_ge]; exact decide_eq_false q) r) (kf (by omega))
theorem icmp_eq (X : Stand p l e R s m args below meth c T locs cells slots) (hx : p.tables.exec = Jvm.exec) {o : Int} {x y : Int32} {pcT : Nat} (hd : decode c.code pc = .ok (.if_icmp .eq o, 3)) (ho : 0 ≤ (pc : Int) + o) (hT : ((pc : Int) + o).toNat = pcT) (hp : pc' = pc + 3)
    (kt : x.toInt = y.toInt → Go p.tables e below P T (mkF m pcT Ls (S))) (kf : ¬ x.toInt = y.toInt → Go p.tables e below P T (mkF m pc' Ls (S))) : Go p.tables e below P T (mkF m pc Ls (.int y :: .int x :: S)) := by
  subst hp
  by_cases q : x.toInt = y.toInt
  · exact Go.st (fun t r => XS.icmpYes X.here hx rfl rfl hd rfl (by rw [h_eq]; exact decide_eq_true q) ho hT r) (kt q)
  · exact Go.st (fun t r => XS.icmpNo X.here hx rfl hd rfl (by rw [h_eq]; exact decide_eq_false q) r) (kf (by omega))
theorem icmp_ne (X : Stand p l e R s m args below meth c T locs cells slots) (hx : p.tables.exec = Jvm.exec) {o : Int} {x y : Int32} {pcT : Nat} (hd : decode c.code pc = .ok (.if_icmp .ne o, 3)) (ho : 0 ≤ (pc : Int) + o) (hT : ((pc : Int) + o).toNat = pcT) (hp : pc' = pc + 3)
    (kt : ¬ x.toInt = y.toInt → Go p.tables e below P T (mkF m pcT Ls (S))) (kf : x.toInt = y.toInt → Go p.tables e below P T (mkF m pc' Ls (S))) : Go p.tables e below P T (mkF m pc Ls (.int y :: .int x :: S)) := by
  subst hp
  by_cases q : ¬ x.toInt = y.toInt
  · exact Go.st (fun t r => XS.icmpYes X.here hx rfl rfl hd rfl (by rw [h_ne]; exact decide_eq_true q) ho hT r) (kt q)
  · exact Go.st (fun t r => XS.icmpNo X.here hx rfl hd rfl (by rw [h_ne]; exact decide_eq_false q) r) (kf (by omega))
theorem if_ne (X : Stand p l e R s m args below meth c T locs cells slots) (hx : p.tables.exec = Jvm.exec) {o : Int} {x : Int32} {pcT : Nat} (hd : decode c.code pc = .ok (.ifCond .ne o, 3)) (ho : 0 ≤ (pc : Int) + o) (hT : ((pc : Int) + o).toNat = pcT) (hp : pc' = pc + 3)
    (kt : ¬ x.toInt = 0 → Go p.tables e below P T (mkF m pcT Ls (S))) (kf : x.toInt = 0 → Go p.tables e below P T (mkF m pc' Ls (S))) : Go p.tables e below P T (mkF m pc Ls (.int x :: S)) := by
  subst hp
  by_cases q : ¬ x.toInt = 0
  · exact Go.st (fun t r => XS.ifYes X.here hx rfl rfl hd rfl (by rw [z_any, h_ne, z0]; exact decide_eq_true q) ho hT r) (kt q)
  · exact Go.st (fun t r => XS.ifNo X.here hx rfl hd rfl (by rw [z_any, h_ne, z0]; exact decide_eq_false q) r) (kf (by omega))
theorem getF_ (X : Stand p l e R s m args below meth c T locs cells slots) (hx : p.tables.exec = Jvm.exec) (hZ : Z.Warmed39 s.vm) {own : String} (hown : s.vm.findClass own = some m.cls) {R0 O n d host : String} {i : Nat} (w : (Cond.fieldLink own i R0 n d).before a0 Z = true ∨ (Cond.fieldLinkNest own i R0 n d host).before a0 Z = true) (via : Via Z R0 O n d) (eT : T.heap = h) {a : Addr} {v : Value} (F : Fld Z h a O n d v) (hd : decode c.code pc = .ok (.getfield i, 3)) (hp : pc' = pc + 3)
    (k : ∀ T', Stand p l e R s m args below meth c T' locs cells slots → T'.heap = h → Go p.tables e below P T' (mkF m pc' Ls (v :: S))) : Go p.tables e below P T (mkF m pc Ls (.ref a :: S)) := by
  subst hp
  obtain ⟨T', X', e', st⟩ := getF X hx hZ hown w via eT F (g := mkF m pc Ls (.ref a :: S)) rfl rfl hd
  exact Go.st st (k T' X' e')
theorem putF_ (X : Stand p l e R s m args below meth c T locs cells slots) (hx : p.tables.exec = Jvm.exec) (hZ : Z.Warmed39 s.vm) {own : String} (hown : s.vm.findClass own = some m.cls) {R0 O n d C : String} {i kk : Nat} {ty : FieldType} (w : (Cond.fieldLink own i R0 n d).before a0 Z = true) (via : Via Z R0 O n d) (eT : T.heap = h) {a : Addr} {v v' old : Value} (F : Fld Z h a O n d old) (E : Exa Z h a C) (L : (Cond.lays C O n d).before a0 Z = true ∨ ((Cond.laysFinal C O n d).before a0 Z = true ∧ own = O ∧ meth.name = "<init>")) (wi : (Cond.instantiable C kk).before a0 Z = true) (hty : parseFieldDescriptor d = some ty) (hn : narrow ty v = v') (hf : fits ty v' = true) (hd : decode c.code pc = .ok (.putfield i, 3)) (hp : pc' = pc + 3)
    (k : ∀ T' h', Stand p l e R s m args below meth c T' (locs ++ [⟨a, Jvm.RoadKit.slotOf Z O n d⟩]) cells slots → T'.heap = h' → Wr h h' a (Jvm.RoadKit.slotOf Z O n d) v' → Go p.tables e below P T' (mkF m pc' Ls (S))) : Go p.tables e below P T (mkF m pc Ls (v :: .ref a :: S)) := by
  subst hp
  obtain ⟨T', h', X', e', W', st⟩ := putFN X hx hZ hown w via eT F E L wi hty hn hf (g := mkF m pc Ls (v :: .ref a :: S)) rfl rfl hd
  exact Go.st st (k T' h' X' e' W')
theorem new_ (X : Stand p l e R s m args below meth c T locs cells slots) (hx : p.tables.exec = Jvm.exec) (hZ : Z.Warmed39 s.vm) {own : String} (hown : s.vm.findClass own = some m.cls) {C : String} {i n : Nat} (w : (Cond.classLink own i C).before a0 Z = true) (wi : (Cond.instantiable C n).before a0 Z = true) (wz : (Cond.initialized C).before a0 Z = true) (eT : T.heap = h) (hd : decode c.code pc = .ok (.new i, 3)) (hp : pc' = pc + 3) (hc : cells + 1 ≤ R.cells) (hl : slots + n ≤ R.slots)
    (k : ∀ T' h' a, Stand p l e R s m args below meth c T' locs (cells + 1) (slots + n) → T'.heap = h' → a = h.size → Ext h h' → Exa Z h' a C → (∀ {O nm d : String} {ty : FieldType}, Laid Z a0 C O nm d → parseFieldDescriptor d = some ty → Fld Z h' a O nm d (defaultValue ty)) → Go p.tables e below P T' (mkF m pc' Ls (.ref a :: S))) : Go p.tables e below P T (mkF m pc Ls (S)) := by
  subst hp
  obtain ⟨T', h', X', e', E', A', D', -, st⟩ := newO X hx hZ hown w wi wz eT (g := mkF m pc Ls S) rfl hd hc hl
  exact Go.st st (k T' h' _ X' e' rfl E' A' D')
theorem jin {j z : Int32} (h0 : 0 ≤ j.toInt) (h1 : j.toInt < z.toInt) : ¬ j < 0 ∧ j < z := ⟨fun q => by have := Int32.lt_iff_toInt_lt.mp q; rw [z0] at this; omega, Int32.lt_iff_toInt_lt.mpr h1⟩
theorem jnat {j : Int32} {i : Nat} (h : j.toInt = i) : j.toNatClampNeg = i := by
  have q : ¬ j < 0 := fun q => by have := Int32.lt_iff_toInt_lt.mp q; rw [z0] at this; omega
  have := nat_of q; omega
theorem newP_ (X : Stand p l e R s m args below meth c T locs cells slots) (hx : p.tables.exec = Jvm.exec) (hZ : Z.Warmed39 s.vm) {aty : ArrayType} (w : (Cond.arrayClass (newarray.typeOf aty)).before a0 Z = true) (eT : T.heap = h) (hd : decode c.code pc = .ok (.newarray aty, 2)) (hp : pc' = pc + 2) {n : Int32} (hn : 0 ≤ n.toInt) {cap : Nat} (hcap : n.toInt ≤ cap) (hb : cap * 8 ≤ 536870912) (hc : cells + 1 ≤ R.cells) (hl : slots + cap ≤ R.slots) {ad : String} (had : "[" ++ (newarray.typeOf aty).toString = ad)
    (k : ∀ T' h' a cA, Stand p l e R s m args below meth c T' locs (cells + 1) (slots + cap) → T'.heap = h' → a = h.size → Ext h h' → Arv Z h' a cA (newarray.typeOf aty) n [] (defaultValue (newarray.typeOf aty)) → Exa Z h' a ad → Go p.tables e below P T' (mkF m pc' Ls (.ref a :: S))) : Go p.tables e below P T (mkF m pc Ls (.int n :: S)) := by
  subst hp
  have hn' : ¬ n < 0 := fun z => by have := Int32.lt_iff_toInt_lt.mp z; rw [z0] at this; omega
  obtain ⟨T', h', cA, X', e', E', A', Q', st⟩ := newPE X hx hZ w eT (g := mkF m pc Ls (.int n :: S)) rfl hd rfl hn' (cap := cap) (by have := nat_of hn'; omega) hb hc hl had
  exact Go.st st (k T' h' _ cA X' e' rfl E' (Arv.new A' hn') Q')
theorem clone_ (X : Stand p l e R s m args below meth c T locs cells slots) (hx : p.tables.exec = Jvm.exec) (hZ : Z.Warmed39 s.vm) {own ad : String} (hown : s.vm.findClass own = some m.cls) {i : Nat} (w1 : (Cond.methodLink own i ⟨ad, "clone", "()Ljava/lang/Object;"⟩).before a0 Z = true) (w2 : (Cond.sameMethod ad "java/lang/Object" "clone" "()Ljava/lang/Object;").before a0 Z = true) (w3 : (Cond.native ⟨"java/lang/Object", "clone", "()Ljava/lang/Object;"⟩).before a0 Z = true) (w4 : (Cond.instanceMethod ⟨"java/lang/Object", "clone", "()Ljava/lang/Object;"⟩).before a0 Z = true) (w5 : (Cond.selects ad ⟨ad, "clone", "()Ljava/lang/Object;"⟩ ⟨"java/lang/Object", "clone", "()Ljava/lang/Object;"⟩).before a0 Z = true) (w6 : (Cond.castable ad "java/lang/Cloneable").before a0 Z = true) (eT : T.heap = h) {a : Addr} {kA : ClassId} {ty : FieldType} {z : Int32} {vs : List Value} {dv : Value} (F : Arv Z h a kA ty z vs dv) (E : Exa Z h a ad) (hsize : Ls.size = c.maxLocals) (hd : decode c.code pc = .ok (.invokevirtual i, 3)) (hp : pc' = pc + 3) (hf : 1 ≤ R.frames) {W cap : Nat} (hW : (S.map fun v => v.category).sum ≤ W) (hl : W + 14 ≤ R.locals) (hcap : z.toInt ≤ cap) (hc : cells + 1 ≤ R.cells) (hsl : slots + cap ≤ R.slots)
    (k : ∀ T' h' b, Stand p l e R s m args below meth c T' locs (cells + 1) (slots + cap) → T'.heap = h' → b = h.size → Ext h h' → Arv Z h' b kA ty z vs dv → Exa Z h' b ad → Go p.tables e below P T' (mkF m pc' Ls (.ref b :: S))) : Go p.tables e below P T (mkF m pc Ls (.ref a :: S)) := by
  subst hp
  have hz : z.toNatClampNeg ≤ cap := by
    obtain ⟨_, _, _, _, q, _⟩ := F
    have := nat_of q; omega
  obtain ⟨T', h', X', e', E', A', Q', st⟩ := cloneH X hx hZ hown w1 w2 w3 w4 w5 w6 eT F.arh E (g := mkF m pc Ls (.ref a :: S)) rfl hsize rfl hd hf (W := W) (by show 2 * 0 + _ ≤ _; simpa using hW) hl hz hc hsl
  exact Go.st st (k T' h' _ X' e' rfl E' A' Q')
theorem baload (X : Stand p l e R s m args below meth c T locs cells slots) (hx : p.tables.exec = Jvm.exec) (hZ : Z.Warmed39 s.vm) (eT : T.heap = h) {a : Addr} {kA : ClassId} {z j : Int32} {vs : List Value} {dv v : Value} (A : Arv Z h a kA .byte z vs dv) (h0 : 0 ≤ j.toInt) (h1 : j.toInt < z.toInt) (hv : vs.getD j.toNatClampNeg dv = v) (hd : decode c.code pc = .ok (.baload, 1)) (hp : pc' = pc + 1)
    (k : Go p.tables e below P T (mkF m pc' Ls (v :: S))) : Go p.tables e below P T (mkF m pc Ls (.int j :: .ref a :: S)) := by
  subst hp
  obtain ⟨cl, Ar, -, Sz, Nz, H, -⟩ := A
  have hin := inb_of Sz (jin h0 h1)
  exact Go.st (fun t q => X.baloadBytes hx (j := j) (v := v) (by rw [eT]; exact Ar.1) (State.isArrayOf_alike hZ.alike Ar.2.1) Ar.2.2 hin (H.at hin hv) (g := mkF m pc Ls (.int j :: .ref a :: S)) rfl rfl hd t q) k
theorem arrlen (X : Stand p l e R s m args below meth c T locs cells slots) (hx : p.tables.exec = Jvm.exec) (hZ : Z.Warmed39 s.vm) (eT : T.heap = h) {a : Addr} {kA : ClassId} {ty : FieldType} {z : Int32} {vs : List Value} {dv : Value} (A : Arv Z h a kA ty z vs dv) (hd : decode c.code pc = .ok (.arraylength, 1)) (hp : pc' = pc + 1)
    (k : Go p.tables e below P T (mkF m pc' Ls (.int z :: S))) : Go p.tables e below P T (mkF m pc Ls (.ref a :: S)) := by
  subst hp
  obtain ⟨cl, Ar, -, Sz, Nz, H, -⟩ := A
  refine Go.st (fun t q => X.arraylength hx (by rw [eT]; exact Ar.1) (State.isArrayOf_alike hZ.alike Ar.2.1) (g := mkF m pc Ls (.ref a :: S)) rfl rfl hd t q) ?_
  rw [len_of Sz Nz]
  exact k
theorem bastore (X : Stand p l e R s m args below meth c T locs cells slots) (hx : p.tables.exec = Jvm.exec) (hZ : Z.Warmed39 s.vm) (eT : T.heap = h) {a : Addr} {kA : ClassId} {z j : Int32} {x : Int32} {vs : List Value} {dv : Value} (A : Arv Z h a kA .byte z vs dv) {i : Nat} (hi : j.toInt = i) (hz : (i : Int) < z.toInt) (hl : i < vs.length) (hd : decode c.code pc = .ok (.bastore, 1)) (hp : pc' = pc + 1)
    (k : ∀ T' h', Stand p l e R s m args below meth c T' (locs ++ [⟨a, j.toNatClampNeg⟩]) cells slots → T'.heap = h' → Wr h h' a j.toNatClampNeg (.int (nar .byte x)) → Arv Z h' a kA .byte z (vs.set i (.int (nar .byte x))) dv → Go p.tables e below P T' (mkF m pc' Ls (S))) : Go p.tables e below P T (mkF m pc Ls (.int x :: .int j :: .ref a :: S)) := by
  subst hp
  obtain ⟨cl, Ar, q1, Sz, Nz, H, G⟩ := A
  have hin := inb_of Sz (jin (j := j) (z := z) (by omega) (by omega))
  obtain ⟨T', h', X', e', W', st⟩ := stB X hx hZ eT Ar (j := j) hin (g := mkF m pc Ls (.int x :: .int j :: .ref a :: S)) rfl rfl hd
  exact Go.st st (k T' h' X' e' W' (Arv.set Ar q1 Sz Nz H G (fits_nar_byte _) W' i (jnat hi) hl))
theorem cast_ (X : Stand p l e R s m args below meth c T locs cells slots) (hx : p.tables.exec = Jvm.exec) (hZ : Z.Warmed39 s.vm) {own : String} (hown : s.vm.findClass own = some m.cls) {K : String} {i : Nat} (w : (Cond.classLink own i K).before a0 Z = true) (eT : T.heap = h) {a : Addr} (F : Ins Z h a K true) (hd : decode c.code pc = .ok (.checkcast i, 3)) (hp : pc' = pc + 3)
    (k : ∀ T', Stand p l e R s m args below meth c T' locs cells slots → T'.heap = h → Go p.tables e below P T' (mkF m pc' Ls (.ref a :: S))) : Go p.tables e below P T (mkF m pc Ls (.ref a :: S)) := by
  subst hp
  obtain ⟨T', X', e', st⟩ := castY X hx hZ hown w eT F (g := mkF m pc Ls (.ref a :: S)) rfl rfl hd
  exact Go.st st (k T' X' e')
theorem initO_ (X : Stand p l e R s m args below meth c T locs cells slots) (hx : p.tables.exec = Jvm.exec) (hZ : Z.Warmed39 s.vm) {own : String} (hown : s.vm.findClass own = some m.cls) {i : Nat} (w1 : (Cond.methodLink own i Lib.objectInit).before a0 Z = true) (w2 : (Cond.instanceMethod Lib.objectInit).before a0 Z = true) (w3 : (Cond.code Lib.objectInit ⟨#[0xb1]⟩ 1 none).before a0 Z = true) (eT : T.heap = h) (hsize : Ls.size = c.maxLocals) {a : Addr} (hd : decode c.code pc = .ok (.invokespecial i, 3)) (hp : pc' = pc + 3) (hf : 1 ≤ R.frames) {W : Nat} (hW : (S.map fun v => v.category).sum ≤ W) (hl : W + 12 ≤ R.locals)
    (k : ∀ T', Stand p l e R s m args below meth c T' locs cells slots → T'.heap = h → Go p.tables e below P T' (mkF m pc' Ls (S))) : Go p.tables e below P T (mkF m pc Ls (.ref a :: S)) := by
  subst hp
  obtain ⟨T', X', e', st⟩ := initO X hx hZ hown w1 w2 w3 eT (g := mkF m pc Ls (.ref a :: S)) rfl hsize rfl hd hf (W := W) (by show 2 * 0 + _ ≤ _; simpa using hW) hl
  exact Go.st st (k T' X' e')
theorem callI_ (X : Stand p l e R s m args below meth c T locs cells slots) (hx : p.tables.exec = Jvm.exec) (hZ : Z.Warmed39 s.vm) {own : String} (hown : s.vm.findClass own = some m.cls) {y : MethodName} {i : Nat} {a : Addr} {bytes : ByteArray} {maxL : Nat} {ret : Option FieldType} {rm : Room} {Q : Option Value → Heap → List Loc → Prop} {argsL S0 : List Value} (hy1 : y.name = "<init>") (w1 : (Cond.methodLink own i y).before a0 Z = true) (w2 : (Cond.instanceMethod y).before a0 Z = true) (w3 : (Cond.initialized y.cls).before a0 Z = true) (w4 : (Cond.code y bytes maxL none).before a0 Z = true) (hret : ret = none) (hy : y.cls ≠ "java/lang/invoke/MethodHandle" ∧ y.cls ≠ "java/lang/invoke/VarHandle") (hM : MetFree l y (head1 [Cond.code y bytes maxL ret] rm) (fun ar U => ar = (.ref a :: argsL).toArray ∧ Z.Warmed39 U.vm ∧ U.heap = h) (fun _ _ _ _ _ => True) (fun _ U o U' => ∃ v L, o = .returned v ∧ Q v U'.heap L ∧ FrameEnd U o U' L rm.cells rm.slots)) (hf : rm.frames + 1 ≤ R.frames) {W : Nat} (hl : W + (maxL + 11) + rm.locals ≤ R.locals) (eT : T.heap = h) (hsize : Ls.size = c.maxLocals) {ps : List FieldType} {rt : Option FieldType} (hdesc : parseMethodDescriptor y.desc = some ⟨ps, rt⟩) (hlen : argsL.length = ps.length) (hS : S0 = argsL.reverse ++ .ref a :: S) (hW : (S.map fun v => v.category).sum ≤ W) (hd : decode c.code pc = .ok (.invokespecial i, 3)) (hp : pc' = pc + 3) (hc : cells + rm.cells ≤ R.cells) (hs : slots + rm.slots ≤ R.slots)
    (k : ∀ T' v L, Stand p l e R s m args below meth c T' (locs ++ L) (cells + rm.cells) (slots + rm.slots) → Q v T'.heap L → Go p.tables e below P T' (mkF m pc' Ls (v.toList ++ S))) : Go p.tables e below P T (mkF m pc Ls (S0)) := by
  subst hp hS hret
  obtain ⟨v, vm₁, ⟨T', L', k', n'⟩, -, X', ⟨L, hQ, l', y', z'⟩, st⟩ := X.specialBack hx hy1 hown (mvT hZ w1) (mvT hZ w2) (mvT hZ w4) hy (backOf (W := W) hM hZ w4 w3 hf hl) (g := mkF m pc Ls (argsL.reverse ++ .ref a :: S)) rfl hsize (Steps.refl _) (a := a) (argsL := argsL) (rest := S) (lenOf hdesc hlen) rfl (by show 2 * 0 + _ ≤ _; simpa using hW) hd (fun _ _ => ⟨rfl, eT, hc, hs⟩)
  dsimp only [Pt.U, Pt.locs, Pt.cells, Pt.slots] at X' l' y' z' st hQ
  subst l' y' z'
  exact Go.st1 st (k T' v L X' hQ)
theorem callV_ (X : Stand p l e R s m args below meth c T locs cells slots) (hx : p.tables.exec = Jvm.exec) (hZ : Z.Warmed39 s.vm) {own : String} (hown : s.vm.findClass own = some m.cls) {C : String} {y z : MethodName} {i : Nat} {a : Addr} {bytes : ByteArray} {maxL : Nat} {ret : Option FieldType} {rm : Room} {Q : Option Value → Heap → List Loc → Prop} {argsL S0 : List Value} (w1 : (Cond.methodLink own i y).before a0 Z = true) (w2 : (Cond.declares y).before a0 Z = true) (nf : NotFace s y) (w3 : (Cond.selects C y z).before a0 Z = true) (w4 : (Cond.instanceMethod z).before a0 Z = true) (w5 : (Cond.code z bytes maxL ret).before a0 Z = true) (w6 : (Cond.initialized z.cls).before a0 Z = true) (hy : y.cls ≠ "java/lang/invoke/MethodHandle" ∧ y.cls ≠ "java/lang/invoke/VarHandle") (E : Exa Z h a C) (hM : MetFree l z (head1 [Cond.code z bytes maxL ret] rm) (fun ar U => ar = (.ref a :: argsL).toArray ∧ Z.Warmed39 U.vm ∧ U.heap = h) (fun _ _ _ _ _ => True) (fun _ U o U' => ∃ v L, o = .returned v ∧ Q v U'.heap L ∧ FrameEnd U o U' L rm.cells rm.slots)) (hf : rm.frames + 1 ≤ R.frames) {W : Nat} (hl : W + (maxL + 11) + rm.locals ≤ R.locals) (eT : T.heap = h) (hsize : Ls.size = c.maxLocals) {ps : List FieldType} {rt : Option FieldType} (hdesc : parseMethodDescriptor y.desc = some ⟨ps, rt⟩) (hlen : argsL.length = ps.length) (hS : S0 = argsL.reverse ++ .ref a :: S) (hW : (S.map fun v => v.category).sum ≤ W) (hd : decode c.code pc = .ok (.invokevirtual i, 3)) (hp : pc' = pc + 3) (hc : cells + rm.cells ≤ R.cells) (hs : slots + rm.slots ≤ R.slots)
    (k : ∀ T' v L, Stand p l e R s m args below meth c T' (locs ++ L) (cells + rm.cells) (slots + rm.slots) → Q v T'.heap L → Go p.tables e below P T' (mkF m pc' Ls (v.toList ++ S))) : Go p.tables e below P T (mkF m pc Ls (S0)) := by
  subst hp hS
  obtain ⟨cq, kq, qa, qb, qc⟩ := isOf hZ eT E
  obtain ⟨v, vm₁, ⟨T', L', k', n'⟩, -, X', ⟨L, hQ, l', y', z'⟩, st⟩ := X.virtualBack hx hown (mvT hZ w1) (mvT hZ w2) nf (mvT hZ w3) (mvT hZ w4) hy (backOf (W := W) hM hZ w5 w6 hf hl) qa qc (g := mkF m pc Ls (argsL.reverse ++ .ref a :: S)) rfl hsize (Steps.refl _) (argsL := argsL) (rest := S) (lenOf hdesc hlen) rfl (by show 2 * 0 + _ ≤ _; simpa using hW) hd (fun _ _ => ⟨rfl, eT, hc, hs⟩)
  dsimp only [Pt.U, Pt.locs, Pt.cells, Pt.slots] at X' l' y' z' st hQ
  subst l' y' z'
  exact Go.st1 st (k T' v L X' hQ)
theorem met {y : MethodName} {bytes : ByteArray} {maxL : Nat} {ret : Option FieldType} {rm : Room} {as' : Array Value} {Q : Option Value → Heap → List Loc → Prop} {ws : List Jvm.Cond} {C N : Nat} (hpl : plainFor y = true) (ef : ∀ m, entryFrame m as' maxL = mkF m 0 Ls [])
    (body : ∀ (p : Program) (e : Env) (s : State) (m : MethodId) (below : List Frame) (meth : Method) (c : Code) (T : State), Stand p l e rm s m as' below meth c T [] 0 0 → p.tables.exec = Jvm.exec → Z.Warmed39 s.vm → c.code = bytes → c.maxLocals = maxL → s.vm.findClass y.cls = some m.cls → meth.name = y.name → meth.sig.returnType = ret → meth.locks = false → T.heap = h →
      Go p.tables e below (PQ s Q C N) T (mkF m 0 Ls [])) :
    MetFree l y (head1 (Cond.code y bytes maxL ret :: ws) rm) (fun a U => a = as' ∧ Z.Warmed39 U.vm ∧ U.heap = h) (fun _ _ _ _ _ => True) (fun _ U o U' => ∃ v L, o = .returned v ∧ Q v U'.heap L ∧ FrameEnd U o U' L C N) := by
  refine MetFree.of_bodySF hpl hisR ?_
  intro p e s m args below meth c s₁ Bd hml0 hP hK
  obtain ⟨rfl, hZ, hh⟩ := hP
  have e0 : s₁.heap = h := by rw [← hh, Bd.state]; rfl
  obtain ⟨s₂, o, h1, h2⟩ := body p e s m below meth c s₁ (Stand.of_body Bd) Bd.exec hZ Bd.bytes hml0 (findClass_of_methodNamed Bd.named) (name_of_methodNamed Bd.named Bd.method).1 Bd.returns Bd.notSynchronized e0
  exact ⟨s₂, o, castTop (ef m) h1, h2⟩
theorem retN_ (X : Stand p l e R s m args below meth c T locs cells slots) (hx : p.tables.exec = Jvm.exec) {Q : Option Value → Heap → List Loc → Prop} {C N : Nat} {z : Int32} {t : FieldType} (hret : meth.sig.returnType = some t) (ht : t = .boolean ∨ t = .byte ∨ t = .char ∨ t = .short) (hlk : meth.locks = false) (hd : decode c.code pc = .ok (.ireturn, 1)) (hC : cells ≤ C) (hN : slots ≤ N) (q : Q (some (.int (nar t z))) T.heap locs) : Go p.tables e below (PQ s Q C N) T (mkF m pc Ls (.int z :: S)) := by
  obtain ⟨fs, hr, hrun, hended, hW, hsame⟩ := X.leave (v := some (.int (nar t z))) (fun h => by rw [hret] at h; cases h) hlk
  exact ⟨_, _, retN X hx hret ht hd hr, hrun, hended, _, _, rfl, q, ⟨_, rfl⟩, hW, hsame.mono hC hN⟩
theorem retV_ (X : Stand p l e R s m args below meth c T locs cells slots) (hx : p.tables.exec = Jvm.exec) {Q : Option Value → Heap → List Loc → Prop} {C N : Nat} (hret : meth.sig.returnType = none) (hlk : meth.locks = false) (hd : decode c.code pc = .ok (.return_, 1)) (hC : cells ≤ C) (hN : slots ≤ N) (q : Q none T.heap locs) : Go p.tables e below (PQ s Q C N) T (mkF m pc Ls []) := by
  obtain ⟨fs, hr, hrun, hended, hW, hsame⟩ := X.leave (v := none) (fun _ => rfl) hlk
  exact ⟨_, _, X.returnOut hx hret hd hr, hrun, hended, _, _, rfl, q, ⟨_, rfl⟩, hW, hsame.mono hC hN⟩
end Steps
end Jvm.OwnK
namespace Jvm.Pilot.@@N@@
open Jvm Jvm.ClassFile Sem Op Lib Jvm.Free Jvm.Stand Jvm.LawKit Jvm.RoadKit Bundle Jvm.Pilot.@@N@@.Jvm.D
theorem own_ef_1 (p1 : Addr) (p2 : Addr)  (m : MethodId) : entryFrame m #[(.ref p1), (.ref p2)] 2 = mkF m 0 #[.val (.ref p1), .val (.ref p2)] [] := by first | (simp [entryFrame, mkF, argsToLocals, Value.category]; done) | rfl
theorem own_d1_0 : decode prog_24_method_1_code 0 = .ok (.aload_n 0, 1) := by decide +kernel
theorem own_d1_1 : decode prog_24_method_1_code 1 = .ok (.invokespecial 1, 3) := by decide +kernel
theorem own_d1_4 : decode prog_24_method_1_code 4 = .ok (.aload_n 0, 1) := by decide +kernel
theorem own_d1_5 : decode prog_24_method_1_code 5 = .ok (.aload_n 1, 1) := by decide +kernel
theorem own_d1_6 : decode prog_24_method_1_code 6 = .ok (.invokevirtual 7, 3) := by decide +kernel
theorem own_d1_9 : decode prog_24_method_1_code 9 = .ok (.checkcast 8, 3) := by decide +kernel
theorem own_d1_12 : decode prog_24_method_1_code 12 = .ok (.putfield 13, 3) := by decide +kernel
theorem own_d1_15 : decode prog_24_method_1_code 15 = .ok (.return_, 1) := by decide +kernel
theorem own_pl_1 : plainFor (⟨"com/example/ferryway/ferryway/tool/ByteString", "<init>", "([B)V"⟩ : MethodName) = true := plainFor_of_name (by first | (simp [plainName, overriddenIn]; done) | decide +kernel)
theorem own_ef_3 (p1 : Addr) (p2 : Int32)  (m : MethodId) : entryFrame m #[(.ref p1), (.int p2)] 6 = mkF m 0 #[.val (.ref p1), .val (.int p2), .unset, .unset, .unset, .unset] [] := by first | (simp [entryFrame, mkF, argsToLocals, Value.category]; done) | rfl
theorem own_d3_0 : decode prog_24_method_3_code 0 = .ok (.aload_n 0, 1) := by decide +kernel
theorem own_d3_1 : decode prog_24_method_3_code 1 = .ok (.getfield 13, 3) := by decide +kernel
theorem own_d3_4 : decode prog_24_method_3_code 4 = .ok (.astore_n 2, 1) := by decide +kernel
theorem own_d3_5 : decode prog_24_method_3_code 5 = .ok (.aload_n 2, 1) := by decide +kernel
theorem own_d3_6 : decode prog_24_method_3_code 6 = .ok (.arraylength, 1) := by decide +kernel
theorem own_d3_7 : decode prog_24_method_3_code 7 = .ok (.istore_n 3, 1) := by decide +kernel
theorem own_d3_8 : decode prog_24_method_3_code 8 = .ok (.iconst 0, 1) := by decide +kernel
theorem own_d3_9 : decode prog_24_method_3_code 9 = .ok (.istore 4, 2) := by decide +kernel
theorem own_d3_11 : decode prog_24_method_3_code 11 = .ok (.iload 4, 2) := by decide +kernel
theorem own_d3_13 : decode prog_24_method_3_code 13 = .ok (.iload_n 3, 1) := by decide +kernel
theorem own_d3_14 : decode prog_24_method_3_code 14 = .ok (.if_icmp .ge 23, 3) := by decide +kernel
theorem own_d3_37 : decode prog_24_method_3_code 37 = .ok (.iconst 0, 1) := by decide +kernel
theorem own_d3_38 : decode prog_24_method_3_code 38 = .ok (.ireturn, 1) := by decide +kernel
theorem own_d3_17 : decode prog_24_method_3_code 17 = .ok (.aload_n 2, 1) := by decide +kernel
theorem own_d3_18 : decode prog_24_method_3_code 18 = .ok (.iload 4, 2) := by decide +kernel
theorem own_d3_20 : decode prog_24_method_3_code 20 = .ok (.baload, 1) := by decide +kernel
theorem own_d3_21 : decode prog_24_method_3_code 21 = .ok (.istore 5, 2) := by decide +kernel
theorem own_d3_23 : decode prog_24_method_3_code 23 = .ok (.iload 5, 2) := by decide +kernel
theorem own_d3_25 : decode prog_24_method_3_code 25 = .ok (.iload_n 1, 1) := by decide +kernel
theorem own_d3_26 : decode prog_24_method_3_code 26 = .ok (.if_icmp .ne 5, 3) := by decide +kernel
theorem own_d3_31 : decode prog_24_method_3_code 31 = .ok (.iinc 4 1, 3) := by decide +kernel
theorem own_d3_34 : decode prog_24_method_3_code 34 = .ok (.goto (-23), 3) := by decide +kernel
theorem own_d3_29 : decode prog_24_method_3_code 29 = .ok (.iconst 1, 1) := by decide +kernel
theorem own_d3_30 : decode prog_24_method_3_code 30 = .ok (.ireturn, 1) := by decide +kernel
theorem own_pl_3 : plainFor (⟨"com/example/ferryway/ferryway/tool/ByteString", "contains", "(B)Z"⟩ : MethodName) = true := plainFor_of_name (by first | (simp [plainName, overriddenIn]; done) | decide +kernel)
theorem own_ef_0 (p0 : Int32) (p1 : Int32) (p2 : Int32) (p3 : Int32) (p4 : Int32)  (m : MethodId) : entryFrame m #[(.int p0), (.int p1), (.int p2), (.int p3), (.int p4)] maxLocals = mkF m 0 #[.val (.int p0), .val (.int p1), .val (.int p2), .val (.int p3), .val (.int p4), .unset, .unset, .unset, .unset, .unset, .unset, .unset, .unset, .unset] [] := by first | (simp [entryFrame, mkF, argsToLocals, Value.category, maxLocals]; done) | rfl
theorem own_pd_3 : parseMethodDescriptor "([B)V" = some ⟨[(.array .byte)], none⟩ := by decide +kernel
theorem own_pd_2 : parseMethodDescriptor "(B)Z" = some ⟨[.byte], some .boolean⟩ := by decide +kernel
theorem own_pl_0 : plainFor x = true := plainFor_of_name (by first | (simp [plainName, overriddenIn]; done) | decide +kernel)
def own_co (z a b c v : Int) : Int32 := if ((1 ≤ z ∧ a = v) ∨ (2 ≤ z ∧ b = v) ∨ (3 ≤ z ∧ c = v)) then 1 else 0
theorem own_co1 {z a b c v : Int} (h : ((1 ≤ z ∧ a = v) ∨ (2 ≤ z ∧ b = v) ∨ (3 ≤ z ∧ c = v))) : own_co z a b c v = 1 := if_pos h
theorem own_co0 {z a b c v : Int} (h : ¬ ((1 ≤ z ∧ a = v) ∨ (2 ≤ z ∧ b = v) ∨ (3 ≤ z ∧ c = v))) : own_co z a b c v = 0 := if_neg h
theorem own_nar1 : nar .boolean (1 : Int32) = 1 := by decide
theorem own_nar0 : nar .boolean (0 : Int32) = 0 := by decide
theorem own_narb (x : Int32) : nar .byte x.toInt8.toInt32 = x.toInt8.toInt32 := by
  show (x.toInt8.toInt32).toInt8.toInt32 = _
  simp
theorem own_mm3 (x : Int32) : (x &&& (3 : Int32)) = 0 ∨ (x &&& (3 : Int32)) = 1 ∨ (x &&& (3 : Int32)) = 2 ∨ (x &&& (3 : Int32)) = 3 := by
  have h := Jvm.Kit.i32_mask x 3 (k := 2) (by decide) (by decide)
  have q : (x &&& (3 : Int32)).toInt = 0 ∨ (x &&& (3 : Int32)).toInt = 1 ∨ (x &&& (3 : Int32)).toInt = 2 ∨ (x &&& (3 : Int32)).toInt = 3 := by omega
  rcases q with q | q | q | q
  · exact Or.inl (Int32.toInt_inj.mp (by rw [q]; decide))
  · exact Or.inr (Or.inl (Int32.toInt_inj.mp (by rw [q]; decide)))
  · exact Or.inr (Or.inr (Or.inl (Int32.toInt_inj.mp (by rw [q]; decide))))
  · exact Or.inr (Or.inr (Or.inr (Int32.toInt_inj.mp (by rw [q]; decide))))

def own_Q1 (Z : State) (h0 : Heap) (n0 : Nat) (p1 : Addr) (p2 : Addr) (kA : ClassId) (z : Int32) (vs : List Value) (dv : Value) (v : Option Value) (h : Heap) (L : List Loc) : Prop := ∃ b, v = none ∧ Fr n0 L ∧ Keep h0 h [p1] ∧ Exa Z h p1 "com/example/ferryway/ferryway/tool/ByteString" ∧ Fld Z h p1 "com/example/ferryway/ferryway/tool/ByteString" "bytes" "[B" (.ref b) ∧ Arv Z h b kA .byte z vs dv
set_option maxRecDepth 65536 in
set_option maxHeartbeats 40000000 in
theorem own_m1 (l : Launch) (Z : State) (a0 : Array Value) (hw : ∀ d ∈ tables_1, d.before a0 Z = true) (h0 : Heap) (n0 : Nat) (Z0 : n0 ≤ h0.size) (p1 : Addr) (p2 : Addr) (kA : ClassId) (z : Int32) (vs : List Value) (dv : Value) (ge_p1 : n0 ≤ p1) (F0 : Fld Z h0 p1 "com/example/ferryway/ferryway/tool/ByteString" "bytes" "[B" .null) (E0 : Exa Z h0 p1 "com/example/ferryway/ferryway/tool/ByteString") (V0 : Arv Z h0 p2 kA .byte z vs dv) (E1 : Exa Z h0 p2 "[B") (ne12 : p1 ≠ p2) (hz : z.toInt ≤ (3 : Nat)) :
    MetFree l (⟨"com/example/ferryway/ferryway/tool/ByteString", "<init>", "([B)V"⟩ : MethodName) (head1 [Jvm.Cond.code (⟨"com/example/ferryway/ferryway/tool/ByteString", "<init>", "([B)V"⟩ : MethodName) prog_24_method_1_code 2 none] ({ frames := 1, cells := 1, slots := 3, locals := 15 } : Room)) (fun a U => a = #[(.ref p1), (.ref p2)] ∧ Z.Warmed39 U.vm ∧ U.heap = h0) (fun _ _ _ _ _ => True) (fun _ U o U' => ∃ v L, o = .returned v ∧ (own_Q1 Z h0 n0 p1 p2 kA z vs dv) v U'.heap L ∧ FrameEnd U o U' L ({ frames := 1, cells := 1, slots := 3, locals := 15 } : Room).cells ({ frames := 1, cells := 1, slots := 3, locals := 15 } : Room).slots) := by
  refine OwnK.met (Q := (own_Q1 Z h0 n0 p1 p2 kA z vs dv)) (C := ({ frames := 1, cells := 1, slots := 3, locals := 15 } : Room).cells) (N := ({ frames := 1, cells := 1, slots := 3, locals := 15 } : Room).slots) own_pl_1 (own_ef_1 p1 p2) ?_
  intro p e s m below meth c T0 X0 hx hZ hby hml hown hnm hret hlk e0
  have N0 := Fr.nil n0
  have K0 := Keep.refl h0 [p1]
  refine OwnK.aloadN X0 hx (hb hby own_d1_0) (pc' := 1) rfl (v := (.ref p1)) rfl rfl ?_
  refine OwnK.initO_ X0 hx hZ hown (hw _ (List.mem_of_getElem? (i := 7) rfl)) (hw _ (List.mem_of_getElem? (i := 8) rfl)) (hw _ (List.mem_of_getElem? (i := 9) rfl)) e0 (by rw [hml]; rfl) (hb hby own_d1_1) (pc' := 4) rfl (by decide) (W := 0) (Nat.le_of_eq rfl) (by decide) (fun T1 X1 e1 => ?_)
  refine OwnK.aloadN X1 hx (hb hby own_d1_4) (pc' := 5) rfl (v := (.ref p1)) rfl rfl ?_
  refine OwnK.aloadN X1 hx (hb hby own_d1_5) (pc' := 6) rfl (v := (.ref p2)) rfl rfl ?_
  refine OwnK.clone_ X1 hx hZ hown (ad := "[B") (hw _ (List.mem_of_getElem? (i := 10) rfl)) (hw _ (List.mem_of_getElem? (i := 11) rfl)) (hw _ (List.mem_of_getElem? (i := 15) rfl)) (hw _ (List.mem_of_getElem? (i := 13) rfl)) (hw _ (List.mem_of_getElem? (i := 14) rfl)) (hw _ (List.mem_of_getElem? (i := 16) rfl)) e1 V0 E1 (by rw [hml]; rfl) (hb hby own_d1_6) (pc' := 9) rfl (by decide) (W := 1) (cap := 3) (Nat.le_of_eq rfl) (by decide) hz (by decide) (by decide) (fun T3 h3 b3 X3 e3 g3 E3 V3 Q3 => ?_)
  have q4 : p1 ≠ b3 := Nat.ne_of_lt (Nat.lt_of_lt_of_le F0.lt (Nat.le_of_eq g3.symm))
  have q5 : p2 ≠ b3 := Nat.ne_of_lt (Nat.lt_of_lt_of_le V0.lt (Nat.le_of_eq g3.symm))
  have ge_b3 : n0 ≤ b3 := Nat.le_trans Z0 (Nat.le_of_eq g3.symm)
  have sz_b3 : h0.size ≤ b3 := Nat.le_trans K0.1 (Nat.le_of_eq g3.symm)
  have z6 : n0 ≤ h3.size := Nat.le_trans Z0 E3.1
  have K7 := K0.ext E3
  have f8 := F0.ext E3
  have f9 := E0.ext E3
  have f10 := V0.ext E3
  have f11 := E1.ext E3
  refine OwnK.cast_ X3 hx hZ hown (hw _ (List.mem_of_getElem? (i := 17) rfl)) e3 (Ins.self Q3) (hb hby own_d1_9) (pc' := 12) rfl (fun T12 X12 e12 => ?_)
  refine OwnK.putF_ X12 hx hZ hown (hw _ (List.mem_of_getElem? (i := 19) rfl)) Via.refl e12 f8 f9 (Or.inr ⟨(hw _ (List.mem_of_getElem? (i := 20) rfl)), rfl, hnm⟩) (hw _ (List.mem_of_getElem? (i := 2) rfl)) (ty := (.array .byte)) (by decide) (v' := (.ref b3)) rfl rfl (hb hby own_d1_12) (pc' := 15) rfl (fun T13 h13 X13 e13 W13 => ?_)
  have f14 := f8.same W13
  have f15 := f9.wr W13
  have f16 := f10.other W13 (Ne.symm ne12)
  have f17 := f11.wr W13
  have f18 := V3.other W13 (Ne.symm q4)
  have f19 := Q3.wr W13
  have N20 := Fr.snoc X13 N0 ge_p1
  have K21 := K7.wr W13 (Or.inl (List.mem_of_getElem? (i := 0) rfl))
  have z22 : n0 ≤ h13.size := Nat.le_trans z6 (Keep.of_wr W13).1
  refine OwnK.retV_ X13 hx hret hlk (hb hby own_d1_15) (by decide) (by decide) ?_
  rw [show T13.heap = h13 from e13]
  exact ⟨b3, rfl, N20, K21, f15, f14, f18⟩
def own_Q3 (h0 : Heap) (p1 : Addr) (p2 : Int32) (b : Addr) (kA : ClassId) (z el0 el1 el2 : Int32) (v : Option Value) (h : Heap) (L : List Loc) : Prop := v = some (.int (own_co z.toInt el0.toInt el1.toInt el2.toInt p2.toInt)) ∧ h = h0 ∧ L = []
set_option maxRecDepth 65536 in
set_option maxHeartbeats 40000000 in
theorem own_m3 (l : Launch) (Z : State) (a0 : Array Value) (hw : ∀ d ∈ tables_1, d.before a0 Z = true) (h0 : Heap) (p1 : Addr) (p2 : Int32) (b : Addr) (kA : ClassId) (z el0 el1 el2 : Int32) (F0 : Fld Z h0 p1 "com/example/ferryway/ferryway/tool/ByteString" "bytes" "[B" (.ref b)) (V0 : Arv Z h0 b kA .byte z [.int el0, .int el1, .int el2] (.int 0)) (hz : z.toInt ≤ 3) :
    MetFree l (⟨"com/example/ferryway/ferryway/tool/ByteString", "contains", "(B)Z"⟩ : MethodName) (head1 [Jvm.Cond.code (⟨"com/example/ferryway/ferryway/tool/ByteString", "contains", "(B)Z"⟩ : MethodName) prog_24_method_3_code 6 (some .boolean)] ({ frames := 0, cells := 0, slots := 0, locals := 0 } : Room)) (fun a U => a = #[(.ref p1), (.int p2)] ∧ Z.Warmed39 U.vm ∧ U.heap = h0) (fun _ _ _ _ _ => True) (fun _ U o U' => ∃ v L, o = .returned v ∧ (own_Q3 h0 p1 p2 b kA z el0 el1 el2) v U'.heap L ∧ FrameEnd U o U' L ({ frames := 0, cells := 0, slots := 0, locals := 0 } : Room).cells ({ frames := 0, cells := 0, slots := 0, locals := 0 } : Room).slots) := by
  refine OwnK.met (Q := (own_Q3 h0 p1 p2 b kA z el0 el1 el2)) (C := ({ frames := 0, cells := 0, slots := 0, locals := 0 } : Room).cells) (N := ({ frames := 0, cells := 0, slots := 0, locals := 0 } : Room).slots) own_pl_3 (own_ef_3 p1 p2) ?_
  intro p e s m below meth c T0 X0 hx hZ hby hml hown hnm hret hlk e0
  refine OwnK.aloadN X0 hx (hb hby own_d3_0) (pc' := 1) rfl (v := (.ref p1)) rfl rfl ?_
  refine OwnK.getF_ X0 hx hZ hown (host := "") (Or.inl (hw _ (List.mem_of_getElem? (i := 19) rfl))) Via.refl e0 F0 (hb hby own_d3_1) (pc' := 4) rfl (fun T1 X1 e1 => ?_)
  refine OwnK.astoreN X1 hx (hb hby own_d3_4) (pc' := 5) rfl rfl (Ls' := #[.val (.ref p1), .val (.int p2), .val (.ref b), .unset, .unset, .unset]) rfl ?_
  refine OwnK.aloadN X1 hx (hb hby own_d3_5) (pc' := 6) rfl (v := (.ref b)) rfl rfl ?_
  refine OwnK.arrlen X1 hx hZ e1 V0 (hb hby own_d3_6) (pc' := 7) rfl ?_
  refine OwnK.istoreN X1 hx (hb hby own_d3_7) (pc' := 8) rfl (Ls' := #[.val (.ref p1), .val (.int p2), .val (.ref b), .val (.int z), .unset, .unset]) rfl ?_
  refine OwnK.iconst X1 hx (hb hby own_d3_8) (pc' := 9) rfl (v := (0 : Int32)) (by decide) ?_
  refine OwnK.istore X1 hx (hb hby own_d3_9) (pc' := 11) rfl (Ls' := #[.val (.ref p1), .val (.int p2), .val (.ref b), .val (.int z), .val (.int (0 : Int32)), .unset]) rfl ?_
  refine OwnK.iload X1 hx (hb hby own_d3_11) (pc' := 13) rfl (v := (0 : Int32)) rfl ?_
  refine OwnK.iloadN X1 hx (hb hby own_d3_13) (pc' := 14) rfl (v := z) rfl ?_
  refine OwnK.icmp_ge X1 hx (hb hby own_d3_14) (by decide) (pcT := 37) (by decide) (pc' := 17) rfl (fun (hc2 : z.toInt ≤ 0) => ?_) (fun (hc2 : 0 < z.toInt) => ?_)
  · refine OwnK.iconst X1 hx (hb hby own_d3_37) (pc' := 38) rfl (v := (0 : Int32)) (by decide) ?_
    refine OwnK.retN_ X1 hx hret (by simp) hlk (hb hby own_d3_38) (by decide) (by decide) ?_
    exact ⟨by rw [own_co0 (by omega), own_nar0], e1, rfl⟩
  · refine OwnK.aloadN X1 hx (hb hby own_d3_17) (pc' := 18) rfl (v := (.ref b)) rfl rfl ?_
    refine OwnK.iload X1 hx (hb hby own_d3_18) (pc' := 20) rfl (v := (0 : Int32)) rfl ?_
    refine OwnK.baload X1 hx hZ e1 V0 (by decide) (by show (0 : Int) < _; omega) (v := (.int el0)) rfl (hb hby own_d3_20) (pc' := 21) rfl ?_
    refine OwnK.istore X1 hx (hb hby own_d3_21) (pc' := 23) rfl (Ls' := #[.val (.ref p1), .val (.int p2), .val (.ref b), .val (.int z), .val (.int (0 : Int32)), .val (.int el0)]) rfl ?_
    refine OwnK.iload X1 hx (hb hby own_d3_23) (pc' := 25) rfl (v := el0) rfl ?_
    refine OwnK.iloadN X1 hx (hb hby own_d3_25) (pc' := 26) rfl (v := p2) rfl ?_
    refine OwnK.icmp_ne X1 hx (hb hby own_d3_26) (by decide) (pcT := 31) (by decide) (pc' := 29) rfl (fun (hc3 : ¬ el0.toInt = p2.toInt) => ?_) (fun (hc3 : el0.toInt = p2.toInt) => ?_)
    · refine OwnK.iincL X1 hx (hb hby own_d3_31) (pc' := 34) rfl (x := (0 : Int32)) rfl (v := (1 : Int32)) (by decide) (Ls' := #[.val (.ref p1), .val (.int p2), .val (.ref b), .val (.int z), .val (.int (1 : Int32)), .val (.int el0)]) rfl ?_
      refine OwnK.goto_ X1 hx (hb hby own_d3_34) (by decide) (pc' := 11) (by decide) ?_
      refine OwnK.iload X1 hx (hb hby own_d3_11) (pc' := 13) rfl (v := (1 : Int32)) rfl ?_
      refine OwnK.iloadN X1 hx (hb hby own_d3_13) (pc' := 14) rfl (v := z) rfl ?_
      refine OwnK.icmp_ge X1 hx (hb hby own_d3_14) (by decide) (pcT := 37) (by decide) (pc' := 17) rfl (fun (hc4 : z.toInt ≤ 1) => ?_) (fun (hc4 : 1 < z.toInt) => ?_)
      · refine OwnK.iconst X1 hx (hb hby own_d3_37) (pc' := 38) rfl (v := (0 : Int32)) (by decide) ?_
        refine OwnK.retN_ X1 hx hret (by simp) hlk (hb hby own_d3_38) (by decide) (by decide) ?_
        exact ⟨by rw [own_co0 (by omega), own_nar0], e1, rfl⟩
      · refine OwnK.aloadN X1 hx (hb hby own_d3_17) (pc' := 18) rfl (v := (.ref b)) rfl rfl ?_
        refine OwnK.iload X1 hx (hb hby own_d3_18) (pc' := 20) rfl (v := (1 : Int32)) rfl ?_
        refine OwnK.baload X1 hx hZ e1 V0 (by decide) (by show (1 : Int) < _; omega) (v := (.int el1)) rfl (hb hby own_d3_20) (pc' := 21) rfl ?_
        refine OwnK.istore X1 hx (hb hby own_d3_21) (pc' := 23) rfl (Ls' := #[.val (.ref p1), .val (.int p2), .val (.ref b), .val (.int z), .val (.int (1 : Int32)), .val (.int el1)]) rfl ?_
        refine OwnK.iload X1 hx (hb hby own_d3_23) (pc' := 25) rfl (v := el1) rfl ?_
        refine OwnK.iloadN X1 hx (hb hby own_d3_25) (pc' := 26) rfl (v := p2) rfl ?_
        refine OwnK.icmp_ne X1 hx (hb hby own_d3_26) (by decide) (pcT := 31) (by decide) (pc' := 29) rfl (fun (hc5 : ¬ el1.toInt = p2.toInt) => ?_) (fun (hc5 : el1.toInt = p2.toInt) => ?_)
        · refine OwnK.iincL X1 hx (hb hby own_d3_31) (pc' := 34) rfl (x := (1 : Int32)) rfl (v := (2 : Int32)) (by decide) (Ls' := #[.val (.ref p1), .val (.int p2), .val (.ref b), .val (.int z), .val (.int (2 : Int32)), .val (.int el1)]) rfl ?_
          refine OwnK.goto_ X1 hx (hb hby own_d3_34) (by decide) (pc' := 11) (by decide) ?_
          refine OwnK.iload X1 hx (hb hby own_d3_11) (pc' := 13) rfl (v := (2 : Int32)) rfl ?_
          refine OwnK.iloadN X1 hx (hb hby own_d3_13) (pc' := 14) rfl (v := z) rfl ?_
          refine OwnK.icmp_ge X1 hx (hb hby own_d3_14) (by decide) (pcT := 37) (by decide) (pc' := 17) rfl (fun (hc6 : z.toInt ≤ 2) => ?_) (fun (hc6 : 2 < z.toInt) => ?_)
          · refine OwnK.iconst X1 hx (hb hby own_d3_37) (pc' := 38) rfl (v := (0 : Int32)) (by decide) ?_
            refine OwnK.retN_ X1 hx hret (by simp) hlk (hb hby own_d3_38) (by decide) (by decide) ?_
            exact ⟨by rw [own_co0 (by omega), own_nar0], e1, rfl⟩
          · refine OwnK.aloadN X1 hx (hb hby own_d3_17) (pc' := 18) rfl (v := (.ref b)) rfl rfl ?_
            refine OwnK.iload X1 hx (hb hby own_d3_18) (pc' := 20) rfl (v := (2 : Int32)) rfl ?_
            refine OwnK.baload X1 hx hZ e1 V0 (by decide) (by show (2 : Int) < _; omega) (v := (.int el2)) rfl (hb hby own_d3_20) (pc' := 21) rfl ?_
            refine OwnK.istore X1 hx (hb hby own_d3_21) (pc' := 23) rfl (Ls' := #[.val (.ref p1), .val (.int p2), .val (.ref b), .val (.int z), .val (.int (2 : Int32)), .val (.int el2)]) rfl ?_
            refine OwnK.iload X1 hx (hb hby own_d3_23) (pc' := 25) rfl (v := el2) rfl ?_
            refine OwnK.iloadN X1 hx (hb hby own_d3_25) (pc' := 26) rfl (v := p2) rfl ?_
            refine OwnK.icmp_ne X1 hx (hb hby own_d3_26) (by decide) (pcT := 31) (by decide) (pc' := 29) rfl (fun (hc7 : ¬ el2.toInt = p2.toInt) => ?_) (fun (hc7 : el2.toInt = p2.toInt) => ?_)
            · refine OwnK.iincL X1 hx (hb hby own_d3_31) (pc' := 34) rfl (x := (2 : Int32)) rfl (v := (3 : Int32)) (by decide) (Ls' := #[.val (.ref p1), .val (.int p2), .val (.ref b), .val (.int z), .val (.int (3 : Int32)), .val (.int el2)]) rfl ?_
              refine OwnK.goto_ X1 hx (hb hby own_d3_34) (by decide) (pc' := 11) (by decide) ?_
              refine OwnK.iload X1 hx (hb hby own_d3_11) (pc' := 13) rfl (v := (3 : Int32)) rfl ?_
              refine OwnK.iloadN X1 hx (hb hby own_d3_13) (pc' := 14) rfl (v := z) rfl ?_
              refine OwnK.icmp_ge X1 hx (hb hby own_d3_14) (by decide) (pcT := 37) (by decide) (pc' := 17) rfl (fun hc14 => ?_) (fun (hc14 : 3 < z.toInt) => by omega)
              refine OwnK.iconst X1 hx (hb hby own_d3_37) (pc' := 38) rfl (v := (0 : Int32)) (by decide) ?_
              refine OwnK.retN_ X1 hx hret (by simp) hlk (hb hby own_d3_38) (by decide) (by decide) ?_
              exact ⟨by rw [own_co0 (by omega), own_nar0], e1, rfl⟩
            · refine OwnK.iconst X1 hx (hb hby own_d3_29) (pc' := 30) rfl (v := (1 : Int32)) (by decide) ?_
              refine OwnK.retN_ X1 hx hret (by simp) hlk (hb hby own_d3_30) (by decide) (by decide) ?_
              exact ⟨by rw [own_co1 (by omega), own_nar1], e1, rfl⟩
        · refine OwnK.iconst X1 hx (hb hby own_d3_29) (pc' := 30) rfl (v := (1 : Int32)) (by decide) ?_
          refine OwnK.retN_ X1 hx hret (by simp) hlk (hb hby own_d3_30) (by decide) (by decide) ?_
          exact ⟨by rw [own_co1 (by omega), own_nar1], e1, rfl⟩
    · refine OwnK.iconst X1 hx (hb hby own_d3_29) (pc' := 30) rfl (v := (1 : Int32)) (by decide) ?_
      refine OwnK.retN_ X1 hx hret (by simp) hlk (hb hby own_d3_30) (by decide) (by decide) ?_
      exact ⟨by rw [own_co1 (by omega), own_nar1], e1, rfl⟩
set_option maxRecDepth 65536 in
set_option maxHeartbeats 40000000 in
theorem own_law (l : Launch) (Z : State) (a0 : Array Value) (hw : ∀ d ∈ tables_1, d.before a0 Z = true) (ws : List Jvm.Cond) (h0 : Heap) (n0 : Nat) (Z0 : n0 ≤ h0.size) (p0 : Int32) (p1 : Int32) (p2 : Int32) (p3 : Int32) (p4 : Int32)  :
    MetFree l x (head1 (Jvm.Cond.code x code maxLocals ret :: ws) room_1) (fun a U => a = #[(.int p0), (.int p1), (.int p2), (.int p3), (.int p4)] ∧ Z.Warmed39 U.vm ∧ U.heap = h0) (fun _ _ _ _ _ => True) (fun _ U o U' => ∃ v L, o = .returned v ∧ (fun (v : Option Value) (_ : Heap) (L : List Loc) => v = some (.int (1 : Int32)) ∧ Fr n0 L) v U'.heap L ∧ FrameEnd U o U' L 3 7) := by
  refine OwnK.met (Q := (fun (v : Option Value) (_ : Heap) (L : List Loc) => v = some (.int (1 : Int32)) ∧ Fr n0 L)) (C := 3) (N := 7) own_pl_0 (own_ef_0 p0 p1 p2 p3 p4) ?_
  intro p e s m below meth c T0 X0 hx hZ hby hml hown hnm hret hlk e0
  have N0 := Fr.nil n0
  refine OwnK.iloadN X0 hx (hb hby at_0) (pc' := 1) rfl (v := p0) rfl ?_
  refine OwnK.i2b X0 hx (hb hby at_1) (pc' := 2) rfl ?_
  refine OwnK.istoreG X0 hx (hb hby at_2) (pc' := 4) rfl (Ls' := fun u => #[.val (.int p0), .val (.int p1), .val (.int p2), .val (.int p3), .val (.int p4), .val (.int u), .unset, .unset, .unset, .unset, .unset, .unset, .unset, .unset]) (fun u => rfl) (fun u1 (hu1 : u1 = (p0.toInt8.toInt32)) => ?_)
  have nb_u1 : nar .byte u1 = u1 := by rw [hu1]; exact own_narb _
  refine OwnK.iloadN X0 hx (hb hby at_4) (pc' := 5) rfl (v := p1) rfl ?_
  refine OwnK.i2b X0 hx (hb hby at_5) (pc' := 6) rfl ?_
  refine OwnK.istoreG X0 hx (hb hby at_6) (pc' := 8) rfl (Ls' := fun u => #[.val (.int p0), .val (.int p1), .val (.int p2), .val (.int p3), .val (.int p4), .val (.int u1), .val (.int u), .unset, .unset, .unset, .unset, .unset, .unset, .unset]) (fun u => rfl) (fun u2 (hu2 : u2 = (p1.toInt8.toInt32)) => ?_)
  have nb_u2 : nar .byte u2 = u2 := by rw [hu2]; exact own_narb _
  refine OwnK.iloadN X0 hx (hb hby at_8) (pc' := 9) rfl (v := p2) rfl ?_
  refine OwnK.i2b X0 hx (hb hby at_9) (pc' := 10) rfl ?_
  refine OwnK.istoreG X0 hx (hb hby at_10) (pc' := 12) rfl (Ls' := fun u => #[.val (.int p0), .val (.int p1), .val (.int p2), .val (.int p3), .val (.int p4), .val (.int u1), .val (.int u2), .val (.int u), .unset, .unset, .unset, .unset, .unset, .unset]) (fun u => rfl) (fun u3 (hu3 : u3 = (p2.toInt8.toInt32)) => ?_)
  have nb_u3 : nar .byte u3 = u3 := by rw [hu3]; exact own_narb _
  refine OwnK.iload X0 hx (hb hby at_12) (pc' := 14) rfl (v := p4) rfl ?_
  refine OwnK.iconst X0 hx (hb hby at_14) (pc' := 15) rfl (v := (3 : Int32)) (by decide) ?_
  refine OwnK.iand X0 hx (hb hby at_15) (pc' := 16) rfl ?_
  refine OwnK.istoreG X0 hx (hb hby at_16) (pc' := 18) rfl (Ls' := fun u => #[.val (.int p0), .val (.int p1), .val (.int p2), .val (.int p3), .val (.int p4), .val (.int u1), .val (.int u2), .val (.int u3), .val (.int u), .unset, .unset, .unset, .unset, .unset]) (fun u => rfl) (fun u4 (hu4 : u4 = (p4 &&& (3 : Int32))) => ?_)
  refine OwnK.iload X0 hx (hb hby at_18) (pc' := 20) rfl (v := p4) rfl ?_
  refine OwnK.iconst X0 hx (hb hby at_20) (pc' := 21) rfl (v := (2 : Int32)) (by decide) ?_
  refine OwnK.iushr X0 hx (hb hby at_21) (pc' := 22) rfl ?_
  refine OwnK.iconst X0 hx (hb hby at_22) (pc' := 23) rfl (v := (3 : Int32)) (by decide) ?_
  refine OwnK.iand X0 hx (hb hby at_23) (pc' := 24) rfl ?_
  refine OwnK.istoreG X0 hx (hb hby at_24) (pc' := 26) rfl (Ls' := fun u => #[.val (.int p0), .val (.int p1), .val (.int p2), .val (.int p3), .val (.int p4), .val (.int u1), .val (.int u2), .val (.int u3), .val (.int u4), .val (.int u), .unset, .unset, .unset, .unset]) (fun u => rfl) (fun u5 (hu5 : u5 = ((XT.ushr p4 (2 : Int32)) &&& (3 : Int32))) => ?_)
  have J6 : ∀ vJ6 : Int32, OwnK.Go p.tables e below (OwnK.PQ s (fun (v : Option Value) (_ : Heap) (L : List Loc) => v = some (.int (1 : Int32)) ∧ Fr n0 L) 3 7) T0 (mkF m 68 #[.val (.int p0), .val (.int p1), .val (.int p2), .val (.int p3), .val (.int p4), .val (.int u1), .val (.int u2), .val (.int u3), .val (.int u4), .val (.int u5), .val (.int vJ6), .unset, .unset, .unset] []) := by
    intro vJ6
    have m3 := own_mm3 p4
    rw [← hu4] at m3
    rcases m3 with rfl | rfl | rfl | rfl
    · refine OwnK.iload X0 hx (hb hby at_68) (pc' := 70) rfl (v := (0 : Int32)) rfl ?_
      refine OwnK.if_ne X0 hx (hb hby at_70) (by decide) (pcT := 81) (by decide) (pc' := 73) rfl (fun (hc70 : ¬ 0 = 0) => absurd hc70 (by decide)) (fun hc70 => ?_)
      refine OwnK.iconst X0 hx (hb hby at_73) (pc' := 74) rfl (v := (0 : Int32)) (by decide) ?_
      refine OwnK.newP_ X0 hx hZ (hw _ (List.mem_of_getElem? (i := 0) rfl)) e0 (hb hby at_74) (pc' := 76) rfl (n := (0 : Int32)) (by decide) (cap := 0) (by decide) (by decide) (by decide) (by decide) (ad := "[B") (by decide) (fun T7 h7 a7 k7 X7 e7 g7 E7 V7 Q7 => ?_)
      have ge_a7 : n0 ≤ a7 := Nat.le_trans Z0 (Nat.le_of_eq g7.symm)
      have z8 : n0 ≤ h7.size := Nat.le_trans Z0 E7.1
      have f9 : Arv Z h7 a7 k7 .byte (0 : Int32) [] (.int (0 : Int32)) := V7.pad (pad_rep [] (.int (0 : Int32)) 0)
      refine OwnK.astore X7 hx (hb hby at_76) (pc' := 78) rfl rfl (Ls' := #[.val (.int p0), .val (.int p1), .val (.int p2), .val (.int p3), .val (.int p4), .val (.int u1), .val (.int u2), .val (.int u3), .val (.int (0 : Int32)), .val (.int u5), .val (.int vJ6), .val (.ref a7), .unset, .unset]) rfl ?_
      refine OwnK.goto_ X7 hx (hb hby at_78) (by decide) (pc' := 144) (by decide) ?_
      refine OwnK.new_ X7 hx hZ hown (hw _ (List.mem_of_getElem? (i := 1) rfl)) (hw _ (List.mem_of_getElem? (i := 2) rfl)) (hw _ (List.mem_of_getElem? (i := 3) rfl)) e7 (hb hby at_144) (pc' := 147) rfl (by decide) (by decide) (fun T10 h10 a10 X10 e10 g10 E10 A10 D10 => ?_)
      have q11 : a7 ≠ a10 := Nat.ne_of_lt (Nat.lt_of_lt_of_le f9.lt (Nat.le_of_eq g10.symm))
      have ge_a10 : n0 ≤ a10 := Nat.le_trans z8 (Nat.le_of_eq g10.symm)
      have z12 : n0 ≤ h10.size := Nat.le_trans z8 E10.1
      have f13 := f9.ext E10
      have f14 := Q7.ext E10
      have f15 : Fld Z h10 a10 "com/example/ferryway/ferryway/tool/ByteString" "bytes" "[B" .null := D10 (Or.inr (hw _ (List.mem_of_getElem? (i := 20) rfl))) (ty := (.array .byte)) (by decide)
      refine OwnK.dup X10 hx (hb hby at_147) (pc' := 148) rfl rfl ?_
      refine OwnK.aload X10 hx (hb hby at_148) (pc' := 150) rfl (v := (.ref a7)) rfl rfl ?_
      refine OwnK.callI_ X10 hx hZ hown (y := (⟨"com/example/ferryway/ferryway/tool/ByteString", "<init>", "([B)V"⟩ : MethodName)) (a := a10) rfl (hw _ (List.mem_of_getElem? (i := 4) rfl)) (hw _ (List.mem_of_getElem? (i := 5) rfl)) (hw _ (List.mem_of_getElem? (i := 3) rfl)) (hw _ (List.mem_of_getElem? (i := 6) rfl)) rfl (by decide) (own_m1 l Z a0 hw h10 n0 z12 a10 a7 _ _ _ _  ge_a10 f15 A10 f13 f14 (Ne.symm q11) (by decide) ) (by decide) (W := 1) (by decide) e10 (by rw [hml]; rfl) own_pd_3 (argsL := [(.ref a7)]) rfl (S := [(.ref a10)]) rfl (Nat.le_of_eq rfl) (hb hby at_150) (pc' := 153) rfl (by decide) (by decide) (fun T16 v16 L16 X16 hQ16 => ?_)
      obtain ⟨b16, rfl, N16q, K16, E16q, F16q, V16q⟩ := hQ16
      have N17 := Fr.app N0 N16q
      have f18 := f13.keep K16 (ninS q11 nin0)
      have f19 := f14.keep K16
      have f20 := A10.keep K16
      have z21 : n0 ≤ T16.heap.size := Nat.le_trans z12 K16.1
      refine OwnK.astore X16 hx (hb hby at_153) (pc' := 155) rfl rfl (Ls' := #[.val (.int p0), .val (.int p1), .val (.int p2), .val (.int p3), .val (.int p4), .val (.int u1), .val (.int u2), .val (.int u3), .val (.int (0 : Int32)), .val (.int u5), .val (.int vJ6), .val (.ref a7), .val (.ref a10), .unset]) rfl ?_
      refine OwnK.iload X16 hx (hb hby at_155) (pc' := 157) rfl (v := (0 : Int32)) rfl ?_
      refine OwnK.iconst X16 hx (hb hby at_157) (pc' := 158) rfl (v := (1 : Int32)) (by decide) ?_
      refine OwnK.icmp_lt X16 hx (hb hby at_158) (by decide) (pcT := 168) (by decide) (pc' := 161) rfl (fun hc158 => ?_) (fun (hc158 : 1 ≤ 0) => absurd hc158 (by decide))
      refine OwnK.iload X16 hx (hb hby at_168) (pc' := 170) rfl (v := (0 : Int32)) rfl ?_
      refine OwnK.iconst X16 hx (hb hby at_170) (pc' := 171) rfl (v := (2 : Int32)) (by decide) ?_
      refine OwnK.icmp_lt X16 hx (hb hby at_171) (by decide) (pcT := 181) (by decide) (pc' := 174) rfl (fun hc171 => ?_) (fun (hc171 : 2 ≤ 0) => absurd hc171 (by decide))
      refine OwnK.iload X16 hx (hb hby at_181) (pc' := 183) rfl (v := (0 : Int32)) rfl ?_
      refine OwnK.iconst X16 hx (hb hby at_183) (pc' := 184) rfl (v := (3 : Int32)) (by decide) ?_
      refine OwnK.icmp_lt X16 hx (hb hby at_184) (by decide) (pcT := 198) (by decide) (pc' := 187) rfl (fun hc184 => ?_) (fun (hc184 : 3 ≤ 0) => absurd hc184 (by decide))
      refine OwnK.iconst X16 hx (hb hby at_198) (pc' := 199) rfl (v := (0 : Int32)) (by decide) ?_
      refine OwnK.istore X16 hx (hb hby at_199) (pc' := 201) rfl (Ls' := #[.val (.int p0), .val (.int p1), .val (.int p2), .val (.int p3), .val (.int p4), .val (.int u1), .val (.int u2), .val (.int u3), .val (.int (0 : Int32)), .val (.int u5), .val (.int vJ6), .val (.ref a7), .val (.ref a10), .val (.int (0 : Int32))]) rfl ?_
      refine OwnK.aload X16 hx (hb hby at_201) (pc' := 203) rfl (v := (.ref a10)) rfl rfl ?_
      refine OwnK.iload X16 hx (hb hby at_203) (pc' := 205) rfl (v := vJ6) rfl ?_
      refine OwnK.callV_ X16 hx hZ hown (y := (⟨"com/example/ferryway/ferryway/tool/ByteString", "contains", "(B)Z"⟩ : MethodName)) (z := (⟨"com/example/ferryway/ferryway/tool/ByteString", "contains", "(B)Z"⟩ : MethodName)) (a := a10) (hw _ (List.mem_of_getElem? (i := 21) rfl)) (hw _ (List.mem_of_getElem? (i := 22) rfl)) (notFace_of_selects (args := #[]) (mvT hZ (hw _ (List.mem_of_getElem? (i := 24) rfl)))) (hw _ (List.mem_of_getElem? (i := 24) rfl)) (hw _ (List.mem_of_getElem? (i := 23) rfl)) (hw _ (List.mem_of_getElem? (i := 25) rfl)) (hw _ (List.mem_of_getElem? (i := 3) rfl)) (by decide) E16q (own_m3 l Z a0 hw T16.heap a10 vJ6 _ _ (0 : Int32) (0 : Int32) (0 : Int32) (0 : Int32) F16q (V16q.pad (pad_rep [] (.int 0) 3)) (by decide) ) (by decide) (W := 0) (by decide) rfl (by rw [hml]; rfl) own_pd_2 (argsL := [(.int vJ6)]) rfl (S := []) rfl (Nat.le_of_eq rfl) (hb hby at_205) (pc' := 208) rfl (by decide) (by decide) (fun T22 v22 L22 X22 hQ22 => ?_)
      obtain ⟨rfl, e22, rfl⟩ := hQ22
      have N23 := Fr.app N17 (Fr.nil n0)
      refine OwnK.iload X22 hx (hb hby at_208) (pc' := 210) rfl (v := (0 : Int32)) rfl ?_
      refine OwnK.icmp_ne X22 hx (hb hby at_210) (by decide) (pcT := 217) (by decide) (pc' := 213) rfl (fun (hc210 : ¬ (own_co (0 : Int32).toInt (0 : Int32).toInt (0 : Int32).toInt (0 : Int32).toInt vJ6.toInt).toInt = 0) => absurd (congrArg Int32.toInt (own_co0 (by simp only [show ((0 : Int32).toInt) = 0 from by decide, show ((1 : Int32).toInt) = 1 from by decide, show ((2 : Int32).toInt) = 2 from by decide, show ((3 : Int32).toInt) = 3 from by decide]; omega))) hc210) (fun hc210 => ?_)
      refine OwnK.iconst X22 hx (hb hby at_213) (pc' := 214) rfl (v := (1 : Int32)) (by decide) ?_
      refine OwnK.goto_ X22 hx (hb hby at_214) (by decide) (pc' := 218) (by decide) ?_
      refine OwnK.retN_ X22 hx hret (by simp) hlk (hb hby at_218) (by decide) (by decide) ?_
      exact ⟨rfl, N23⟩
    · refine OwnK.iload X0 hx (hb hby at_68) (pc' := 70) rfl (v := (1 : Int32)) rfl ?_
      refine OwnK.if_ne X0 hx (hb hby at_70) (by decide) (pcT := 81) (by decide) (pc' := 73) rfl (fun hc70 => ?_) (fun (hc70 : 1 = 0) => absurd hc70 (by decide))
      refine OwnK.iload X0 hx (hb hby at_81) (pc' := 83) rfl (v := (1 : Int32)) rfl ?_
      refine OwnK.iconst X0 hx (hb hby at_83) (pc' := 84) rfl (v := (1 : Int32)) (by decide) ?_
      refine OwnK.icmp_ne X0 hx (hb hby at_84) (by decide) (pcT := 100) (by decide) (pc' := 87) rfl (fun (hc84 : ¬ 1 = 1) => absurd hc84 (by decide)) (fun hc84 => ?_)
      refine OwnK.iconst X0 hx (hb hby at_87) (pc' := 88) rfl (v := (1 : Int32)) (by decide) ?_
      refine OwnK.newP_ X0 hx hZ (hw _ (List.mem_of_getElem? (i := 0) rfl)) e0 (hb hby at_88) (pc' := 90) rfl (n := (1 : Int32)) (by decide) (cap := 1) (by decide) (by decide) (by decide) (by decide) (ad := "[B") (by decide) (fun T24 h24 a24 k24 X24 e24 g24 E24 V24 Q24 => ?_)
      have ge_a24 : n0 ≤ a24 := Nat.le_trans Z0 (Nat.le_of_eq g24.symm)
      have z25 : n0 ≤ h24.size := Nat.le_trans Z0 E24.1
      have f26 : Arv Z h24 a24 k24 .byte (1 : Int32) [(.int (0 : Int32))] (.int (0 : Int32)) := V24.pad (pad_rep [] (.int (0 : Int32)) 1)
      refine OwnK.dup X24 hx (hb hby at_90) (pc' := 91) rfl rfl ?_
      refine OwnK.iconst X24 hx (hb hby at_91) (pc' := 92) rfl (v := (0 : Int32)) (by decide) ?_
      refine OwnK.iload X24 hx (hb hby at_92) (pc' := 94) rfl (v := u1) rfl ?_
      refine OwnK.bastore X24 hx hZ e24 f26 (i := 0) (by decide) (by first | decide | omega) (Nat.le_of_ble_eq_true rfl) (hb hby at_94) (pc' := 95) rfl (fun T27 h27 X27 e27 W27 V27 => ?_)
      have f28 := Q24.wr W27
      have f29 : Arv Z h27 a24 _ .byte (1 : Int32) [(.int u1)] (.int (0 : Int32)) := (by have q := V27; rw [nb_u1] at q; exact q)
      have N30 := Fr.snoc X27 N0 ge_a24
      have z31 : n0 ≤ h27.size := Nat.le_trans z25 (Keep.of_wr W27).1
      refine OwnK.astore X27 hx (hb hby at_95) (pc' := 97) rfl rfl (Ls' := #[.val (.int p0), .val (.int p1), .val (.int p2), .val (.int p3), .val (.int p4), .val (.int u1), .val (.int u2), .val (.int u3), .val (.int (1 : Int32)), .val (.int u5), .val (.int vJ6), .val (.ref a24), .unset, .unset]) rfl ?_
      refine OwnK.goto_ X27 hx (hb hby at_97) (by decide) (pc' := 144) (by decide) ?_
      refine OwnK.new_ X27 hx hZ hown (hw _ (List.mem_of_getElem? (i := 1) rfl)) (hw _ (List.mem_of_getElem? (i := 2) rfl)) (hw _ (List.mem_of_getElem? (i := 3) rfl)) e27 (hb hby at_144) (pc' := 147) rfl (by decide) (by decide) (fun T32 h32 a32 X32 e32 g32 E32 A32 D32 => ?_)
      have q33 : a24 ≠ a32 := Nat.ne_of_lt (Nat.lt_of_lt_of_le f29.lt (Nat.le_of_eq g32.symm))
      have ge_a32 : n0 ≤ a32 := Nat.le_trans z31 (Nat.le_of_eq g32.symm)
      have z34 : n0 ≤ h32.size := Nat.le_trans z31 E32.1
      have f35 := f29.ext E32
      have f36 := f28.ext E32
      have f37 : Fld Z h32 a32 "com/example/ferryway/ferryway/tool/ByteString" "bytes" "[B" .null := D32 (Or.inr (hw _ (List.mem_of_getElem? (i := 20) rfl))) (ty := (.array .byte)) (by decide)
      refine OwnK.dup X32 hx (hb hby at_147) (pc' := 148) rfl rfl ?_
      refine OwnK.aload X32 hx (hb hby at_148) (pc' := 150) rfl (v := (.ref a24)) rfl rfl ?_
      refine OwnK.callI_ X32 hx hZ hown (y := (⟨"com/example/ferryway/ferryway/tool/ByteString", "<init>", "([B)V"⟩ : MethodName)) (a := a32) rfl (hw _ (List.mem_of_getElem? (i := 4) rfl)) (hw _ (List.mem_of_getElem? (i := 5) rfl)) (hw _ (List.mem_of_getElem? (i := 3) rfl)) (hw _ (List.mem_of_getElem? (i := 6) rfl)) rfl (by decide) (own_m1 l Z a0 hw h32 n0 z34 a32 a24 _ _ _ _  ge_a32 f37 A32 f35 f36 (Ne.symm q33) (by decide) ) (by decide) (W := 1) (by decide) e32 (by rw [hml]; rfl) own_pd_3 (argsL := [(.ref a24)]) rfl (S := [(.ref a32)]) rfl (Nat.le_of_eq rfl) (hb hby at_150) (pc' := 153) rfl (by decide) (by decide) (fun T38 v38 L38 X38 hQ38 => ?_)
      obtain ⟨b38, rfl, N38q, K38, E38q, F38q, V38q⟩ := hQ38
      have N39 := Fr.app N30 N38q
      have f40 := f35.keep K38 (ninS q33 nin0)
      have f41 := f36.keep K38
      have f42 := A32.keep K38
      have z43 : n0 ≤ T38.heap.size := Nat.le_trans z34 K38.1
      refine OwnK.astore X38 hx (hb hby at_153) (pc' := 155) rfl rfl (Ls' := #[.val (.int p0), .val (.int p1), .val (.int p2), .val (.int p3), .val (.int p4), .val (.int u1), .val (.int u2), .val (.int u3), .val (.int (1 : Int32)), .val (.int u5), .val (.int vJ6), .val (.ref a24), .val (.ref a32), .unset]) rfl ?_
      have J44 : ∀ v : Int32, (v = 1 ∧ (u1.toInt = vJ6.toInt)) ∨ (v = 0 ∧ ¬ (u1.toInt = vJ6.toInt)) → OwnK.Go p.tables e below (OwnK.PQ s (fun (v : Option Value) (_ : Heap) (L : List Loc) => v = some (.int (1 : Int32)) ∧ Fr n0 L) 3 7) T38 (mkF m 199 #[.val (.int p0), .val (.int p1), .val (.int p2), .val (.int p3), .val (.int p4), .val (.int u1), .val (.int u2), .val (.int u3), .val (.int (1 : Int32)), .val (.int u5), .val (.int vJ6), .val (.ref a24), .val (.ref a32), .unset] [(.int v)]) := by
        rintro v (⟨rfl, hJ44⟩ | ⟨rfl, hJ44⟩)
        · refine OwnK.istore X38 hx (hb hby at_199) (pc' := 201) rfl (Ls' := #[.val (.int p0), .val (.int p1), .val (.int p2), .val (.int p3), .val (.int p4), .val (.int u1), .val (.int u2), .val (.int u3), .val (.int (1 : Int32)), .val (.int u5), .val (.int vJ6), .val (.ref a24), .val (.ref a32), .val (.int (1 : Int32))]) rfl ?_
          refine OwnK.aload X38 hx (hb hby at_201) (pc' := 203) rfl (v := (.ref a32)) rfl rfl ?_
          refine OwnK.iload X38 hx (hb hby at_203) (pc' := 205) rfl (v := vJ6) rfl ?_
          refine OwnK.callV_ X38 hx hZ hown (y := (⟨"com/example/ferryway/ferryway/tool/ByteString", "contains", "(B)Z"⟩ : MethodName)) (z := (⟨"com/example/ferryway/ferryway/tool/ByteString", "contains", "(B)Z"⟩ : MethodName)) (a := a32) (hw _ (List.mem_of_getElem? (i := 21) rfl)) (hw _ (List.mem_of_getElem? (i := 22) rfl)) (notFace_of_selects (args := #[]) (mvT hZ (hw _ (List.mem_of_getElem? (i := 24) rfl)))) (hw _ (List.mem_of_getElem? (i := 24) rfl)) (hw _ (List.mem_of_getElem? (i := 23) rfl)) (hw _ (List.mem_of_getElem? (i := 25) rfl)) (hw _ (List.mem_of_getElem? (i := 3) rfl)) (by decide) E38q (own_m3 l Z a0 hw T38.heap a32 vJ6 _ _ (1 : Int32) u1 (0 : Int32) (0 : Int32) F38q (V38q.pad (pad_rep [.int u1] (.int 0) 2)) (by decide) ) (by decide) (W := 0) (by decide) rfl (by rw [hml]; rfl) own_pd_2 (argsL := [(.int vJ6)]) rfl (S := []) rfl (Nat.le_of_eq rfl) (hb hby at_205) (pc' := 208) rfl (by decide) (by decide) (fun T45 v45 L45 X45 hQ45 => ?_)
          obtain ⟨rfl, e45, rfl⟩ := hQ45
          have N46 := Fr.app N39 (Fr.nil n0)
          refine OwnK.iload X45 hx (hb hby at_208) (pc' := 210) rfl (v := (1 : Int32)) rfl ?_
          refine OwnK.icmp_ne X45 hx (hb hby at_210) (by decide) (pcT := 217) (by decide) (pc' := 213) rfl (fun (hc210 : ¬ (own_co (1 : Int32).toInt u1.toInt (0 : Int32).toInt (0 : Int32).toInt vJ6.toInt).toInt = 1) => absurd (congrArg Int32.toInt (own_co1 (by simp only [show ((0 : Int32).toInt) = 0 from by decide, show ((1 : Int32).toInt) = 1 from by decide, show ((2 : Int32).toInt) = 2 from by decide, show ((3 : Int32).toInt) = 3 from by decide]; omega))) hc210) (fun hc210 => ?_)
          refine OwnK.iconst X45 hx (hb hby at_213) (pc' := 214) rfl (v := (1 : Int32)) (by decide) ?_
          refine OwnK.goto_ X45 hx (hb hby at_214) (by decide) (pc' := 218) (by decide) ?_
          refine OwnK.retN_ X45 hx hret (by simp) hlk (hb hby at_218) (by decide) (by decide) ?_
          exact ⟨rfl, N46⟩
        · refine OwnK.istore X38 hx (hb hby at_199) (pc' := 201) rfl (Ls' := #[.val (.int p0), .val (.int p1), .val (.int p2), .val (.int p3), .val (.int p4), .val (.int u1), .val (.int u2), .val (.int u3), .val (.int (1 : Int32)), .val (.int u5), .val (.int vJ6), .val (.ref a24), .val (.ref a32), .val (.int (0 : Int32))]) rfl ?_
          refine OwnK.aload X38 hx (hb hby at_201) (pc' := 203) rfl (v := (.ref a32)) rfl rfl ?_
          refine OwnK.iload X38 hx (hb hby at_203) (pc' := 205) rfl (v := vJ6) rfl ?_
          refine OwnK.callV_ X38 hx hZ hown (y := (⟨"com/example/ferryway/ferryway/tool/ByteString", "contains", "(B)Z"⟩ : MethodName)) (z := (⟨"com/example/ferryway/ferryway/tool/ByteString", "contains", "(B)Z"⟩ : MethodName)) (a := a32) (hw _ (List.mem_of_getElem? (i := 21) rfl)) (hw _ (List.mem_of_getElem? (i := 22) rfl)) (notFace_of_selects (args := #[]) (mvT hZ (hw _ (List.mem_of_getElem? (i := 24) rfl)))) (hw _ (List.mem_of_getElem? (i := 24) rfl)) (hw _ (List.mem_of_getElem? (i := 23) rfl)) (hw _ (List.mem_of_getElem? (i := 25) rfl)) (hw _ (List.mem_of_getElem? (i := 3) rfl)) (by decide) E38q (own_m3 l Z a0 hw T38.heap a32 vJ6 _ _ (1 : Int32) u1 (0 : Int32) (0 : Int32) F38q (V38q.pad (pad_rep [.int u1] (.int 0) 2)) (by decide) ) (by decide) (W := 0) (by decide) rfl (by rw [hml]; rfl) own_pd_2 (argsL := [(.int vJ6)]) rfl (S := []) rfl (Nat.le_of_eq rfl) (hb hby at_205) (pc' := 208) rfl (by decide) (by decide) (fun T47 v47 L47 X47 hQ47 => ?_)
          obtain ⟨rfl, e47, rfl⟩ := hQ47
          have N48 := Fr.app N39 (Fr.nil n0)
          refine OwnK.iload X47 hx (hb hby at_208) (pc' := 210) rfl (v := (0 : Int32)) rfl ?_
          refine OwnK.icmp_ne X47 hx (hb hby at_210) (by decide) (pcT := 217) (by decide) (pc' := 213) rfl (fun (hc210 : ¬ (own_co (1 : Int32).toInt u1.toInt (0 : Int32).toInt (0 : Int32).toInt vJ6.toInt).toInt = 0) => absurd (congrArg Int32.toInt (own_co0 (by simp only [show ((0 : Int32).toInt) = 0 from by decide, show ((1 : Int32).toInt) = 1 from by decide, show ((2 : Int32).toInt) = 2 from by decide, show ((3 : Int32).toInt) = 3 from by decide]; omega))) hc210) (fun hc210 => ?_)
          refine OwnK.iconst X47 hx (hb hby at_213) (pc' := 214) rfl (v := (1 : Int32)) (by decide) ?_
          refine OwnK.goto_ X47 hx (hb hby at_214) (by decide) (pc' := 218) (by decide) ?_
          refine OwnK.retN_ X47 hx hret (by simp) hlk (hb hby at_218) (by decide) (by decide) ?_
          exact ⟨rfl, N48⟩
      refine OwnK.iload X38 hx (hb hby at_155) (pc' := 157) rfl (v := (1 : Int32)) rfl ?_
      refine OwnK.iconst X38 hx (hb hby at_157) (pc' := 158) rfl (v := (1 : Int32)) (by decide) ?_
      refine OwnK.icmp_lt X38 hx (hb hby at_158) (by decide) (pcT := 168) (by decide) (pc' := 161) rfl (fun (hc158 : 1 < 1) => absurd hc158 (by decide)) (fun hc158 => ?_)
      refine OwnK.iload X38 hx (hb hby at_161) (pc' := 163) rfl (v := u1) rfl ?_
      refine OwnK.iload X38 hx (hb hby at_163) (pc' := 165) rfl (v := vJ6) rfl ?_
      refine OwnK.icmp_eq X38 hx (hb hby at_165) (by decide) (pcT := 194) (by decide) (pc' := 168) rfl (fun (hc49 : u1.toInt = vJ6.toInt) => ?_) (fun (hc49 : ¬ u1.toInt = vJ6.toInt) => ?_)
      · refine OwnK.iconst X38 hx (hb hby at_194) (pc' := 195) rfl (v := (1 : Int32)) (by decide) ?_
        refine OwnK.goto_ X38 hx (hb hby at_195) (by decide) (pc' := 199) (by decide) ?_
        exact J44 _ (Or.inl ⟨rfl, by omega⟩)
      · refine OwnK.iload X38 hx (hb hby at_168) (pc' := 170) rfl (v := (1 : Int32)) rfl ?_
        refine OwnK.iconst X38 hx (hb hby at_170) (pc' := 171) rfl (v := (2 : Int32)) (by decide) ?_
        refine OwnK.icmp_lt X38 hx (hb hby at_171) (by decide) (pcT := 181) (by decide) (pc' := 174) rfl (fun hc171 => ?_) (fun (hc171 : 2 ≤ 1) => absurd hc171 (by decide))
        refine OwnK.iload X38 hx (hb hby at_181) (pc' := 183) rfl (v := (1 : Int32)) rfl ?_
        refine OwnK.iconst X38 hx (hb hby at_183) (pc' := 184) rfl (v := (3 : Int32)) (by decide) ?_
        refine OwnK.icmp_lt X38 hx (hb hby at_184) (by decide) (pcT := 198) (by decide) (pc' := 187) rfl (fun hc184 => ?_) (fun (hc184 : 3 ≤ 1) => absurd hc184 (by decide))
        refine OwnK.iconst X38 hx (hb hby at_198) (pc' := 199) rfl (v := (0 : Int32)) (by decide) ?_
        exact J44 _ (Or.inr ⟨rfl, by omega⟩)
    · refine OwnK.iload X0 hx (hb hby at_68) (pc' := 70) rfl (v := (2 : Int32)) rfl ?_
      refine OwnK.if_ne X0 hx (hb hby at_70) (by decide) (pcT := 81) (by decide) (pc' := 73) rfl (fun hc70 => ?_) (fun (hc70 : 2 = 0) => absurd hc70 (by decide))
      refine OwnK.iload X0 hx (hb hby at_81) (pc' := 83) rfl (v := (2 : Int32)) rfl ?_
      refine OwnK.iconst X0 hx (hb hby at_83) (pc' := 84) rfl (v := (1 : Int32)) (by decide) ?_
      refine OwnK.icmp_ne X0 hx (hb hby at_84) (by decide) (pcT := 100) (by decide) (pc' := 87) rfl (fun hc84 => ?_) (fun (hc84 : 2 = 1) => absurd hc84 (by decide))
      refine OwnK.iload X0 hx (hb hby at_100) (pc' := 102) rfl (v := (2 : Int32)) rfl ?_
      refine OwnK.iconst X0 hx (hb hby at_102) (pc' := 103) rfl (v := (2 : Int32)) (by decide) ?_
      refine OwnK.icmp_ne X0 hx (hb hby at_103) (by decide) (pcT := 124) (by decide) (pc' := 106) rfl (fun (hc103 : ¬ 2 = 2) => absurd hc103 (by decide)) (fun hc103 => ?_)
      refine OwnK.iconst X0 hx (hb hby at_106) (pc' := 107) rfl (v := (2 : Int32)) (by decide) ?_
      refine OwnK.newP_ X0 hx hZ (hw _ (List.mem_of_getElem? (i := 0) rfl)) e0 (hb hby at_107) (pc' := 109) rfl (n := (2 : Int32)) (by decide) (cap := 2) (by decide) (by decide) (by decide) (by decide) (ad := "[B") (by decide) (fun T50 h50 a50 k50 X50 e50 g50 E50 V50 Q50 => ?_)
      have ge_a50 : n0 ≤ a50 := Nat.le_trans Z0 (Nat.le_of_eq g50.symm)
      have z51 : n0 ≤ h50.size := Nat.le_trans Z0 E50.1
      have f52 : Arv Z h50 a50 k50 .byte (2 : Int32) [(.int (0 : Int32)), (.int (0 : Int32))] (.int (0 : Int32)) := V50.pad (pad_rep [] (.int (0 : Int32)) 2)
      refine OwnK.dup X50 hx (hb hby at_109) (pc' := 110) rfl rfl ?_
      refine OwnK.iconst X50 hx (hb hby at_110) (pc' := 111) rfl (v := (0 : Int32)) (by decide) ?_
      refine OwnK.iload X50 hx (hb hby at_111) (pc' := 113) rfl (v := u1) rfl ?_
      refine OwnK.bastore X50 hx hZ e50 f52 (i := 0) (by decide) (by first | decide | omega) (Nat.le_of_ble_eq_true rfl) (hb hby at_113) (pc' := 114) rfl (fun T53 h53 X53 e53 W53 V53 => ?_)
      have f54 := Q50.wr W53
      have f55 : Arv Z h53 a50 _ .byte (2 : Int32) [(.int u1), (.int (0 : Int32))] (.int (0 : Int32)) := (by have q := V53; rw [nb_u1] at q; exact q)
      have N56 := Fr.snoc X53 N0 ge_a50
      have z57 : n0 ≤ h53.size := Nat.le_trans z51 (Keep.of_wr W53).1
      refine OwnK.dup X53 hx (hb hby at_114) (pc' := 115) rfl rfl ?_
      refine OwnK.iconst X53 hx (hb hby at_115) (pc' := 116) rfl (v := (1 : Int32)) (by decide) ?_
      refine OwnK.iload X53 hx (hb hby at_116) (pc' := 118) rfl (v := u2) rfl ?_
      refine OwnK.bastore X53 hx hZ e53 f55 (i := 1) (by decide) (by first | decide | omega) (Nat.le_of_ble_eq_true rfl) (hb hby at_118) (pc' := 119) rfl (fun T58 h58 X58 e58 W58 V58 => ?_)
      have f59 := f54.wr W58
      have f60 : Arv Z h58 a50 _ .byte (2 : Int32) [(.int u1), (.int u2)] (.int (0 : Int32)) := (by have q := V58; rw [nb_u2] at q; exact q)
      have N61 := Fr.snoc X58 N56 ge_a50
      have z62 : n0 ≤ h58.size := Nat.le_trans z57 (Keep.of_wr W58).1
      refine OwnK.astore X58 hx (hb hby at_119) (pc' := 121) rfl rfl (Ls' := #[.val (.int p0), .val (.int p1), .val (.int p2), .val (.int p3), .val (.int p4), .val (.int u1), .val (.int u2), .val (.int u3), .val (.int (2 : Int32)), .val (.int u5), .val (.int vJ6), .val (.ref a50), .unset, .unset]) rfl ?_
      refine OwnK.goto_ X58 hx (hb hby at_121) (by decide) (pc' := 144) (by decide) ?_
      refine OwnK.new_ X58 hx hZ hown (hw _ (List.mem_of_getElem? (i := 1) rfl)) (hw _ (List.mem_of_getElem? (i := 2) rfl)) (hw _ (List.mem_of_getElem? (i := 3) rfl)) e58 (hb hby at_144) (pc' := 147) rfl (by decide) (by decide) (fun T63 h63 a63 X63 e63 g63 E63 A63 D63 => ?_)
      have q64 : a50 ≠ a63 := Nat.ne_of_lt (Nat.lt_of_lt_of_le f60.lt (Nat.le_of_eq g63.symm))
      have ge_a63 : n0 ≤ a63 := Nat.le_trans z62 (Nat.le_of_eq g63.symm)
      have z65 : n0 ≤ h63.size := Nat.le_trans z62 E63.1
      have f66 := f60.ext E63
      have f67 := f59.ext E63
      have f68 : Fld Z h63 a63 "com/example/ferryway/ferryway/tool/ByteString" "bytes" "[B" .null := D63 (Or.inr (hw _ (List.mem_of_getElem? (i := 20) rfl))) (ty := (.array .byte)) (by decide)
      refine OwnK.dup X63 hx (hb hby at_147) (pc' := 148) rfl rfl ?_
      refine OwnK.aload X63 hx (hb hby at_148) (pc' := 150) rfl (v := (.ref a50)) rfl rfl ?_
      refine OwnK.callI_ X63 hx hZ hown (y := (⟨"com/example/ferryway/ferryway/tool/ByteString", "<init>", "([B)V"⟩ : MethodName)) (a := a63) rfl (hw _ (List.mem_of_getElem? (i := 4) rfl)) (hw _ (List.mem_of_getElem? (i := 5) rfl)) (hw _ (List.mem_of_getElem? (i := 3) rfl)) (hw _ (List.mem_of_getElem? (i := 6) rfl)) rfl (by decide) (own_m1 l Z a0 hw h63 n0 z65 a63 a50 _ _ _ _  ge_a63 f68 A63 f66 f67 (Ne.symm q64) (by decide) ) (by decide) (W := 1) (by decide) e63 (by rw [hml]; rfl) own_pd_3 (argsL := [(.ref a50)]) rfl (S := [(.ref a63)]) rfl (Nat.le_of_eq rfl) (hb hby at_150) (pc' := 153) rfl (by decide) (by decide) (fun T69 v69 L69 X69 hQ69 => ?_)
      obtain ⟨b69, rfl, N69q, K69, E69q, F69q, V69q⟩ := hQ69
      have N70 := Fr.app N61 N69q
      have f71 := f66.keep K69 (ninS q64 nin0)
      have f72 := f67.keep K69
      have f73 := A63.keep K69
      have z74 : n0 ≤ T69.heap.size := Nat.le_trans z65 K69.1
      refine OwnK.astore X69 hx (hb hby at_153) (pc' := 155) rfl rfl (Ls' := #[.val (.int p0), .val (.int p1), .val (.int p2), .val (.int p3), .val (.int p4), .val (.int u1), .val (.int u2), .val (.int u3), .val (.int (2 : Int32)), .val (.int u5), .val (.int vJ6), .val (.ref a50), .val (.ref a63), .unset]) rfl ?_
      have J75 : ∀ v : Int32, (v = 1 ∧ (u1.toInt = vJ6.toInt ∨ u2.toInt = vJ6.toInt)) ∨ (v = 0 ∧ ¬ (u1.toInt = vJ6.toInt ∨ u2.toInt = vJ6.toInt)) → OwnK.Go p.tables e below (OwnK.PQ s (fun (v : Option Value) (_ : Heap) (L : List Loc) => v = some (.int (1 : Int32)) ∧ Fr n0 L) 3 7) T69 (mkF m 199 #[.val (.int p0), .val (.int p1), .val (.int p2), .val (.int p3), .val (.int p4), .val (.int u1), .val (.int u2), .val (.int u3), .val (.int (2 : Int32)), .val (.int u5), .val (.int vJ6), .val (.ref a50), .val (.ref a63), .unset] [(.int v)]) := by
        rintro v (⟨rfl, hJ75⟩ | ⟨rfl, hJ75⟩)
        · refine OwnK.istore X69 hx (hb hby at_199) (pc' := 201) rfl (Ls' := #[.val (.int p0), .val (.int p1), .val (.int p2), .val (.int p3), .val (.int p4), .val (.int u1), .val (.int u2), .val (.int u3), .val (.int (2 : Int32)), .val (.int u5), .val (.int vJ6), .val (.ref a50), .val (.ref a63), .val (.int (1 : Int32))]) rfl ?_
          refine OwnK.aload X69 hx (hb hby at_201) (pc' := 203) rfl (v := (.ref a63)) rfl rfl ?_
          refine OwnK.iload X69 hx (hb hby at_203) (pc' := 205) rfl (v := vJ6) rfl ?_
          refine OwnK.callV_ X69 hx hZ hown (y := (⟨"com/example/ferryway/ferryway/tool/ByteString", "contains", "(B)Z"⟩ : MethodName)) (z := (⟨"com/example/ferryway/ferryway/tool/ByteString", "contains", "(B)Z"⟩ : MethodName)) (a := a63) (hw _ (List.mem_of_getElem? (i := 21) rfl)) (hw _ (List.mem_of_getElem? (i := 22) rfl)) (notFace_of_selects (args := #[]) (mvT hZ (hw _ (List.mem_of_getElem? (i := 24) rfl)))) (hw _ (List.mem_of_getElem? (i := 24) rfl)) (hw _ (List.mem_of_getElem? (i := 23) rfl)) (hw _ (List.mem_of_getElem? (i := 25) rfl)) (hw _ (List.mem_of_getElem? (i := 3) rfl)) (by decide) E69q (own_m3 l Z a0 hw T69.heap a63 vJ6 _ _ (2 : Int32) u1 u2 (0 : Int32) F69q (V69q.pad (pad_rep [.int u1, .int u2] (.int 0) 1)) (by decide) ) (by decide) (W := 0) (by decide) rfl (by rw [hml]; rfl) own_pd_2 (argsL := [(.int vJ6)]) rfl (S := []) rfl (Nat.le_of_eq rfl) (hb hby at_205) (pc' := 208) rfl (by decide) (by decide) (fun T76 v76 L76 X76 hQ76 => ?_)
          obtain ⟨rfl, e76, rfl⟩ := hQ76
          have N77 := Fr.app N70 (Fr.nil n0)
          refine OwnK.iload X76 hx (hb hby at_208) (pc' := 210) rfl (v := (1 : Int32)) rfl ?_
          refine OwnK.icmp_ne X76 hx (hb hby at_210) (by decide) (pcT := 217) (by decide) (pc' := 213) rfl (fun (hc210 : ¬ (own_co (2 : Int32).toInt u1.toInt u2.toInt (0 : Int32).toInt vJ6.toInt).toInt = 1) => absurd (congrArg Int32.toInt (own_co1 (by simp only [show ((0 : Int32).toInt) = 0 from by decide, show ((1 : Int32).toInt) = 1 from by decide, show ((2 : Int32).toInt) = 2 from by decide, show ((3 : Int32).toInt) = 3 from by decide]; omega))) hc210) (fun hc210 => ?_)
          refine OwnK.iconst X76 hx (hb hby at_213) (pc' := 214) rfl (v := (1 : Int32)) (by decide) ?_
          refine OwnK.goto_ X76 hx (hb hby at_214) (by decide) (pc' := 218) (by decide) ?_
          refine OwnK.retN_ X76 hx hret (by simp) hlk (hb hby at_218) (by decide) (by decide) ?_
          exact ⟨rfl, N77⟩
        · refine OwnK.istore X69 hx (hb hby at_199) (pc' := 201) rfl (Ls' := #[.val (.int p0), .val (.int p1), .val (.int p2), .val (.int p3), .val (.int p4), .val (.int u1), .val (.int u2), .val (.int u3), .val (.int (2 : Int32)), .val (.int u5), .val (.int vJ6), .val (.ref a50), .val (.ref a63), .val (.int (0 : Int32))]) rfl ?_
          refine OwnK.aload X69 hx (hb hby at_201) (pc' := 203) rfl (v := (.ref a63)) rfl rfl ?_
          refine OwnK.iload X69 hx (hb hby at_203) (pc' := 205) rfl (v := vJ6) rfl ?_
          refine OwnK.callV_ X69 hx hZ hown (y := (⟨"com/example/ferryway/ferryway/tool/ByteString", "contains", "(B)Z"⟩ : MethodName)) (z := (⟨"com/example/ferryway/ferryway/tool/ByteString", "contains", "(B)Z"⟩ : MethodName)) (a := a63) (hw _ (List.mem_of_getElem? (i := 21) rfl)) (hw _ (List.mem_of_getElem? (i := 22) rfl)) (notFace_of_selects (args := #[]) (mvT hZ (hw _ (List.mem_of_getElem? (i := 24) rfl)))) (hw _ (List.mem_of_getElem? (i := 24) rfl)) (hw _ (List.mem_of_getElem? (i := 23) rfl)) (hw _ (List.mem_of_getElem? (i := 25) rfl)) (hw _ (List.mem_of_getElem? (i := 3) rfl)) (by decide) E69q (own_m3 l Z a0 hw T69.heap a63 vJ6 _ _ (2 : Int32) u1 u2 (0 : Int32) F69q (V69q.pad (pad_rep [.int u1, .int u2] (.int 0) 1)) (by decide) ) (by decide) (W := 0) (by decide) rfl (by rw [hml]; rfl) own_pd_2 (argsL := [(.int vJ6)]) rfl (S := []) rfl (Nat.le_of_eq rfl) (hb hby at_205) (pc' := 208) rfl (by decide) (by decide) (fun T78 v78 L78 X78 hQ78 => ?_)
          obtain ⟨rfl, e78, rfl⟩ := hQ78
          have N79 := Fr.app N70 (Fr.nil n0)
          refine OwnK.iload X78 hx (hb hby at_208) (pc' := 210) rfl (v := (0 : Int32)) rfl ?_
          refine OwnK.icmp_ne X78 hx (hb hby at_210) (by decide) (pcT := 217) (by decide) (pc' := 213) rfl (fun (hc210 : ¬ (own_co (2 : Int32).toInt u1.toInt u2.toInt (0 : Int32).toInt vJ6.toInt).toInt = 0) => absurd (congrArg Int32.toInt (own_co0 (by simp only [show ((0 : Int32).toInt) = 0 from by decide, show ((1 : Int32).toInt) = 1 from by decide, show ((2 : Int32).toInt) = 2 from by decide, show ((3 : Int32).toInt) = 3 from by decide]; omega))) hc210) (fun hc210 => ?_)
          refine OwnK.iconst X78 hx (hb hby at_213) (pc' := 214) rfl (v := (1 : Int32)) (by decide) ?_
          refine OwnK.goto_ X78 hx (hb hby at_214) (by decide) (pc' := 218) (by decide) ?_
          refine OwnK.retN_ X78 hx hret (by simp) hlk (hb hby at_218) (by decide) (by decide) ?_
          exact ⟨rfl, N79⟩
      refine OwnK.iload X69 hx (hb hby at_155) (pc' := 157) rfl (v := (2 : Int32)) rfl ?_
      refine OwnK.iconst X69 hx (hb hby at_157) (pc' := 158) rfl (v := (1 : Int32)) (by decide) ?_
      refine OwnK.icmp_lt X69 hx (hb hby at_158) (by decide) (pcT := 168) (by decide) (pc' := 161) rfl (fun (hc158 : 2 < 1) => absurd hc158 (by decide)) (fun hc158 => ?_)
      refine OwnK.iload X69 hx (hb hby at_161) (pc' := 163) rfl (v := u1) rfl ?_
      refine OwnK.iload X69 hx (hb hby at_163) (pc' := 165) rfl (v := vJ6) rfl ?_
      refine OwnK.icmp_eq X69 hx (hb hby at_165) (by decide) (pcT := 194) (by decide) (pc' := 168) rfl (fun (hc80 : u1.toInt = vJ6.toInt) => ?_) (fun (hc80 : ¬ u1.toInt = vJ6.toInt) => ?_)
      · refine OwnK.iconst X69 hx (hb hby at_194) (pc' := 195) rfl (v := (1 : Int32)) (by decide) ?_
        refine OwnK.goto_ X69 hx (hb hby at_195) (by decide) (pc' := 199) (by decide) ?_
        exact J75 _ (Or.inl ⟨rfl, by omega⟩)
      · refine OwnK.iload X69 hx (hb hby at_168) (pc' := 170) rfl (v := (2 : Int32)) rfl ?_
        refine OwnK.iconst X69 hx (hb hby at_170) (pc' := 171) rfl (v := (2 : Int32)) (by decide) ?_
        refine OwnK.icmp_lt X69 hx (hb hby at_171) (by decide) (pcT := 181) (by decide) (pc' := 174) rfl (fun (hc171 : 2 < 2) => absurd hc171 (by decide)) (fun hc171 => ?_)
        refine OwnK.iload X69 hx (hb hby at_174) (pc' := 176) rfl (v := u2) rfl ?_
        refine OwnK.iload X69 hx (hb hby at_176) (pc' := 178) rfl (v := vJ6) rfl ?_
        refine OwnK.icmp_eq X69 hx (hb hby at_178) (by decide) (pcT := 194) (by decide) (pc' := 181) rfl (fun (hc81 : u2.toInt = vJ6.toInt) => ?_) (fun (hc81 : ¬ u2.toInt = vJ6.toInt) => ?_)
        · refine OwnK.iconst X69 hx (hb hby at_194) (pc' := 195) rfl (v := (1 : Int32)) (by decide) ?_
          refine OwnK.goto_ X69 hx (hb hby at_195) (by decide) (pc' := 199) (by decide) ?_
          exact J75 _ (Or.inl ⟨rfl, by omega⟩)
        · refine OwnK.iload X69 hx (hb hby at_181) (pc' := 183) rfl (v := (2 : Int32)) rfl ?_
          refine OwnK.iconst X69 hx (hb hby at_183) (pc' := 184) rfl (v := (3 : Int32)) (by decide) ?_
          refine OwnK.icmp_lt X69 hx (hb hby at_184) (by decide) (pcT := 198) (by decide) (pc' := 187) rfl (fun hc184 => ?_) (fun (hc184 : 3 ≤ 2) => absurd hc184 (by decide))
          refine OwnK.iconst X69 hx (hb hby at_198) (pc' := 199) rfl (v := (0 : Int32)) (by decide) ?_
          exact J75 _ (Or.inr ⟨rfl, by omega⟩)
    · refine OwnK.iload X0 hx (hb hby at_68) (pc' := 70) rfl (v := (3 : Int32)) rfl ?_
      refine OwnK.if_ne X0 hx (hb hby at_70) (by decide) (pcT := 81) (by decide) (pc' := 73) rfl (fun hc70 => ?_) (fun (hc70 : 3 = 0) => absurd hc70 (by decide))
      refine OwnK.iload X0 hx (hb hby at_81) (pc' := 83) rfl (v := (3 : Int32)) rfl ?_
      refine OwnK.iconst X0 hx (hb hby at_83) (pc' := 84) rfl (v := (1 : Int32)) (by decide) ?_
      refine OwnK.icmp_ne X0 hx (hb hby at_84) (by decide) (pcT := 100) (by decide) (pc' := 87) rfl (fun hc84 => ?_) (fun (hc84 : 3 = 1) => absurd hc84 (by decide))
      refine OwnK.iload X0 hx (hb hby at_100) (pc' := 102) rfl (v := (3 : Int32)) rfl ?_
      refine OwnK.iconst X0 hx (hb hby at_102) (pc' := 103) rfl (v := (2 : Int32)) (by decide) ?_
      refine OwnK.icmp_ne X0 hx (hb hby at_103) (by decide) (pcT := 124) (by decide) (pc' := 106) rfl (fun hc103 => ?_) (fun (hc103 : 3 = 2) => absurd hc103 (by decide))
      refine OwnK.iconst X0 hx (hb hby at_124) (pc' := 125) rfl (v := (3 : Int32)) (by decide) ?_
      refine OwnK.newP_ X0 hx hZ (hw _ (List.mem_of_getElem? (i := 0) rfl)) e0 (hb hby at_125) (pc' := 127) rfl (n := (3 : Int32)) (by decide) (cap := 3) (by decide) (by decide) (by decide) (by decide) (ad := "[B") (by decide) (fun T82 h82 a82 k82 X82 e82 g82 E82 V82 Q82 => ?_)
      have ge_a82 : n0 ≤ a82 := Nat.le_trans Z0 (Nat.le_of_eq g82.symm)
      have z83 : n0 ≤ h82.size := Nat.le_trans Z0 E82.1
      have f84 : Arv Z h82 a82 k82 .byte (3 : Int32) [(.int (0 : Int32)), (.int (0 : Int32)), (.int (0 : Int32))] (.int (0 : Int32)) := V82.pad (pad_rep [] (.int (0 : Int32)) 3)
      refine OwnK.dup X82 hx (hb hby at_127) (pc' := 128) rfl rfl ?_
      refine OwnK.iconst X82 hx (hb hby at_128) (pc' := 129) rfl (v := (0 : Int32)) (by decide) ?_
      refine OwnK.iload X82 hx (hb hby at_129) (pc' := 131) rfl (v := u1) rfl ?_
      refine OwnK.bastore X82 hx hZ e82 f84 (i := 0) (by decide) (by first | decide | omega) (Nat.le_of_ble_eq_true rfl) (hb hby at_131) (pc' := 132) rfl (fun T85 h85 X85 e85 W85 V85 => ?_)
      have f86 := Q82.wr W85
      have f87 : Arv Z h85 a82 _ .byte (3 : Int32) [(.int u1), (.int (0 : Int32)), (.int (0 : Int32))] (.int (0 : Int32)) := (by have q := V85; rw [nb_u1] at q; exact q)
      have N88 := Fr.snoc X85 N0 ge_a82
      have z89 : n0 ≤ h85.size := Nat.le_trans z83 (Keep.of_wr W85).1
      refine OwnK.dup X85 hx (hb hby at_132) (pc' := 133) rfl rfl ?_
      refine OwnK.iconst X85 hx (hb hby at_133) (pc' := 134) rfl (v := (1 : Int32)) (by decide) ?_
      refine OwnK.iload X85 hx (hb hby at_134) (pc' := 136) rfl (v := u2) rfl ?_
      refine OwnK.bastore X85 hx hZ e85 f87 (i := 1) (by decide) (by first | decide | omega) (Nat.le_of_ble_eq_true rfl) (hb hby at_136) (pc' := 137) rfl (fun T90 h90 X90 e90 W90 V90 => ?_)
      have f91 := f86.wr W90
      have f92 : Arv Z h90 a82 _ .byte (3 : Int32) [(.int u1), (.int u2), (.int (0 : Int32))] (.int (0 : Int32)) := (by have q := V90; rw [nb_u2] at q; exact q)
      have N93 := Fr.snoc X90 N88 ge_a82
      have z94 : n0 ≤ h90.size := Nat.le_trans z89 (Keep.of_wr W90).1
      refine OwnK.dup X90 hx (hb hby at_137) (pc' := 138) rfl rfl ?_
      refine OwnK.iconst X90 hx (hb hby at_138) (pc' := 139) rfl (v := (2 : Int32)) (by decide) ?_
      refine OwnK.iload X90 hx (hb hby at_139) (pc' := 141) rfl (v := u3) rfl ?_
      refine OwnK.bastore X90 hx hZ e90 f92 (i := 2) (by decide) (by first | decide | omega) (Nat.le_of_ble_eq_true rfl) (hb hby at_141) (pc' := 142) rfl (fun T95 h95 X95 e95 W95 V95 => ?_)
      have f96 := f91.wr W95
      have f97 : Arv Z h95 a82 _ .byte (3 : Int32) [(.int u1), (.int u2), (.int u3)] (.int (0 : Int32)) := (by have q := V95; rw [nb_u3] at q; exact q)
      have N98 := Fr.snoc X95 N93 ge_a82
      have z99 : n0 ≤ h95.size := Nat.le_trans z94 (Keep.of_wr W95).1
      refine OwnK.astore X95 hx (hb hby at_142) (pc' := 144) rfl rfl (Ls' := #[.val (.int p0), .val (.int p1), .val (.int p2), .val (.int p3), .val (.int p4), .val (.int u1), .val (.int u2), .val (.int u3), .val (.int (3 : Int32)), .val (.int u5), .val (.int vJ6), .val (.ref a82), .unset, .unset]) rfl ?_
      refine OwnK.new_ X95 hx hZ hown (hw _ (List.mem_of_getElem? (i := 1) rfl)) (hw _ (List.mem_of_getElem? (i := 2) rfl)) (hw _ (List.mem_of_getElem? (i := 3) rfl)) e95 (hb hby at_144) (pc' := 147) rfl (by decide) (by decide) (fun T100 h100 a100 X100 e100 g100 E100 A100 D100 => ?_)
      have q101 : a82 ≠ a100 := Nat.ne_of_lt (Nat.lt_of_lt_of_le f97.lt (Nat.le_of_eq g100.symm))
      have ge_a100 : n0 ≤ a100 := Nat.le_trans z99 (Nat.le_of_eq g100.symm)
      have z102 : n0 ≤ h100.size := Nat.le_trans z99 E100.1
      have f103 := f97.ext E100
      have f104 := f96.ext E100
      have f105 : Fld Z h100 a100 "com/example/ferryway/ferryway/tool/ByteString" "bytes" "[B" .null := D100 (Or.inr (hw _ (List.mem_of_getElem? (i := 20) rfl))) (ty := (.array .byte)) (by decide)
      refine OwnK.dup X100 hx (hb hby at_147) (pc' := 148) rfl rfl ?_
      refine OwnK.aload X100 hx (hb hby at_148) (pc' := 150) rfl (v := (.ref a82)) rfl rfl ?_
      refine OwnK.callI_ X100 hx hZ hown (y := (⟨"com/example/ferryway/ferryway/tool/ByteString", "<init>", "([B)V"⟩ : MethodName)) (a := a100) rfl (hw _ (List.mem_of_getElem? (i := 4) rfl)) (hw _ (List.mem_of_getElem? (i := 5) rfl)) (hw _ (List.mem_of_getElem? (i := 3) rfl)) (hw _ (List.mem_of_getElem? (i := 6) rfl)) rfl (by decide) (own_m1 l Z a0 hw h100 n0 z102 a100 a82 _ _ _ _  ge_a100 f105 A100 f103 f104 (Ne.symm q101) (by decide) ) (by decide) (W := 1) (by decide) e100 (by rw [hml]; rfl) own_pd_3 (argsL := [(.ref a82)]) rfl (S := [(.ref a100)]) rfl (Nat.le_of_eq rfl) (hb hby at_150) (pc' := 153) rfl (by decide) (by decide) (fun T106 v106 L106 X106 hQ106 => ?_)
      obtain ⟨b106, rfl, N106q, K106, E106q, F106q, V106q⟩ := hQ106
      have N107 := Fr.app N98 N106q
      have f108 := f103.keep K106 (ninS q101 nin0)
      have f109 := f104.keep K106
      have f110 := A100.keep K106
      have z111 : n0 ≤ T106.heap.size := Nat.le_trans z102 K106.1
      refine OwnK.astore X106 hx (hb hby at_153) (pc' := 155) rfl rfl (Ls' := #[.val (.int p0), .val (.int p1), .val (.int p2), .val (.int p3), .val (.int p4), .val (.int u1), .val (.int u2), .val (.int u3), .val (.int (3 : Int32)), .val (.int u5), .val (.int vJ6), .val (.ref a82), .val (.ref a100), .unset]) rfl ?_
      have J112 : ∀ v : Int32, (v = 1 ∧ (u1.toInt = vJ6.toInt ∨ u2.toInt = vJ6.toInt ∨ u3.toInt = vJ6.toInt)) ∨ (v = 0 ∧ ¬ (u1.toInt = vJ6.toInt ∨ u2.toInt = vJ6.toInt ∨ u3.toInt = vJ6.toInt)) → OwnK.Go p.tables e below (OwnK.PQ s (fun (v : Option Value) (_ : Heap) (L : List Loc) => v = some (.int (1 : Int32)) ∧ Fr n0 L) 3 7) T106 (mkF m 199 #[.val (.int p0), .val (.int p1), .val (.int p2), .val (.int p3), .val (.int p4), .val (.int u1), .val (.int u2), .val (.int u3), .val (.int (3 : Int32)), .val (.int u5), .val (.int vJ6), .val (.ref a82), .val (.ref a100), .unset] [(.int v)]) := by
        rintro v (⟨rfl, hJ112⟩ | ⟨rfl, hJ112⟩)
        · refine OwnK.istore X106 hx (hb hby at_199) (pc' := 201) rfl (Ls' := #[.val (.int p0), .val (.int p1), .val (.int p2), .val (.int p3), .val (.int p4), .val (.int u1), .val (.int u2), .val (.int u3), .val (.int (3 : Int32)), .val (.int u5), .val (.int vJ6), .val (.ref a82), .val (.ref a100), .val (.int (1 : Int32))]) rfl ?_
          refine OwnK.aload X106 hx (hb hby at_201) (pc' := 203) rfl (v := (.ref a100)) rfl rfl ?_
          refine OwnK.iload X106 hx (hb hby at_203) (pc' := 205) rfl (v := vJ6) rfl ?_
          refine OwnK.callV_ X106 hx hZ hown (y := (⟨"com/example/ferryway/ferryway/tool/ByteString", "contains", "(B)Z"⟩ : MethodName)) (z := (⟨"com/example/ferryway/ferryway/tool/ByteString", "contains", "(B)Z"⟩ : MethodName)) (a := a100) (hw _ (List.mem_of_getElem? (i := 21) rfl)) (hw _ (List.mem_of_getElem? (i := 22) rfl)) (notFace_of_selects (args := #[]) (mvT hZ (hw _ (List.mem_of_getElem? (i := 24) rfl)))) (hw _ (List.mem_of_getElem? (i := 24) rfl)) (hw _ (List.mem_of_getElem? (i := 23) rfl)) (hw _ (List.mem_of_getElem? (i := 25) rfl)) (hw _ (List.mem_of_getElem? (i := 3) rfl)) (by decide) E106q (own_m3 l Z a0 hw T106.heap a100 vJ6 _ _ (3 : Int32) u1 u2 u3 F106q (V106q.pad (pad_rep [.int u1, .int u2, .int u3] (.int 0) 0)) (by decide) ) (by decide) (W := 0) (by decide) rfl (by rw [hml]; rfl) own_pd_2 (argsL := [(.int vJ6)]) rfl (S := []) rfl (Nat.le_of_eq rfl) (hb hby at_205) (pc' := 208) rfl (by decide) (by decide) (fun T113 v113 L113 X113 hQ113 => ?_)
          obtain ⟨rfl, e113, rfl⟩ := hQ113
          have N114 := Fr.app N107 (Fr.nil n0)
          refine OwnK.iload X113 hx (hb hby at_208) (pc' := 210) rfl (v := (1 : Int32)) rfl ?_
          refine OwnK.icmp_ne X113 hx (hb hby at_210) (by decide) (pcT := 217) (by decide) (pc' := 213) rfl (fun (hc210 : ¬ (own_co (3 : Int32).toInt u1.toInt u2.toInt u3.toInt vJ6.toInt).toInt = 1) => absurd (congrArg Int32.toInt (own_co1 (by simp only [show ((0 : Int32).toInt) = 0 from by decide, show ((1 : Int32).toInt) = 1 from by decide, show ((2 : Int32).toInt) = 2 from by decide, show ((3 : Int32).toInt) = 3 from by decide]; omega))) hc210) (fun hc210 => ?_)
          refine OwnK.iconst X113 hx (hb hby at_213) (pc' := 214) rfl (v := (1 : Int32)) (by decide) ?_
          refine OwnK.goto_ X113 hx (hb hby at_214) (by decide) (pc' := 218) (by decide) ?_
          refine OwnK.retN_ X113 hx hret (by simp) hlk (hb hby at_218) (by decide) (by decide) ?_
          exact ⟨rfl, N114⟩
        · refine OwnK.istore X106 hx (hb hby at_199) (pc' := 201) rfl (Ls' := #[.val (.int p0), .val (.int p1), .val (.int p2), .val (.int p3), .val (.int p4), .val (.int u1), .val (.int u2), .val (.int u3), .val (.int (3 : Int32)), .val (.int u5), .val (.int vJ6), .val (.ref a82), .val (.ref a100), .val (.int (0 : Int32))]) rfl ?_
          refine OwnK.aload X106 hx (hb hby at_201) (pc' := 203) rfl (v := (.ref a100)) rfl rfl ?_
          refine OwnK.iload X106 hx (hb hby at_203) (pc' := 205) rfl (v := vJ6) rfl ?_
          refine OwnK.callV_ X106 hx hZ hown (y := (⟨"com/example/ferryway/ferryway/tool/ByteString", "contains", "(B)Z"⟩ : MethodName)) (z := (⟨"com/example/ferryway/ferryway/tool/ByteString", "contains", "(B)Z"⟩ : MethodName)) (a := a100) (hw _ (List.mem_of_getElem? (i := 21) rfl)) (hw _ (List.mem_of_getElem? (i := 22) rfl)) (notFace_of_selects (args := #[]) (mvT hZ (hw _ (List.mem_of_getElem? (i := 24) rfl)))) (hw _ (List.mem_of_getElem? (i := 24) rfl)) (hw _ (List.mem_of_getElem? (i := 23) rfl)) (hw _ (List.mem_of_getElem? (i := 25) rfl)) (hw _ (List.mem_of_getElem? (i := 3) rfl)) (by decide) E106q (own_m3 l Z a0 hw T106.heap a100 vJ6 _ _ (3 : Int32) u1 u2 u3 F106q (V106q.pad (pad_rep [.int u1, .int u2, .int u3] (.int 0) 0)) (by decide) ) (by decide) (W := 0) (by decide) rfl (by rw [hml]; rfl) own_pd_2 (argsL := [(.int vJ6)]) rfl (S := []) rfl (Nat.le_of_eq rfl) (hb hby at_205) (pc' := 208) rfl (by decide) (by decide) (fun T115 v115 L115 X115 hQ115 => ?_)
          obtain ⟨rfl, e115, rfl⟩ := hQ115
          have N116 := Fr.app N107 (Fr.nil n0)
          refine OwnK.iload X115 hx (hb hby at_208) (pc' := 210) rfl (v := (0 : Int32)) rfl ?_
          refine OwnK.icmp_ne X115 hx (hb hby at_210) (by decide) (pcT := 217) (by decide) (pc' := 213) rfl (fun (hc210 : ¬ (own_co (3 : Int32).toInt u1.toInt u2.toInt u3.toInt vJ6.toInt).toInt = 0) => absurd (congrArg Int32.toInt (own_co0 (by simp only [show ((0 : Int32).toInt) = 0 from by decide, show ((1 : Int32).toInt) = 1 from by decide, show ((2 : Int32).toInt) = 2 from by decide, show ((3 : Int32).toInt) = 3 from by decide]; omega))) hc210) (fun hc210 => ?_)
          refine OwnK.iconst X115 hx (hb hby at_213) (pc' := 214) rfl (v := (1 : Int32)) (by decide) ?_
          refine OwnK.goto_ X115 hx (hb hby at_214) (by decide) (pc' := 218) (by decide) ?_
          refine OwnK.retN_ X115 hx hret (by simp) hlk (hb hby at_218) (by decide) (by decide) ?_
          exact ⟨rfl, N116⟩
      refine OwnK.iload X106 hx (hb hby at_155) (pc' := 157) rfl (v := (3 : Int32)) rfl ?_
      refine OwnK.iconst X106 hx (hb hby at_157) (pc' := 158) rfl (v := (1 : Int32)) (by decide) ?_
      refine OwnK.icmp_lt X106 hx (hb hby at_158) (by decide) (pcT := 168) (by decide) (pc' := 161) rfl (fun (hc158 : 3 < 1) => absurd hc158 (by decide)) (fun hc158 => ?_)
      refine OwnK.iload X106 hx (hb hby at_161) (pc' := 163) rfl (v := u1) rfl ?_
      refine OwnK.iload X106 hx (hb hby at_163) (pc' := 165) rfl (v := vJ6) rfl ?_
      refine OwnK.icmp_eq X106 hx (hb hby at_165) (by decide) (pcT := 194) (by decide) (pc' := 168) rfl (fun (hc117 : u1.toInt = vJ6.toInt) => ?_) (fun (hc117 : ¬ u1.toInt = vJ6.toInt) => ?_)
      · refine OwnK.iconst X106 hx (hb hby at_194) (pc' := 195) rfl (v := (1 : Int32)) (by decide) ?_
        refine OwnK.goto_ X106 hx (hb hby at_195) (by decide) (pc' := 199) (by decide) ?_
        exact J112 _ (Or.inl ⟨rfl, by omega⟩)
      · refine OwnK.iload X106 hx (hb hby at_168) (pc' := 170) rfl (v := (3 : Int32)) rfl ?_
        refine OwnK.iconst X106 hx (hb hby at_170) (pc' := 171) rfl (v := (2 : Int32)) (by decide) ?_
        refine OwnK.icmp_lt X106 hx (hb hby at_171) (by decide) (pcT := 181) (by decide) (pc' := 174) rfl (fun (hc171 : 3 < 2) => absurd hc171 (by decide)) (fun hc171 => ?_)
        refine OwnK.iload X106 hx (hb hby at_174) (pc' := 176) rfl (v := u2) rfl ?_
        refine OwnK.iload X106 hx (hb hby at_176) (pc' := 178) rfl (v := vJ6) rfl ?_
        refine OwnK.icmp_eq X106 hx (hb hby at_178) (by decide) (pcT := 194) (by decide) (pc' := 181) rfl (fun (hc118 : u2.toInt = vJ6.toInt) => ?_) (fun (hc118 : ¬ u2.toInt = vJ6.toInt) => ?_)
        · refine OwnK.iconst X106 hx (hb hby at_194) (pc' := 195) rfl (v := (1 : Int32)) (by decide) ?_
          refine OwnK.goto_ X106 hx (hb hby at_195) (by decide) (pc' := 199) (by decide) ?_
          exact J112 _ (Or.inl ⟨rfl, by omega⟩)
        · refine OwnK.iload X106 hx (hb hby at_181) (pc' := 183) rfl (v := (3 : Int32)) rfl ?_
          refine OwnK.iconst X106 hx (hb hby at_183) (pc' := 184) rfl (v := (3 : Int32)) (by decide) ?_
          refine OwnK.icmp_lt X106 hx (hb hby at_184) (by decide) (pcT := 198) (by decide) (pc' := 187) rfl (fun (hc184 : 3 < 3) => absurd hc184 (by decide)) (fun hc184 => ?_)
          refine OwnK.iload X106 hx (hb hby at_187) (pc' := 189) rfl (v := u3) rfl ?_
          refine OwnK.iload X106 hx (hb hby at_189) (pc' := 191) rfl (v := vJ6) rfl ?_
          refine OwnK.icmp_ne X106 hx (hb hby at_191) (by decide) (pcT := 198) (by decide) (pc' := 194) rfl (fun (hc119 : ¬ u3.toInt = vJ6.toInt) => ?_) (fun (hc119 : u3.toInt = vJ6.toInt) => ?_)
          · refine OwnK.iconst X106 hx (hb hby at_198) (pc' := 199) rfl (v := (0 : Int32)) (by decide) ?_
            exact J112 _ (Or.inr ⟨rfl, by omega⟩)
          · refine OwnK.iconst X106 hx (hb hby at_194) (pc' := 195) rfl (v := (1 : Int32)) (by decide) ?_
            refine OwnK.goto_ X106 hx (hb hby at_195) (by decide) (pc' := 199) (by decide) ?_
            exact J112 _ (Or.inl ⟨rfl, by omega⟩)
  refine OwnK.iload X0 hx (hb hby at_26) (pc' := 28) rfl (v := u5) rfl ?_
  refine OwnK.if_ne X0 hx (hb hby at_28) (by decide) (pcT := 38) (by decide) (pc' := 31) rfl (fun (hc120 : ¬ u5.toInt = 0) => ?_) (fun (hc120 : u5.toInt = 0) => ?_)
  · refine OwnK.iload X0 hx (hb hby at_38) (pc' := 40) rfl (v := u5) rfl ?_
    refine OwnK.iconst X0 hx (hb hby at_40) (pc' := 41) rfl (v := (1 : Int32)) (by decide) ?_
    refine OwnK.icmp_ne X0 hx (hb hby at_41) (by decide) (pcT := 51) (by decide) (pc' := 44) rfl (fun (hc121 : ¬ u5.toInt = 1) => ?_) (fun (hc121 : u5.toInt = 1) => ?_)
    · refine OwnK.iload X0 hx (hb hby at_51) (pc' := 53) rfl (v := u5) rfl ?_
      refine OwnK.iconst X0 hx (hb hby at_53) (pc' := 54) rfl (v := (2 : Int32)) (by decide) ?_
      refine OwnK.icmp_ne X0 hx (hb hby at_54) (by decide) (pcT := 64) (by decide) (pc' := 57) rfl (fun (hc122 : ¬ u5.toInt = 2) => ?_) (fun (hc122 : u5.toInt = 2) => ?_)
      · refine OwnK.iload X0 hx (hb hby at_64) (pc' := 66) rfl (v := u3) rfl ?_
        refine OwnK.istore X0 hx (hb hby at_66) (pc' := 68) rfl (Ls' := #[.val (.int p0), .val (.int p1), .val (.int p2), .val (.int p3), .val (.int p4), .val (.int u1), .val (.int u2), .val (.int u3), .val (.int u4), .val (.int u5), .val (.int u3), .unset, .unset, .unset]) rfl ?_
        exact J6 _
      · refine OwnK.iload X0 hx (hb hby at_57) (pc' := 59) rfl (v := u2) rfl ?_
        refine OwnK.istore X0 hx (hb hby at_59) (pc' := 61) rfl (Ls' := #[.val (.int p0), .val (.int p1), .val (.int p2), .val (.int p3), .val (.int p4), .val (.int u1), .val (.int u2), .val (.int u3), .val (.int u4), .val (.int u5), .val (.int u2), .unset, .unset, .unset]) rfl ?_
        refine OwnK.goto_ X0 hx (hb hby at_61) (by decide) (pc' := 68) (by decide) ?_
        exact J6 _
    · refine OwnK.iload X0 hx (hb hby at_44) (pc' := 46) rfl (v := u1) rfl ?_
      refine OwnK.istore X0 hx (hb hby at_46) (pc' := 48) rfl (Ls' := #[.val (.int p0), .val (.int p1), .val (.int p2), .val (.int p3), .val (.int p4), .val (.int u1), .val (.int u2), .val (.int u3), .val (.int u4), .val (.int u5), .val (.int u1), .unset, .unset, .unset]) rfl ?_
      refine OwnK.goto_ X0 hx (hb hby at_48) (by decide) (pc' := 68) (by decide) ?_
      exact J6 _
  · refine OwnK.iloadN X0 hx (hb hby at_31) (pc' := 32) rfl (v := p3) rfl ?_
    refine OwnK.i2b X0 hx (hb hby at_32) (pc' := 33) rfl ?_
    refine OwnK.istore X0 hx (hb hby at_33) (pc' := 35) rfl (Ls' := #[.val (.int p0), .val (.int p1), .val (.int p2), .val (.int p3), .val (.int p4), .val (.int u1), .val (.int u2), .val (.int u3), .val (.int u4), .val (.int u5), .val (.int (p3.toInt8.toInt32)), .unset, .unset, .unset]) rfl ?_
    refine OwnK.goto_ X0 hx (hb hby at_35) (by decide) (pc' := 68) (by decide) ?_
    exact J6 _
set_option maxRecDepth 65536 in
set_option maxHeartbeats 40000000 in
theorem comes_1 {Post : Tables → Env → Array Value → State → Outcome → State → Prop} (hpost : ∀ tb e args s v u, (limb_1_1.after args s (.returned v) u = true ∧ limb_1_2.after args s (.returned v) u = true ∧ True) → FrameEnd s (.returned v) u (Jvm.fieldLocs frame_1_writes args s ++ Jvm.arrayLocs frame_1_arrays args s ++ Jvm.staticLocs frame_1_statics s) 16 128 → Post tb e args s (.returned v) u) :
    ArmFor flags0 classFile x code maxLocals ret World_1 tables_1 room_1 Calls_1 rest_1 Pre_1 Post := by
  intro l hfl _ _ p e ha hc hk s m args below hf hA hF happ hP
  obtain ⟨hcalls, hrest, hpre⟩ := hP
  obtain ⟨-, -, -, hnamed, -, -, -, hat⟩ := (Spec.applies_iff hf).mp happ
  obtain ⟨hg, hn⟩ := and_e (Cond.before_iff.mp (show (Jvm.Cond.and given_1 narrow_1).before args s = true from hpre))
  obtain ⟨hcnt, hg0⟩ := and_e hg
  obtain ⟨ha0, hg1⟩ := and_e hg0
  obtain ⟨ha1, hg2⟩ := and_e hg1
  obtain ⟨ha2, hg3⟩ := and_e hg2
  obtain ⟨ha3, hg4⟩ := and_e hg3
  have ha4 := hg4
  obtain ⟨w0, w1, w2, w3, w4, rfl⟩ : ∃ w0 w1 w2 w3 w4 : Value, args = #[w0, w1, w2, w3, w4] := by
    have hs : args.size = 5 := by simpa [Cond.value, given_1] using hcnt
    obtain ⟨L⟩ := args
    match L, hs with
    | [w0, w1, w2, w3, w4], _ => exact ⟨w0, w1, w2, w3, w4, rfl⟩
  have hw := fun d (hd : d ∈ tables_1) => atoms_spec (ws := Jvm.Cond.code x code maxLocals ret :: tables_1) hat d (List.mem_cons_of_mem _ hd)
  have hfit : Fit s := fun {y c} hc i hi => by
    obtain ⟨ha, rfl⟩ := Array.getElem?_eq_some_iff.mp hc
    have q := List.all_eq_true.mp ((Array.all_eq_true_iff_forall_mem.mp hF) _ (Array.getElem_mem ha)) i (List.mem_range.mpr hi)
    simpa [Array.getElem?_eq_getElem hi] using q
  obtain ⟨i0, e0⟩ := is_v ha0
  obtain rfl : w0 = (.int i0) := Option.some.inj e0
  obtain ⟨i1, e1⟩ := is_v ha1
  obtain rfl : w1 = (.int i1) := Option.some.inj e1
  obtain ⟨i2, e2⟩ := is_v ha2
  obtain rfl : w2 = (.int i2) := Option.some.inj e2
  obtain ⟨i3, e3⟩ := is_v ha3
  obtain rfl : w3 = (.int i3) := Option.some.inj e3
  obtain ⟨i4, e4⟩ := is_v ha4
  obtain rfl : w4 = (.int i4) := Option.some.inj e4
  obtain ⟨n, o, h1, h2, h3, _, L, rfl, ⟨rfl, N⟩, hq⟩ := own_law l s _ hw tables_1 s.heap s.heap.size (Nat.le_refl _) i0 i1 i2 i3 i4  p e ha hc hk s m _ below hf ((Spec.applies_iff_loose hf).mp happ).1 ⟨rfl, State.Warmed39.refl s, rfl⟩ trivial
  refine ⟨n, _, h1, h2, h3, hpost _ _ _ _ _ _ ⟨Cond.after_iff.mpr rfl, Cond.after_iff.mpr (eq_i res_at (Term.int_eval (1)) rfl), trivial⟩ ⟨hq.1, hq.2.1, (hq.2.2.sift fun y hy => Or.inr (N y hy)).mono (by decide) (by decide)⟩⟩
theorem main_1_1 : Claimed_1_1 := comes_1 fun _ _ _ _ _ _ h hF => ⟨h.1, hF⟩
theorem main_1_2 : Claimed_1_2 := comes_1 fun _ _ _ _ _ _ h hF => ⟨h.2.1, hF⟩
end Jvm.Pilot.@@N@@
namespace Jvm.Pilot.@@N@@
open Jvm Jvm.ClassFile Sem Op Lib Jvm.Free Jvm.Stand Jvm.Pilot.@@N@@.Jvm.D
/-! MADE BY PROGRAM (witnessworld.py) out of the Statement's table words and the real class files: 9 classes; the members and pool entries that the words name. The judged class is class 1, her method 1. -/
namespace start1
open Jvm.ClassFile
def u (s : String) : CpInfo := .utf8 (stringToUtf16 s)
/-- a pool by its gaps: so many unusable entries, then the entry; so many at the end -/
def gap : Nat → List CpInfo → List CpInfo
  | 0, r => r
  | n + 1, r => .unusable :: gap n r
def poolList (es : List (Nat × CpInfo)) (last : Nat) : List CpInfo := es.foldr (fun e r => gap e.1 (e.2 :: r)) (gap last [])
def pool (es : List (Nat × CpInfo)) (last : Nat) : Array CpInfo := ⟨poolList es last⟩
def fileOf (pool : Array CpInfo) (this : Nat) (attrs : Array Attribute := #[]) (ms : Array MethodInfo := #[]) (fl : Nat := 33) (sup : Nat := 0) (ifs : Array Nat := #[]) (fds : Array FieldInfo := #[]) : ClassFile where
  minorVersion := 0
  majorVersion := 65
  constantPool := pool
  accessFlags := fl
  thisClass := this
  superClass := sup
  interfaces := ifs
  fields := fds
  methods := ms
  attributes := attrs
def plain (name : String) (sup : Option ClassId) : Class where
  name := name
  kind := .ordinary
  loader := none
  accessFlags := 33
  super := sup
  interfaces := #[]
  cf := none
  fields := #[]
  methods := #[]
  instanceTypes := #[]
  staticTypes := #[]
  resolved := #[]
  callSites := []
  init := .initialized
  statics := none
  mirror := none

def pool0 : Array CpInfo := pool [(5, u "<init>"), (0, u "()V"), (1, .class_ 10), (1, u "java/lang/Object"), (85, u "clone"), (0, u "()Ljava/lang/Object;")] 26

def k0c0 : Code := { maxStack := 0, maxLocals := 1, code := object_method_1_code, exceptionTable := #[], attributes := #[] }
def k0m0 : Method := { name := "<init>", desc := "()V", sig := { parameters := [], returnType := none }, accessFlags := 1, code := some k0c0 }
def k0m1 : Method := { name := "clone", desc := "()Ljava/lang/Object;", sig := { parameters := [], returnType := some (.object "java/lang/Object") }, accessFlags := 260, code := none }
/-- java/lang/Object -/
def k0 : Class := { plain "java/lang/Object" none with
  accessFlags := 33
  interfaces := #[]
  cf := some (fileOf pool0 8 #[] #[{ accessFlags := 1, nameIndex := 5, descriptorIndex := 6, attributes := #[] }, { accessFlags := 260, nameIndex := 96, descriptorIndex := 97, attributes := #[] }] 33 0 #[] #[])
  fields := #[]
  methods := #[k0m0, k0m1]
  instanceTypes := #[]
  staticTypes := #[]
  resolved := Array.replicate 124 none
  statics := none }

def pool1 : Array CpInfo := pool [(2, .class_ 4), (1, u "java/lang/Object"), (0, u "<init>"), (0, u "()V"), (0, .class_ 8), (0, u "com/example/ferryway/ferryway/tool/ByteString"), (0, .methodref 7 10), (0, .nameAndType 5 11), (0, u "([B)V"), (0, .methodref 7 13), (0, .nameAndType 14 15), (0, u "contains"), (0, u "(B)Z"), (0, .class_ 17), (0, u "com/example/ferryway/ferryway/tool/ByteStringContainsPinLaw"), (2, u "law"), (0, u "(IIIII)Z")] 5

def k1m0 : Method := { name := "<init>", desc := "()V", sig := { parameters := [], returnType := none }, accessFlags := 1, code := none }
def k1c1 : Code := { maxStack := 4, maxLocals := 14, code := code, exceptionTable := #[], attributes := #[] }
def k1m1 : Method := { name := "law", desc := "(IIIII)Z", sig := { parameters := [.int, .int, .int, .int, .int], returnType := some .boolean }, accessFlags := 9, code := some k1c1 }
/-- com/example/ferryway/ferryway/tool/ByteStringContainsPinLaw -/
def k1 : Class := { plain "com/example/ferryway/ferryway/tool/ByteStringContainsPinLaw" (some 0) with
  accessFlags := 49
  interfaces := #[]
  cf := some (fileOf pool1 16 #[] #[{ accessFlags := 1, nameIndex := 5, descriptorIndex := 6, attributes := #[] }, { accessFlags := 9, nameIndex := 20, descriptorIndex := 21, attributes := #[] }] 49 2 #[] #[])
  fields := #[]
  methods := #[k1m0, k1m1]
  instanceTypes := #[]
  staticTypes := #[]
  resolved := Array.replicate 27 none
  statics := none }

def pool2 : Array CpInfo := pool [(1, .methodref 2 3), (0, .class_ 4), (0, .nameAndType 5 6), (0, u "java/lang/Object"), (0, u "<init>"), (0, u "()V"), (0, .methodref 8 9), (0, .class_ 10), (0, .nameAndType 11 12), (0, u "[B"), (0, u "clone"), (0, u "()Ljava/lang/Object;"), (0, .fieldref 14 15), (0, .class_ 16), (0, .nameAndType 17 10), (0, u "com/example/ferryway/ferryway/tool/ByteString"), (0, u "bytes"), (21, u "([B)V"), (3, u "contains"), (0, u "(B)Z")] 7

def k2c0 : Code := { maxStack := 2, maxLocals := 2, code := prog_24_method_1_code, exceptionTable := #[], attributes := #[] }
def k2m0 : Method := { name := "<init>", desc := "([B)V", sig := { parameters := [(.array .byte)], returnType := none }, accessFlags := 0, code := some k2c0 }
def k2c1 : Code := { maxStack := 2, maxLocals := 6, code := prog_24_method_3_code, exceptionTable := #[], attributes := #[] }
def k2m1 : Method := { name := "contains", desc := "(B)Z", sig := { parameters := [.byte], returnType := some .boolean }, accessFlags := 0, code := some k2c1 }
/-- com/example/ferryway/ferryway/tool/ByteString -/
def k2 : Class := { plain "com/example/ferryway/ferryway/tool/ByteString" (some 0) with
  accessFlags := 48
  interfaces := #[]
  cf := some (fileOf pool2 14 #[] #[{ accessFlags := 0, nameIndex := 5, descriptorIndex := 39, attributes := #[] }, { accessFlags := 0, nameIndex := 43, descriptorIndex := 44, attributes := #[] }] 48 2 #[] #[{ accessFlags := 18, nameIndex := 17, descriptorIndex := 10, attributes := #[] }])
  fields := #[{ name := "bytes", type := (.array .byte), accessFlags := 18, slot := 0, constantValue := 0 }]
  methods := #[k2m0, k2m1]
  instanceTypes := #[(.array .byte)]
  staticTypes := #[]
  resolved := Array.replicate 52 none
  statics := none }

def pool3 : Array CpInfo := pool [(1, .class_ 2), (0, u "java/lang/Cloneable"), (0, .class_ 4), (0, u "java/lang/Object")] 2

/-- java/lang/Cloneable -/
def k3 : Class := { plain "java/lang/Cloneable" (some 0) with
  accessFlags := 1537
  interfaces := #[]
  cf := some (fileOf pool3 1 #[] #[] 1537 3 #[] #[])
  fields := #[]
  methods := #[]
  instanceTypes := #[]
  staticTypes := #[]
  resolved := Array.replicate 7 none
  statics := none }

def pool4 : Array CpInfo := pool [(1, u "java/io/Serializable"), (0, .class_ 1), (0, u "java/lang/Object"), (0, .class_ 3)] 3

/-- java/io/Serializable -/
def k4 : Class := { plain "java/io/Serializable" (some 0) with
  accessFlags := 1537
  interfaces := #[]
  cf := some (fileOf pool4 2 #[] #[] 1537 4 #[] #[])
  fields := #[]
  methods := #[]
  instanceTypes := #[]
  staticTypes := #[]
  resolved := Array.replicate 8 none
  statics := none }

/-- the primitive byte -/
def k5 : Class := { plain "byte" none with kind := .primitive 'B', accessFlags := 0x411 }
/-- [B -/
def k6 : Class := { plain "[B" (some 0) with kind := .array 5 .byte, interfaces := #[3, 4], accessFlags := 1041 }

/-- the primitive int -/
def k7 : Class := { plain "int" none with kind := .primitive 'I', accessFlags := 0x411 }
/-- [I -/
def k8 : Class := { plain "[I" (some 0) with kind := .array 7 .int, interfaces := #[3, 4], accessFlags := 1041 }

def heap : Heap := #[]
def classes : Array Class := #[k0, k1, k2, k3, k4, k5, k6, k7, k8]
def interned : List (Array UInt16 × Addr) := []
def slotsUsed : Nat := 0
def theMethod : MethodId := ⟨1, 1⟩
def args0 : Array Value := #[.int 5, .int 300, .int 7, .int 5, .int 6]
def aboutOver (below : List Frame) : State where
  vm := { classes := classes, interned := interned.toArray }
  heap := heap
  slotsUsed := slotsUsed
  threads := #[{ frames := .invoking theMethod args0 :: below }]
def below0 : List Frame := [.native { method := ⟨0, 0⟩, args := #[] }]
def about1 : State := aboutOver below0
def p0 : Program := .bare "" "" ""
def e0 : Env := launch0.env 0 0 0
theorem w_frames : about1.frames = Frame.invoking theMethod args0 :: below0 := rfl
set_option maxRecDepth 65536 in
theorem w_args : argsFit about1.vm theMethod args0 = true := by decide +kernel
set_option maxRecDepth 65536 in
theorem w_heap : heapFits about1 = true := by decide +kernel
set_option maxRecDepth 65536 in
theorem w_runnable : about1.curStatus? = some .runnable := by decide +kernel
set_option maxRecDepth 65536 in
theorem w_alone : about1.alone = true := by decide +kernel
set_option maxRecDepth 65536 in
theorem w_named : about1.methodNamed? x = some theMethod := by decide +kernel
set_option maxRecDepth 65536 in
theorem w_hears : about1.hears theMethod below0 = true := by decide +kernel
set_option maxRecDepth 65536 in
theorem w_ripe : about1.ripe theMethod args0 below0 = true := by decide +kernel
theorem w_running : about1.status = .running := rfl
set_option maxRecDepth 65536 in
theorem w_room : about1.hasRoom e0.platform room_1 = true :=
  launch0.hasRoom_least _ room_1 (by decide +kernel) (by decide +kernel) (by decide +kernel) (by decide +kernel) (by decide +kernel) (by decide +kernel)
theorem allAtoms_all (ts : List Jvm.Cond) (a : Array Jvm.Value) (st : Jvm.State) : (allAtoms ts).before a st = ts.all (fun c => c.before a st) := by
  induction ts with
  | nil => rfl
  | cons c t ih =>
    show (Jvm.Cond.and c (allAtoms t)).before a st = _
    rw [Jvm.Cond.before_and, ih, List.all_cons]
def words1 : List Jvm.Cond := Jvm.Cond.code x code maxLocals ret :: tables_1
/-- a 'code' word, met by the world's own term for the bytes: nothing is compared byte by byte -/
theorem code_word {y : MethodName} {bytes : ByteArray} {mx : Nat} {rt : Option FieldType} {a : Array Value} {s : State} {m : MethodId} {meth : Method} {c : Code} (h1 : s.methodNamed? y = some m) (h2 : s.vm.method? m = some meth) (h3 : meth.code = some c) (h4 : c.code = bytes)
    (h5 : (c.maxLocals == mx && c.exceptionTable.isEmpty && decide (c.maxStack ≤ mostOperands) && decide (meth.sig.returnType = rt) && !meth.locks && decide (parseMethodDescriptor y.desc = some meth.sig)) = true) : (Jvm.Cond.code y bytes mx rt).before a s = true := by
  simp only [Bool.and_eq_true, beq_iff_eq, Bool.not_eq_true', decide_eq_true_eq] at h5
  obtain ⟨⟨⟨⟨⟨g1, g2⟩, g3⟩, g4⟩, g5⟩, g6⟩ := h5
  simp [Cond.before, Cond.holds, Cond.value, h1, h2, h3, h4, g1, g2, g3, g4, g5, g6]
def isCode : Jvm.Cond → Bool
  | .code _ _ _ _ => true
  | _ => false
theorem all_split {L : List Jvm.Cond} {P : Jvm.Cond → Bool} (h1 : L.all (fun c => isCode c || P c) = true) (h2 : ∀ c ∈ L.filter isCode, P c = true) : L.all P = true := by
  refine List.all_eq_true.mpr fun c hc => ?_
  have h := List.all_eq_true.mp h1 c hc
  rcases Bool.eq_false_or_eq_true (isCode c) with hi | hi
  · exact h2 c (List.mem_filter.mpr ⟨hc, hi⟩)
  · simpa [hi] using h
set_option maxRecDepth 65536 in
theorem w_c0 : (Jvm.Cond.code x code maxLocals ret).before args0 about1 = true := code_word (m := ⟨1, 1⟩) (meth := k1m1) (c := k1c1) (by decide +kernel) rfl rfl rfl (by decide +kernel)
set_option maxRecDepth 65536 in
theorem w_c1 : (Jvm.Cond.code ({ cls := "com/example/ferryway/ferryway/tool/ByteString", name := "<init>", desc := "([B)V" } : Jvm.MethodName) prog_24_method_1_code (2 : Nat) (Option.none : Option Jvm.ClassFile.FieldType)).before args0 about1 = true := code_word (m := ⟨2, 0⟩) (meth := k2m0) (c := k2c0) (by decide +kernel) rfl rfl rfl (by decide +kernel)
set_option maxRecDepth 65536 in
theorem w_c2 : (Jvm.Cond.code ({ cls := "java/lang/Object", name := "<init>", desc := "()V" } : Jvm.MethodName) object_method_1_code (1 : Nat) (Option.none : Option Jvm.ClassFile.FieldType)).before args0 about1 = true := code_word (m := ⟨0, 0⟩) (meth := k0m0) (c := k0c0) (by decide +kernel) rfl rfl rfl (by decide +kernel)
set_option maxRecDepth 65536 in
theorem w_c3 : (Jvm.Cond.code ({ cls := "com/example/ferryway/ferryway/tool/ByteString", name := "contains", desc := "(B)Z" } : Jvm.MethodName) prog_24_method_3_code (6 : Nat) (Option.some Jvm.ClassFile.FieldType.boolean)).before args0 about1 = true := code_word (m := ⟨2, 1⟩) (meth := k2m1) (c := k2c1) (by decide +kernel) rfl rfl rfl (by decide +kernel)
def codes1 : List Jvm.Cond := [Jvm.Cond.code x code maxLocals ret, Jvm.Cond.code ({ cls := "com/example/ferryway/ferryway/tool/ByteString", name := "<init>", desc := "([B)V" } : Jvm.MethodName) prog_24_method_1_code (2 : Nat) (Option.none : Option Jvm.ClassFile.FieldType), Jvm.Cond.code ({ cls := "java/lang/Object", name := "<init>", desc := "()V" } : Jvm.MethodName) object_method_1_code (1 : Nat) (Option.none : Option Jvm.ClassFile.FieldType), Jvm.Cond.code ({ cls := "com/example/ferryway/ferryway/tool/ByteString", name := "contains", desc := "(B)Z" } : Jvm.MethodName) prog_24_method_3_code (6 : Nat) (Option.some Jvm.ClassFile.FieldType.boolean)]
set_option maxRecDepth 65536 in
theorem codes_eq : words1.filter isCode = codes1 := rfl
theorem w_codes : ∀ c ∈ words1.filter isCode, c.before args0 about1 = true := by
  rw [codes_eq]
  intro c hc
  simp only [codes1, List.mem_cons, List.not_mem_nil, or_false] at hc
  rcases hc with rfl | rfl | rfl | rfl
  · exact w_c0
  · exact w_c1
  · exact w_c2
  · exact w_c3
set_option maxRecDepth 65536 in
theorem w_t1 : (words1.take 24).all (fun c => isCode c || c.before args0 about1) = true := by decide +kernel
set_option maxRecDepth 65536 in
theorem w_t2 : (words1.drop 24).all (fun c => isCode c || c.before args0 about1) = true := by decide +kernel
theorem w_tables : (allAtoms (Jvm.Cond.code x code maxLocals ret :: tables_1)).before args0 about1 = true := by
  rw [allAtoms_all]
  show words1.all (fun c => c.before args0 about1) = true
  refine all_split ?_ w_codes
  rw [← List.take_append_drop 24 words1, List.all_append, w_t1, w_t2]
  rfl
set_option maxRecDepth 65536 in
theorem w_case : (Jvm.Cond.and given_1 narrow_1).before args0 about1 = true := by decide +kernel
theorem w_applies : (headSpec (Jvm.Cond.code x code maxLocals ret :: tables_1) room_1).applies x e0.platform about1 = true :=
  (Spec.applies_iff w_frames).mpr ⟨w_running, w_runnable, w_alone, w_named, w_hears, w_ripe, w_room, w_tables⟩
theorem atStart : AtStart classFile x code maxLocals ret World_1 tables_1 room_1 Calls_1 rest_1 Pre_1 launch0 p0 e0 about1 theMethod args0 below0 :=
  ⟨lists_1, trivial, launch0.admits_env _ _ _, launch0.least_env, fairChoices_fair.cas, fairChoices_fair.clock, w_frames, w_args, w_heap, w_applies, trivial, trivial, w_case⟩
end start1
theorem witness_1 : WitnessClaimed_1 := ⟨start1.p0, start1.e0, start1.about1, start1.theMethod, start1.args0, start1.below0, start1.atStart⟩
end Jvm.Pilot.@@N@@
