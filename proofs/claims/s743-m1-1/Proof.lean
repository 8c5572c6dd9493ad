import JvmDerived
import JvmDerived.Pilot.@@N@@Statement
import JvmDerived.Pilot.@@N@@Code
set_option linter.unusedVariables false
set_option linter.unusedSimpArgs false
@@BLOCK:NumsL.lean.txt@@
namespace Jvm.OwnK
open Sem ClassFile Op Lib Jvm.Stand Jvm.Free Jvm.LawKit Jvm.RoadKit Bundle
/-- from the frame f at T the run ends, and P holds of its end -/
def Go (tb : Tables) (e : Env) (below : List Frame) (P : Outcome → State → Prop) (T : State) (f : JFrame) : Prop :=
  ∃ s₂ o, Steps tb e below (T.setTop f) s₂ ∧ s₂.status = .running ∧ Ended s₂ below o ∧ P o s₂
abbrev PQ (s : State) (Q : Option Value → Heap → List Loc → Prop) (C N : Nat) : Outcome → State → Prop := fun o U' => ∃ v L, o = .returned v ∧ Q v U'.heap L ∧ FrameEnd s o U' L C N
theorem Go.st {tb : Tables} {e : Env} {below : List Frame} {P : Outcome → State → Prop} {T T' : State} {f f' : JFrame} (h : ∀ t, Steps tb e below (T'.setTop f') t → Steps tb e below (T.setTop f) t) (k : Go tb e below P T' f') : Go tb e below P T f := by
  obtain ⟨s₂, o, h1, h2⟩ := k; exact ⟨s₂, o, h _ h1, h2⟩
theorem Go.st1 {tb : Tables} {e : Env} {below : List Frame} {P : Outcome → State → Prop} {T T' : State} {f f' : JFrame} (h : Steps tb e below (T.setTop f) (T'.setTop f')) (k : Go tb e below P T' f') : Go tb e below P T f :=
  Go.st (fun t q => h.trans q) k
theorem tI {x : Int32} {n : Int} (h : x.toInt = n) : x = Int32.ofInt n := by subst h; simp
section Steps
variable {p : Program} {l : Launch} {e : Env} {R : Room} {s : State} {m : MethodId} {args : Array Value} {below : List Frame} {meth : Method} {c : Code} {T : State} {locs : List Loc} {cells slots : Nat} {P : Outcome → State → Prop} {pc pc' : Nat} {Ls : Array Slot} {S : List Value} {Z : State} {a0 : Array Value} {h : Heap}
theorem iload (X : Stand p l e R s m args below meth c T locs cells slots) (hx : p.tables.exec = Jvm.exec) {j : Nat} {v : Int32} (hd : decode c.code pc = .ok (.iload j, 2)) (hp : pc' = pc + 2) (hl : Ls[j]? = some (.val (.int v)))
    (k : Go p.tables e below P T (mkF m pc' Ls (.int v :: S))) : Go p.tables e below P T (mkF m pc Ls (S)) := by
  subst hp; exact Go.st (fun t q => XS.iload X.here hx rfl hd  hl q) k
theorem iloadN (X : Stand p l e R s m args below meth c T locs cells slots) (hx : p.tables.exec = Jvm.exec) {j : Fin 4} {v : Int32} (hd : decode c.code pc = .ok (.iload_n j, 1)) (hp : pc' = pc + 1) (hl : Ls[j.val]? = some (.val (.int v)))
    (k : Go p.tables e below P T (mkF m pc' Ls (.int v :: S))) : Go p.tables e below P T (mkF m pc Ls (S)) := by
  subst hp; exact Go.st (fun t q => XS.iloadN X.here hx rfl hd  hl q) k
theorem aload (X : Stand p l e R s m args below meth c T locs cells slots) (hx : p.tables.exec = Jvm.exec) {j : Nat} {v : Value} (hd : decode c.code pc = .ok (.aload j, 2)) (hp : pc' = pc + 2) (hl : Ls[j]? = some (.val v)) (hv : v.isRef = true)
    (k : Go p.tables e below P T (mkF m pc' Ls (v :: S))) : Go p.tables e below P T (mkF m pc Ls (S)) := by
  subst hp; exact Go.st (fun t q => XS.aload X.here hx rfl hd  hl hv q) k
theorem aloadN (X : Stand p l e R s m args below meth c T locs cells slots) (hx : p.tables.exec = Jvm.exec) {j : Fin 4} {v : Value} (hd : decode c.code pc = .ok (.aload_n j, 1)) (hp : pc' = pc + 1) (hl : Ls[j.val]? = some (.val v)) (hv : v.isRef = true)
    (k : Go p.tables e below P T (mkF m pc' Ls (v :: S))) : Go p.tables e below P T (mkF m pc Ls (S)) := by
  subst hp; exact Go.st (fun t q => XS.aloadN X.here hx rfl hd  hl hv q) k
theorem istore (X : Stand p l e R s m args below meth c T locs cells slots) (hx : p.tables.exec = Jvm.exec) {j : Nat} {v : Int32} {Ls' : Array Slot} (hd : decode c.code pc = .ok (.istore j, 2)) (hp : pc' = pc + 2) (hl : storeLocals Ls j (.int v) = some Ls')
    (k : Go p.tables e below P T (mkF m pc' Ls' (S))) : Go p.tables e below P T (mkF m pc Ls (.int v :: S)) := by
  subst hp; exact Go.st (fun t q => XS.istore X.here hx rfl hd rfl hl q) k
theorem astore (X : Stand p l e R s m args below meth c T locs cells slots) (hx : p.tables.exec = Jvm.exec) {j : Nat} {v : Value} {Ls' : Array Slot} (hd : decode c.code pc = .ok (.astore j, 2)) (hp : pc' = pc + 2) (hv : v.isRef = true) (hl : storeLocals Ls j v = some Ls')
    (k : Go p.tables e below P T (mkF m pc' Ls' (S))) : Go p.tables e below P T (mkF m pc Ls (v :: S)) := by
  subst hp; exact Go.st (fun t q => XS.astore X.here hx rfl hd rfl hv hl q) k
theorem astoreN (X : Stand p l e R s m args below meth c T locs cells slots) (hx : p.tables.exec = Jvm.exec) {j : Fin 4} {v : Value} {Ls' : Array Slot} (hd : decode c.code pc = .ok (.astore_n j, 1)) (hp : pc' = pc + 1) (hv : v.isRef = true) (hl : storeLocals Ls j.val v = some Ls')
    (k : Go p.tables e below P T (mkF m pc' Ls' (S))) : Go p.tables e below P T (mkF m pc Ls (v :: S)) := by
  subst hp; exact Go.st (fun t q => XS.astoreN X.here hx rfl hd rfl hv hl q) k
theorem istoreG (X : Stand p l e R s m args below meth c T locs cells slots) (hx : p.tables.exec = Jvm.exec) {j : Nat} {v : Int32} {Ls' : Int32 → Array Slot} (hd : decode c.code pc = .ok (.istore j, 2)) (hp : pc' = pc + 2) (hl : ∀ u, storeLocals Ls j (.int u) = some (Ls' u))
    (k : ∀ u, u = v → Go p.tables e below P T (mkF m pc' (Ls' u) (S))) : Go p.tables e below P T (mkF m pc Ls (.int v :: S)) := istore X hx hd hp (hl v) (k v rfl)
theorem iconst (X : Stand p l e R s m args below meth c T locs cells slots) (hx : p.tables.exec = Jvm.exec) {i : Int} {v : Int32} (hd : decode c.code pc = .ok (.iconst i, 1)) (hp : pc' = pc + 1) (hv : Int32.ofInt i = v)
    (k : Go p.tables e below P T (mkF m pc' Ls (.int v :: S))) : Go p.tables e below P T (mkF m pc Ls (S)) := by
  subst hp hv; exact Go.st (fun t q => XS.iconst X.here hx rfl hd q) k
theorem bipush (X : Stand p l e R s m args below meth c T locs cells slots) (hx : p.tables.exec = Jvm.exec) {i : Int} {v : Int32} (hd : decode c.code pc = .ok (.bipush i, 2)) (hp : pc' = pc + 2) (hv : (Int8.ofInt i).toInt32 = v)
    (k : Go p.tables e below P T (mkF m pc' Ls (.int v :: S))) : Go p.tables e below P T (mkF m pc Ls (S)) := by
  subst hp hv; exact Go.st (fun t q => XS.bipush X.here hx rfl hd q) k
theorem sipush (X : Stand p l e R s m args below meth c T locs cells slots) (hx : p.tables.exec = Jvm.exec) {i : Int} {v : Int32} (hd : decode c.code pc = .ok (.sipush i, 3)) (hp : pc' = pc + 3) (hv : (Int16.ofInt i).toInt32 = v)
    (k : Go p.tables e below P T (mkF m pc' Ls (.int v :: S))) : Go p.tables e below P T (mkF m pc Ls (S)) := by
  subst hp hv; exact Go.st (fun t q => XS.sipush X.here hx rfl hd q) k
theorem iadd (X : Stand p l e R s m args below meth c T locs cells slots) (hx : p.tables.exec = Jvm.exec) {x y : Int32} (hd : decode c.code pc = .ok (.iadd, 1)) (hp : pc' = pc + 1)
    (k : Go p.tables e below P T (mkF m pc' Ls (.int (x + y) :: S))) : Go p.tables e below P T (mkF m pc Ls (.int y :: .int x :: S)) := by
  subst hp; exact Go.st (fun t q => XS.iadd X.here hx rfl hd rfl  q) k
theorem isub (X : Stand p l e R s m args below meth c T locs cells slots) (hx : p.tables.exec = Jvm.exec) {x y : Int32} (hd : decode c.code pc = .ok (.isub, 1)) (hp : pc' = pc + 1)
    (k : Go p.tables e below P T (mkF m pc' Ls (.int (x - y) :: S))) : Go p.tables e below P T (mkF m pc Ls (.int y :: .int x :: S)) := by
  subst hp; exact Go.st (fun t q => XS.isub X.here hx rfl hd rfl  q) k
theorem iand (X : Stand p l e R s m args below meth c T locs cells slots) (hx : p.tables.exec = Jvm.exec) {x y : Int32} (hd : decode c.code pc = .ok (.iand, 1)) (hp : pc' = pc + 1)
    (k : Go p.tables e below P T (mkF m pc' Ls (.int (x &&& y) :: S))) : Go p.tables e below P T (mkF m pc Ls (.int y :: .int x :: S)) := by
  subst hp; exact Go.st (fun t q => XS.iand X.here hx rfl hd rfl  q) k
theorem dup (X : Stand p l e R s m args below meth c T locs cells slots) (hx : p.tables.exec = Jvm.exec) {x : Value} (hd : decode c.code pc = .ok (.dup, 1)) (hp : pc' = pc + 1) (hc : x.category = 1)
    (k : Go p.tables e below P T (mkF m pc' Ls (x :: x :: S))) : Go p.tables e below P T (mkF m pc Ls (x :: S)) := by
  subst hp; exact Go.st (fun t q => XS.dup X.here hx rfl hd rfl hc q) k
theorem goto_ (X : Stand p l e R s m args below meth c T locs cells slots) (hx : p.tables.exec = Jvm.exec) {o : Int} (hd : decode c.code pc = .ok (.goto o, 3)) (ho : 0 ≤ (pc : Int) + o) (hp : ((pc : Int) + o).toNat = pc')
    (k : Go p.tables e below P T (mkF m pc' Ls (S))) : Go p.tables e below P T (mkF m pc Ls (S)) :=
  Go.st (fun t q => XS.goto X.here hx rfl rfl hd ho hp q) k
theorem h_lt (x y : Int32) : if_icmp.holds .lt x y = decide (x.toInt < y.toInt) := by simp [if_icmp.holds, Int32.lt_iff_toInt_lt]
theorem h_gt (x y : Int32) : if_icmp.holds .gt x y = decide (y.toInt < x.toInt) := by simp [if_icmp.holds, Int32.lt_iff_toInt_lt]
theorem h_le (x y : Int32) : if_icmp.holds .le x y = decide (x.toInt ≤ y.toInt) := by simp [if_icmp.holds, Int32.le_iff_toInt_le]
theorem h_eq (x y : Int32) : if_icmp.holds .eq x y = decide (x.toInt = y.toInt) := by rw [Bool.eq_iff_iff]; simp [if_icmp.holds, Int32.toInt_inj]
theorem h_ne (x y : Int32) : if_icmp.holds .ne x y = decide (¬ x.toInt = y.toInt) := by rw [Bool.eq_iff_iff]; simp [if_icmp.holds, Int32.toInt_inj]
theorem z_any (cd : ClassFile.Cond) (x : Int32) : ifCond.holds cd x = if_icmp.holds cd x 0 := by cases cd <;> simp [ifCond.holds, if_icmp.holds]
theorem z0 : (0 : Int32).toInt = 0 := by decide
theorem icmp_lt (X : Stand p l e R s m args below meth c T locs cells slots) (hx : p.tables.exec = Jvm.exec) {o : Int} {x y : Int32} {pcT : Nat} (hd : decode c.code pc = .ok (.if_icmp .lt o, 3)) (ho : 0 ≤ (pc : Int) + o) (hT : ((pc : Int) + o).toNat = pcT) (hp : pc' = pc + 3)
    (kt : x.toInt < y.toInt → Go p.tables e below P T (mkF m pcT Ls (S))) (kf : y.toInt ≤ x.toInt → Go p.tables e below P T (mkF m pc' Ls (S))) : Go p.tables e below P T (mkF m pc Ls (.int y :: .int x :: S)) := by
  subst hp
  by_cases q : x.toInt < y.toInt
  · exact Go.st (fun t r => XS.icmpYes X.here hx rfl rfl hd rfl (by rw [h_lt]; exact decide_eq_true q) ho hT r) (kt q)
  · exact Go.st (fun t r => XS.icmpNo X.here hx rfl hd rfl (by rw [h_lt]; exact decide_eq_false q) r) (kf (by omega))
theorem icmp_gt (X : Stand p l e R s m args below meth c T locs cells slots) (hx : p.tables.exec = Jvm.exec) {o : Int} {x y : Int32} {pcT : Nat} (hd : decode c.code pc = .ok (.if_icmp .gt o, 3)) (ho : 0 ≤ (pc : Int) + o) (hT : ((pc : Int) + o).toNat = pcT) (hp : pc' = pc + 3)
    (kt : y.toInt < x.toInt → Go p.tables e below P T (mkF m pcT Ls (S))) (kf : x.toInt ≤ y.toInt → Go p.tables e below P T (mkF m pc' Ls (S))) : Go p.tables e below P T (mkF m pc Ls (.int y :: .int x :: S)) := by
  subst hp
  by_cases q : y.toInt < x.toInt
  · exact Go.st (fun t r => XS.icmpYes X.here hx rfl rfl hd rfl (by rw [h_gt]; exact decide_eq_true q) ho hT r) (kt q)
  · exact Go.st (fun t r => XS.icmpNo X.here hx rfl hd rfl (by rw [h_gt]; exact decide_eq_false q) r) (kf (by omega))
theorem if_le (X : Stand p l e R s m args below meth c T locs cells slots) (hx : p.tables.exec = Jvm.exec) {o : Int} {x : Int32} {pcT : Nat} (hd : decode c.code pc = .ok (.ifCond .le o, 3)) (ho : 0 ≤ (pc : Int) + o) (hT : ((pc : Int) + o).toNat = pcT) (hp : pc' = pc + 3)
    (kt : x.toInt ≤ 0 → Go p.tables e below P T (mkF m pcT Ls (S))) (kf : 0 < x.toInt → Go p.tables e below P T (mkF m pc' Ls (S))) : Go p.tables e below P T (mkF m pc Ls (.int x :: S)) := by
  subst hp
  by_cases q : x.toInt ≤ 0
  · exact Go.st (fun t r => XS.ifYes X.here hx rfl rfl hd rfl (by rw [z_any, h_le, z0]; exact decide_eq_true q) ho hT r) (kt q)
  · exact Go.st (fun t r => XS.ifNo X.here hx rfl hd rfl (by rw [z_any, h_le, z0]; exact decide_eq_false q) r) (kf (by omega))
theorem if_eq (X : Stand p l e R s m args below meth c T locs cells slots) (hx : p.tables.exec = Jvm.exec) {o : Int} {x : Int32} {pcT : Nat} (hd : decode c.code pc = .ok (.ifCond .eq o, 3)) (ho : 0 ≤ (pc : Int) + o) (hT : ((pc : Int) + o).toNat = pcT) (hp : pc' = pc + 3)
    (kt : x.toInt = 0 → Go p.tables e below P T (mkF m pcT Ls (S))) (kf : ¬ x.toInt = 0 → Go p.tables e below P T (mkF m pc' Ls (S))) : Go p.tables e below P T (mkF m pc Ls (.int x :: S)) := by
  subst hp
  by_cases q : x.toInt = 0
  · exact Go.st (fun t r => XS.ifYes X.here hx rfl rfl hd rfl (by rw [z_any, h_eq, z0]; exact decide_eq_true q) ho hT r) (kt q)
  · exact Go.st (fun t r => XS.ifNo X.here hx rfl hd rfl (by rw [z_any, h_eq, z0]; exact decide_eq_false q) r) (kf (by omega))
theorem icmp_ne (X : Stand p l e R s m args below meth c T locs cells slots) (hx : p.tables.exec = Jvm.exec) {o : Int} {x y : Int32} {pcT : Nat} (hd : decode c.code pc = .ok (.if_icmp .ne o, 3)) (ho : 0 ≤ (pc : Int) + o) (hT : ((pc : Int) + o).toNat = pcT) (hp : pc' = pc + 3)
    (kt : ¬ x.toInt = y.toInt → Go p.tables e below P T (mkF m pcT Ls (S))) (kf : x.toInt = y.toInt → Go p.tables e below P T (mkF m pc' Ls (S))) : Go p.tables e below P T (mkF m pc Ls (.int y :: .int x :: S)) := by
  subst hp
  by_cases q : ¬ x.toInt = y.toInt
  · exact Go.st (fun t r => XS.icmpYes X.here hx rfl rfl hd rfl (by rw [h_ne]; exact decide_eq_true q) ho hT r) (kt q)
  · exact Go.st (fun t r => XS.icmpNo X.here hx rfl hd rfl (by rw [h_ne]; exact decide_eq_false q) r) (kf (by omega))
theorem getS_ (X : Stand p l e R s m args below meth c T locs cells slots) (hx : p.tables.exec = Jvm.exec) (hZ : Z.Warmed39 s.vm) {own : String} (hown : s.vm.findClass own = some m.cls) {R0 O n d host : String} {i : Nat} (w : (Cond.fieldLink own i R0 n d).before a0 Z = true ∨ (Cond.fieldLinkNest own i R0 n d host).before a0 Z = true) (via : Via Z R0 O n d) (eT : T.heap = h) {v : Value} (F : Sta Z h O n d v) (hd : decode c.code pc = .ok (.getstatic i, 3)) (hp : pc' = pc + 3)
    (k : ∀ T', Stand p l e R s m args below meth c T' locs cells slots → T'.heap = h → Go p.tables e below P T' (mkF m pc' Ls (v :: S))) : Go p.tables e below P T (mkF m pc Ls (S)) := by
  subst hp
  obtain ⟨T', X', e', st⟩ := getS2 X hx hZ hown w via eT F (g := mkF m pc Ls S) rfl hd
  exact Go.st st (k T' X' e')
theorem putF_ (X : Stand p l e R s m args below meth c T locs cells slots) (hx : p.tables.exec = Jvm.exec) (hZ : Z.Warmed39 s.vm) {own : String} (hown : s.vm.findClass own = some m.cls) {R0 O n d C : String} {i kk : Nat} {ty : FieldType} (w : (Cond.fieldLink own i R0 n d).before a0 Z = true) (via : Via Z R0 O n d) (eT : T.heap = h) {a : Addr} {v v' old : Value} (F : Fld Z h a O n d old) (E : Exa Z h a C) (L : (Cond.lays C O n d).before a0 Z = true ∨ ((Cond.laysFinal C O n d).before a0 Z = true ∧ own = O ∧ meth.name = "<init>")) (wi : (Cond.instantiable C kk).before a0 Z = true) (hty : parseFieldDescriptor d = some ty) (hn : narrow ty v = v') (hf : fits ty v' = true) (hd : decode c.code pc = .ok (.putfield i, 3)) (hp : pc' = pc + 3)
    (k : ∀ T' h', Stand p l e R s m args below meth c T' (locs ++ [⟨a, Jvm.RoadKit.slotOf Z O n d⟩]) cells slots → T'.heap = h' → Wr h h' a (Jvm.RoadKit.slotOf Z O n d) v' → Go p.tables e below P T' (mkF m pc' Ls (S))) : Go p.tables e below P T (mkF m pc Ls (v :: .ref a :: S)) := by
  subst hp
  obtain ⟨T', h', X', e', W', st⟩ := putFN X hx hZ hown w via eT F E L wi hty hn hf (g := mkF m pc Ls (v :: .ref a :: S)) rfl rfl hd
  exact Go.st st (k T' h' X' e' W')
theorem new_ (X : Stand p l e R s m args below meth c T locs cells slots) (hx : p.tables.exec = Jvm.exec) (hZ : Z.Warmed39 s.vm) {own : String} (hown : s.vm.findClass own = some m.cls) {C : String} {i n : Nat} (w : (Cond.classLink own i C).before a0 Z = true) (wi : (Cond.instantiable C n).before a0 Z = true) (wz : (Cond.initialized C).before a0 Z = true) (eT : T.heap = h) (hd : decode c.code pc = .ok (.new i, 3)) (hp : pc' = pc + 3) (hc : cells + 1 ≤ R.cells) (hl : slots + n ≤ R.slots)
    (k : ∀ T' h' a, Stand p l e R s m args below meth c T' locs (cells + 1) (slots + n) → T'.heap = h' → a = h.size → Ext h h' → Exa Z h' a C → (∀ {O nm d : String} {ty : FieldType}, Laid Z a0 C O nm d → parseFieldDescriptor d = some ty → Fld Z h' a O nm d (defaultValue ty)) → Go p.tables e below P T' (mkF m pc' Ls (.ref a :: S))) : Go p.tables e below P T (mkF m pc Ls (S)) := by
  subst hp
  obtain ⟨T', h', X', e', E', A', D', -, st⟩ := newO X hx hZ hown w wi wz eT (g := mkF m pc Ls S) rfl hd hc hl
  exact Go.st st (k T' h' _ X' e' rfl E' A' D')
theorem jin {j z : Int32} (h0 : 0 ≤ j.toInt) (h1 : j.toInt < z.toInt) : ¬ j < 0 ∧ j < z := ⟨fun q => by have := Int32.lt_iff_toInt_lt.mp q; rw [z0] at this; omega, Int32.lt_iff_toInt_lt.mpr h1⟩
theorem jnat {j : Int32} {i : Nat} (h : j.toInt = i) : j.toNatClampNeg = i := by
  have q : ¬ j < 0 := fun q => by have := Int32.lt_iff_toInt_lt.mp q; rw [z0] at this; omega
  have := nat_of q; omega
theorem newP_ (X : Stand p l e R s m args below meth c T locs cells slots) (hx : p.tables.exec = Jvm.exec) (hZ : Z.Warmed39 s.vm) {aty : ArrayType} (w : (Cond.arrayClass (newarray.typeOf aty)).before a0 Z = true) (eT : T.heap = h) (hd : decode c.code pc = .ok (.newarray aty, 2)) (hp : pc' = pc + 2) {n : Int32} (hn : 0 ≤ n.toInt) {cap : Nat} (hcap : n.toInt ≤ cap) (hb : cap * 8 ≤ 536870912) (hc : cells + 1 ≤ R.cells) (hl : slots + cap ≤ R.slots) {ad : String} (had : "[" ++ (newarray.typeOf aty).toString = ad)
    (k : ∀ T' h' a cA, Stand p l e R s m args below meth c T' locs (cells + 1) (slots + cap) → T'.heap = h' → a = h.size → Ext h h' → Arv Z h' a cA (newarray.typeOf aty) n [] (defaultValue (newarray.typeOf aty)) → Exa Z h' a ad → Go p.tables e below P T' (mkF m pc' Ls (.ref a :: S))) : Go p.tables e below P T (mkF m pc Ls (.int n :: S)) := by
  subst hp
  have hn' : ¬ n < 0 := fun z => by have := Int32.lt_iff_toInt_lt.mp z; rw [z0] at this; omega
  obtain ⟨T', h', cA, X', e', E', A', Q', st⟩ := newPE X hx hZ w eT (g := mkF m pc Ls (.int n :: S)) rfl hd rfl hn' (cap := cap) (by have := nat_of hn'; omega) hb hc hl had
  exact Go.st st (k T' h' _ cA X' e' rfl E' (Arv.new A' hn') Q')
theorem newR_ (X : Stand p l e R s m args below meth c T locs cells slots) (hx : p.tables.exec = Jvm.exec) (hZ : Z.Warmed39 s.vm) {own : String} (hown : s.vm.findClass own = some m.cls) {C : String} {i : Nat} (w1 : (Cond.classLink own i C).before a0 Z = true) (w2 : (Cond.arrayOver (.object C)).before a0 Z = true) (eT : T.heap = h) (hd : decode c.code pc = .ok (.anewarray i, 3)) (hp : pc' = pc + 3) {n : Int32} (hn : 0 ≤ n.toInt) {cap : Nat} (hcap : n.toInt ≤ cap) (hb : cap * 8 ≤ 536870912) (hc : cells + 1 ≤ R.cells) (hl : slots + cap ≤ R.slots) {ad : String} (had : "[" ++ (FieldType.object C).toString = ad)
    (k : ∀ T' h' a cA, Stand p l e R s m args below meth c T' locs (cells + 1) (slots + cap) → T'.heap = h' → a = h.size → Ext h h' → Arv Z h' a cA (.object C) n [] .null → Exa Z h' a ad → Ovr Z cA C → Go p.tables e below P T' (mkF m pc' Ls (.ref a :: S))) : Go p.tables e below P T (mkF m pc Ls (.int n :: S)) := by
  subst hp
  have hn' : ¬ n < 0 := fun z => by have := Int32.lt_iff_toInt_lt.mp z; rw [z0] at this; omega
  obtain ⟨T', h', cA, X', e', E', A', Q', O', st⟩ := newRE X hx hZ hown w1 w2 eT (g := mkF m pc Ls (.int n :: S)) rfl hd rfl hn' (cap := cap) (by have := nat_of hn'; omega) hb hc hl had
  exact Go.st st (k T' h' _ cA X' e' rfl E' (Arv.new A' hn') Q' O')
theorem instNo_ (X : Stand p l e R s m args below meth c T locs cells slots) (hx : p.tables.exec = Jvm.exec) (hZ : Z.Warmed39 s.vm) {own : String} (hown : s.vm.findClass own = some m.cls) {C K : String} {i : Nat} (w : (Cond.classLink own i K).before a0 Z = true) (eT : T.heap = h) {a : Addr} (E : Exa Z h a C) (F : ∃ c t, Z.vm.findClass C = some c ∧ Z.vm.findClass K = some t ∧ Z.vm.assignable c t = false) (hd : decode c.code pc = .ok (.instanceof i, 3)) (hp : pc' = pc + 3)
    (k : ∀ T', Stand p l e R s m args below meth c T' locs cells slots → T'.heap = h → Go p.tables e below P T' (mkF m pc' Ls (.int 0 :: S))) : Go p.tables e below P T (mkF m pc Ls (.ref a :: S)) := by
  subst hp
  obtain ⟨T', X', e', st⟩ := instNo X hx hZ hown w eT E F (g := mkF m pc Ls (.ref a :: S)) rfl rfl hd
  exact Go.st st (k T' X' e')
theorem aaload (X : Stand p l e R s m args below meth c T locs cells slots) (hx : p.tables.exec = Jvm.exec) (hZ : Z.Warmed39 s.vm) (eT : T.heap = h) {a : Addr} {kA : ClassId} {ty : FieldType} {z j : Int32} {vs : List Value} {dv v : Value} (A : Arv Z h a kA ty z vs dv) (hty : ty.isReference = true) (h0 : 0 ≤ j.toInt) (h1 : j.toInt < z.toInt) (hv : vs.getD j.toNatClampNeg dv = v) (hd : decode c.code pc = .ok (.aaload, 1)) (hp : pc' = pc + 1)
    (k : Go p.tables e below P T (mkF m pc' Ls (v :: S))) : Go p.tables e below P T (mkF m pc Ls (.int j :: .ref a :: S)) := by
  subst hp
  obtain ⟨cl, Ar, -, Sz, Nz, H, -⟩ := A
  have hin := inb_of Sz (jin h0 h1)
  exact Go.st (fun t q => X.aaload hx (j := j) (v := v) (by rw [eT]; exact Ar.1) (State.isArrayOf_alike hZ.alike Ar.2.1) hty Ar.2.2 hin (H.at hin hv) (g := mkF m pc Ls (.int j :: .ref a :: S)) rfl rfl hd t q) k
theorem arrlen (X : Stand p l e R s m args below meth c T locs cells slots) (hx : p.tables.exec = Jvm.exec) (hZ : Z.Warmed39 s.vm) (eT : T.heap = h) {a : Addr} {kA : ClassId} {ty : FieldType} {z : Int32} {vs : List Value} {dv : Value} (A : Arv Z h a kA ty z vs dv) (hd : decode c.code pc = .ok (.arraylength, 1)) (hp : pc' = pc + 1)
    (k : Go p.tables e below P T (mkF m pc' Ls (.int z :: S))) : Go p.tables e below P T (mkF m pc Ls (.ref a :: S)) := by
  subst hp
  obtain ⟨cl, Ar, -, Sz, Nz, H, -⟩ := A
  refine Go.st (fun t q => X.arraylength hx (by rw [eT]; exact Ar.1) (State.isArrayOf_alike hZ.alike Ar.2.1) (g := mkF m pc Ls (.ref a :: S)) rfl rfl hd t q) ?_
  rw [len_of Sz Nz]
  exact k
theorem iastore (X : Stand p l e R s m args below meth c T locs cells slots) (hx : p.tables.exec = Jvm.exec) (hZ : Z.Warmed39 s.vm) (eT : T.heap = h) {a : Addr} {kA : ClassId} {z j : Int32} {x : Int32} {vs : List Value} {dv : Value} (A : Arv Z h a kA .int z vs dv) {i : Nat} (hi : j.toInt = i) (hz : (i : Int) < z.toInt) (hl : i < vs.length) (hd : decode c.code pc = .ok (.iastore, 1)) (hp : pc' = pc + 1)
    (k : ∀ T' h', Stand p l e R s m args below meth c T' (locs ++ [⟨a, j.toNatClampNeg⟩]) cells slots → T'.heap = h' → Wr h h' a j.toNatClampNeg (.int x) → Arv Z h' a kA .int z (vs.set i (.int x)) dv → Go p.tables e below P T' (mkF m pc' Ls (S))) : Go p.tables e below P T (mkF m pc Ls (.int x :: .int j :: .ref a :: S)) := by
  subst hp
  obtain ⟨cl, Ar, q1, Sz, Nz, H, G⟩ := A
  have hin := inb_of Sz (jin (j := j) (z := z) (by omega) (by omega))
  obtain ⟨T', h', X', e', W', st⟩ := stI X hx hZ eT Ar (j := j) hin (g := mkF m pc Ls (.int x :: .int j :: .ref a :: S)) rfl rfl hd
  exact Go.st st (k T' h' X' e' W' (Arv.set Ar q1 Sz Nz H G rfl W' i (jnat hi) hl))
theorem aastore (X : Stand p l e R s m args below meth c T locs cells slots) (hx : p.tables.exec = Jvm.exec) (hZ : Z.Warmed39 s.vm) (eT : T.heap = h) {a : Addr} {kA : ClassId} {ty : FieldType} {z j : Int32} {v : Value} {vs : List Value} {dv : Value} (A : Arv Z h a kA ty z vs dv) (hty : ty.isReference = true) (hfv : fits ty v = true) (F : Sto Z h a v) {i : Nat} (hi : j.toInt = i) (hz : (i : Int) < z.toInt) (hl : i < vs.length) (hd : decode c.code pc = .ok (.aastore, 1)) (hp : pc' = pc + 1)
    (k : ∀ T' h', Stand p l e R s m args below meth c T' (locs ++ [⟨a, j.toNatClampNeg⟩]) cells slots → T'.heap = h' → Wr h h' a j.toNatClampNeg v → Arv Z h' a kA ty z (vs.set i v) dv → Go p.tables e below P T' (mkF m pc' Ls (S))) : Go p.tables e below P T (mkF m pc Ls (v :: .int j :: .ref a :: S)) := by
  subst hp
  obtain ⟨cl, Ar, q1, Sz, Nz, H, G⟩ := A
  have hin := inb_of Sz (jin (j := j) (z := z) (by omega) (by omega))
  obtain ⟨T', h', X', e', W', st⟩ := stR X hx hZ eT Ar (j := j) hin hty F (g := mkF m pc Ls (v :: .int j :: .ref a :: S)) rfl rfl hd
  exact Go.st st (k T' h' X' e' W' (Arv.set Ar q1 Sz Nz H G hfv W' i (jnat hi) hl))
theorem stoOf {a y : Addr} {kA : ClassId} {ty : FieldType} {z : Int32} {vs : List Value} {dv : Value} {C : String} (A : Arv Z h a kA ty z vs dv) (O : Ovr Z kA C) (I : Ins Z h y C true) : Sto Z h a (.ref y) := by
  obtain ⟨c, Ar, q, _⟩ := A; exact Sto.ofV Ar q O I
theorem cast_ (X : Stand p l e R s m args below meth c T locs cells slots) (hx : p.tables.exec = Jvm.exec) (hZ : Z.Warmed39 s.vm) {own : String} (hown : s.vm.findClass own = some m.cls) {K : String} {i : Nat} (w : (Cond.classLink own i K).before a0 Z = true) (eT : T.heap = h) {a : Addr} (F : Ins Z h a K true) (hd : decode c.code pc = .ok (.checkcast i, 3)) (hp : pc' = pc + 3)
    (k : ∀ T', Stand p l e R s m args below meth c T' locs cells slots → T'.heap = h → Go p.tables e below P T' (mkF m pc' Ls (.ref a :: S))) : Go p.tables e below P T (mkF m pc Ls (.ref a :: S)) := by
  subst hp
  obtain ⟨T', X', e', st⟩ := castY X hx hZ hown w eT F (g := mkF m pc Ls (.ref a :: S)) rfl rfl hd
  exact Go.st st (k T' X' e')
theorem instYes (X : Stand p l e R s m args below meth c T locs cells slots) (hx : p.tables.exec = Jvm.exec) (hZ : Z.Warmed39 s.vm) {own : String} (hown : s.vm.findClass own = some m.cls) {K : String} {i : Nat} (w : (Cond.classLink own i K).before a0 Z = true) (eT : T.heap = h) {a : Addr} (F : Ins Z h a K true) (hd : decode c.code pc = .ok (.instanceof i, 3)) (hp : pc' = pc + 3)
    (k : ∀ T', Stand p l e R s m args below meth c T' locs cells slots → T'.heap = h → Go p.tables e below P T' (mkF m pc' Ls (.int 1 :: S))) : Go p.tables e below P T (mkF m pc Ls (.ref a :: S)) := by
  subst hp
  obtain ⟨T', X', e', st⟩ := instY X hx hZ hown w eT F (g := mkF m pc Ls (.ref a :: S)) rfl rfl hd
  exact Go.st st (k T' X' e')
theorem initO_ (X : Stand p l e R s m args below meth c T locs cells slots) (hx : p.tables.exec = Jvm.exec) (hZ : Z.Warmed39 s.vm) {own : String} (hown : s.vm.findClass own = some m.cls) {i : Nat} (w1 : (Cond.methodLink own i Lib.objectInit).before a0 Z = true) (w2 : (Cond.instanceMethod Lib.objectInit).before a0 Z = true) (w3 : (Cond.code Lib.objectInit ⟨#[0xb1]⟩ 1 none).before a0 Z = true) (eT : T.heap = h) (hsize : Ls.size = c.maxLocals) {a : Addr} (hd : decode c.code pc = .ok (.invokespecial i, 3)) (hp : pc' = pc + 3) (hf : 1 ≤ R.frames) {W : Nat} (hW : (S.map fun v => v.category).sum ≤ W) (hl : W + 12 ≤ R.locals)
    (k : ∀ T', Stand p l e R s m args below meth c T' locs cells slots → T'.heap = h → Go p.tables e below P T' (mkF m pc' Ls (S))) : Go p.tables e below P T (mkF m pc Ls (.ref a :: S)) := by
  subst hp
  obtain ⟨T', X', e', st⟩ := initO X hx hZ hown w1 w2 w3 eT (g := mkF m pc Ls (.ref a :: S)) rfl hsize rfl hd hf (W := W) (by show 2 * 0 + _ ≤ _; simpa using hW) hl
  exact Go.st st (k T' X' e')
theorem callS_ (X : Stand p l e R s m args below meth c T locs cells slots) (hx : p.tables.exec = Jvm.exec) (hZ : Z.Warmed39 s.vm) {own : String} (hown : s.vm.findClass own = some m.cls) {y : MethodName} {i : Nat} {bytes : ByteArray} {maxL : Nat} {ret : Option FieldType} {rm : Room} {Q : Option Value → Heap → List Loc → Prop} {argsL S0 : List Value} (w1 : (Cond.methodLink own i y).before a0 Z = true) (w2 : (Cond.static y).before a0 Z = true) (w3 : (Cond.initialized y.cls).before a0 Z = true) (w4 : (Cond.code y bytes maxL ret).before a0 Z = true) (hy : y.cls ≠ "java/lang/invoke/MethodHandle" ∧ y.cls ≠ "java/lang/invoke/VarHandle") (hM : MetFree l y (head1 [Cond.code y bytes maxL ret] rm) (fun ar U => ar = argsL.toArray ∧ Z.Warmed39 U.vm ∧ U.heap = h) (fun _ _ _ _ _ => True) (fun _ U o U' => ∃ v L, o = .returned v ∧ Q v U'.heap L ∧ FrameEnd U o U' L rm.cells rm.slots)) (hf : rm.frames + 1 ≤ R.frames) {W : Nat} (hl : W + (maxL + 11) + rm.locals ≤ R.locals) (eT : T.heap = h) (hsize : Ls.size = c.maxLocals) {ps : List FieldType} {rt : Option FieldType} (hdesc : parseMethodDescriptor y.desc = some ⟨ps, rt⟩) (hlen : argsL.length = ps.length) (hS : S0 = argsL.reverse ++ S) (hW : (S.map fun v => v.category).sum ≤ W) (hd : decode c.code pc = .ok (.invokestatic i, 3)) (hp : pc' = pc + 3) (hc : cells + rm.cells ≤ R.cells) (hs : slots + rm.slots ≤ R.slots)
    (k : ∀ T' v L, Stand p l e R s m args below meth c T' (locs ++ L) (cells + rm.cells) (slots + rm.slots) → Q v T'.heap L → Go p.tables e below P T' (mkF m pc' Ls (v.toList ++ S))) : Go p.tables e below P T (mkF m pc Ls (S0)) := by
  subst hp hS
  obtain ⟨v, vm₁, ⟨T', L', k', n'⟩, -, X', ⟨L, hQ, l', y', z'⟩, st⟩ := Jvm.LawKit.callS X hx hown (mvT hZ w1) (mvT hZ w2) (mvT hZ w3) (mvT hZ w4) hy (backOf (W := W) hM hZ w4 w3 hf hl) (g := mkF m pc Ls (argsL.reverse ++ S)) rfl hsize (argsL := argsL) (rest := S) (lenOf hdesc hlen) rfl (by show 2 * 0 + _ ≤ _; simpa using hW) hd (fun _ _ => ⟨rfl, eT, hc, hs⟩)
  dsimp only [Pt.U, Pt.locs, Pt.cells, Pt.slots] at X' l' y' z' st hQ
  subst l' y' z'
  exact Go.st st (k T' v L X' hQ)
theorem callI_ (X : Stand p l e R s m args below meth c T locs cells slots) (hx : p.tables.exec = Jvm.exec) (hZ : Z.Warmed39 s.vm) {own : String} (hown : s.vm.findClass own = some m.cls) {y : MethodName} {i : Nat} {a : Addr} {bytes : ByteArray} {maxL : Nat} {ret : Option FieldType} {rm : Room} {Q : Option Value → Heap → List Loc → Prop} {argsL S0 : List Value} (hy1 : y.name = "<init>") (w1 : (Cond.methodLink own i y).before a0 Z = true) (w2 : (Cond.instanceMethod y).before a0 Z = true) (w3 : (Cond.initialized y.cls).before a0 Z = true) (w4 : (Cond.code y bytes maxL none).before a0 Z = true) (hret : ret = none) (hy : y.cls ≠ "java/lang/invoke/MethodHandle" ∧ y.cls ≠ "java/lang/invoke/VarHandle") (hM : MetFree l y (head1 [Cond.code y bytes maxL ret] rm) (fun ar U => ar = (.ref a :: argsL).toArray ∧ Z.Warmed39 U.vm ∧ U.heap = h) (fun _ _ _ _ _ => True) (fun _ U o U' => ∃ v L, o = .returned v ∧ Q v U'.heap L ∧ FrameEnd U o U' L rm.cells rm.slots)) (hf : rm.frames + 1 ≤ R.frames) {W : Nat} (hl : W + (maxL + 11) + rm.locals ≤ R.locals) (eT : T.heap = h) (hsize : Ls.size = c.maxLocals) {ps : List FieldType} {rt : Option FieldType} (hdesc : parseMethodDescriptor y.desc = some ⟨ps, rt⟩) (hlen : argsL.length = ps.length) (hS : S0 = argsL.reverse ++ .ref a :: S) (hW : (S.map fun v => v.category).sum ≤ W) (hd : decode c.code pc = .ok (.invokespecial i, 3)) (hp : pc' = pc + 3) (hc : cells + rm.cells ≤ R.cells) (hs : slots + rm.slots ≤ R.slots)
    (k : ∀ T' v L, Stand p l e R s m args below meth c T' (locs ++ L) (cells + rm.cells) (slots + rm.slots) → Q v T'.heap L → Go p.tables e below P T' (mkF m pc' Ls (v.toList ++ S))) : Go p.tables e below P T (mkF m pc Ls (S0)) := by
  subst hp hS hret
  obtain ⟨v, vm₁, ⟨T', L', k', n'⟩, -, X', ⟨L, hQ, l', y', z'⟩, st⟩ := X.specialBack hx hy1 hown (mvT hZ w1) (mvT hZ w2) (mvT hZ w4) hy (backOf (W := W) hM hZ w4 w3 hf hl) (g := mkF m pc Ls (argsL.reverse ++ .ref a :: S)) rfl hsize (Steps.refl _) (a := a) (argsL := argsL) (rest := S) (lenOf hdesc hlen) rfl (by show 2 * 0 + _ ≤ _; simpa using hW) hd (fun _ _ => ⟨rfl, eT, hc, hs⟩)
  dsimp only [Pt.U, Pt.locs, Pt.cells, Pt.slots] at X' l' y' z' st hQ
  subst l' y' z'
  exact Go.st1 st (k T' v L X' hQ)
theorem met {y : MethodName} {bytes : ByteArray} {maxL : Nat} {ret : Option FieldType} {rm : Room} {as' : Array Value} {Q : Option Value → Heap → List Loc → Prop} {ws : List Jvm.Cond} {C N : Nat} (hpl : plainFor y = true) (ef : ∀ m, entryFrame m as' maxL = mkF m 0 Ls [])
    (body : ∀ (p : Program) (e : Env) (s : State) (m : MethodId) (below : List Frame) (meth : Method) (c : Code) (T : State), Stand p l e rm s m as' below meth c T [] 0 0 → p.tables.exec = Jvm.exec → Z.Warmed39 s.vm → c.code = bytes → c.maxLocals = maxL → s.vm.findClass y.cls = some m.cls → meth.name = y.name → meth.sig.returnType = ret → meth.locks = false → T.heap = h →
      Go p.tables e below (PQ s Q C N) T (mkF m 0 Ls [])) :
    MetFree l y (head1 (Cond.code y bytes maxL ret :: ws) rm) (fun a U => a = as' ∧ Z.Warmed39 U.vm ∧ U.heap = h) (fun _ _ _ _ _ => True) (fun _ U o U' => ∃ v L, o = .returned v ∧ Q v U'.heap L ∧ FrameEnd U o U' L C N) := by
  refine MetFree.of_bodySF hpl hisR ?_
  intro p e s m args below meth c s₁ Bd hml0 hP hK
  obtain ⟨rfl, hZ, hh⟩ := hP
  have e0 : s₁.heap = h := by rw [← hh, Bd.state]; rfl
  obtain ⟨s₂, o, h1, h2⟩ := body p e s m below meth c s₁ (Stand.of_body Bd) Bd.exec hZ Bd.bytes hml0 (findClass_of_methodNamed Bd.named) (name_of_methodNamed Bd.named Bd.method).1 Bd.returns Bd.notSynchronized e0
  exact ⟨s₂, o, castTop (ef m) h1, h2⟩
theorem ret_ (X : Stand p l e R s m args below meth c T locs cells slots) (hx : p.tables.exec = Jvm.exec) {Q : Option Value → Heap → List Loc → Prop} {C N : Nat} {w : Value} {t : FieldType} {i : Instr} (hret : meth.sig.returnType = some t) (hlk : meth.locks = false) (hn : narrow t w = w)
    (hi : (i = .ireturn ∧ (t = .int ∨ t = .boolean ∨ t = .byte ∨ t = .char ∨ t = .short) ∧ ∃ z, w = .int z) ∨ (i = .lreturn ∧ t = .long ∧ ∃ z, w = .long z) ∨ (i = .dreturn ∧ t = .double ∧ ∃ z, w = .double z) ∨ (i = .freturn ∧ t = .float ∧ ∃ z, w = .float z) ∨ (i = .areturn ∧ t.isReference = true ∧ w.isRef = true))
    (hd : decode c.code pc = .ok (i, 1)) (hC : cells ≤ C) (hN : slots ≤ N) (q : Q (some w) T.heap locs) : Go p.tables e below (PQ s Q C N) T (mkF m pc Ls (w :: S)) := by
  obtain ⟨fs, hr, hrun, hended, hW, hsame⟩ := X.leave (v := some w) (fun h => by rw [hret] at h; cases h) hlk
  exact ⟨_, _, retOut X hx hret hn hi hd hr, hrun, hended, _, _, rfl, q, ⟨_, rfl⟩, hW, hsame.mono hC hN⟩
theorem retI_ (X : Stand p l e R s m args below meth c T locs cells slots) (hx : p.tables.exec = Jvm.exec) {Q : Option Value → Heap → List Loc → Prop} {C N : Nat} {z : Int32} (hret : meth.sig.returnType = some .int) (hlk : meth.locks = false) (hd : decode c.code pc = .ok (.ireturn, 1)) (hC : cells ≤ C) (hN : slots ≤ N) (q : Q (some (.int z)) T.heap locs) : Go p.tables e below (PQ s Q C N) T (mkF m pc Ls (.int z :: S)) :=
  ret_ X hx hret hlk rfl (Or.inl ⟨rfl, Or.inl rfl, z, rfl⟩) hd hC hN q
theorem retA_ (X : Stand p l e R s m args below meth c T locs cells slots) (hx : p.tables.exec = Jvm.exec) {Q : Option Value → Heap → List Loc → Prop} {C N : Nat} {w : Value} {t : FieldType} (hret : meth.sig.returnType = some t) (ht : t.isReference = true) (hw : w.isRef = true) (hlk : meth.locks = false) (hd : decode c.code pc = .ok (.areturn, 1)) (hC : cells ≤ C) (hN : slots ≤ N) (q : Q (some w) T.heap locs) : Go p.tables e below (PQ s Q C N) T (mkF m pc Ls (w :: S)) :=
  ret_ X hx hret hlk (by cases t <;> first | (cases ht; done) | rfl) (Or.inr (Or.inr (Or.inr (Or.inr ⟨rfl, ht, hw⟩)))) hd hC hN q
theorem retN_ (X : Stand p l e R s m args below meth c T locs cells slots) (hx : p.tables.exec = Jvm.exec) {Q : Option Value → Heap → List Loc → Prop} {C N : Nat} {z : Int32} {t : FieldType} (hret : meth.sig.returnType = some t) (ht : t = .boolean ∨ t = .byte ∨ t = .char ∨ t = .short) (hlk : meth.locks = false) (hd : decode c.code pc = .ok (.ireturn, 1)) (hC : cells ≤ C) (hN : slots ≤ N) (q : Q (some (.int (nar t z))) T.heap locs) : Go p.tables e below (PQ s Q C N) T (mkF m pc Ls (.int z :: S)) := by
  obtain ⟨fs, hr, hrun, hended, hW, hsame⟩ := X.leave (v := some (.int (nar t z))) (fun h => by rw [hret] at h; cases h) hlk
  exact ⟨_, _, retN X hx hret ht hd hr, hrun, hended, _, _, rfl, q, ⟨_, rfl⟩, hW, hsame.mono hC hN⟩
theorem retV_ (X : Stand p l e R s m args below meth c T locs cells slots) (hx : p.tables.exec = Jvm.exec) {Q : Option Value → Heap → List Loc → Prop} {C N : Nat} (hret : meth.sig.returnType = none) (hlk : meth.locks = false) (hd : decode c.code pc = .ok (.return_, 1)) (hC : cells ≤ C) (hN : slots ≤ N) (q : Q none T.heap locs) : Go p.tables e below (PQ s Q C N) T (mkF m pc Ls []) := by
  obtain ⟨fs, hr, hrun, hended, hW, hsame⟩ := X.leave (v := none) (fun _ => rfl) hlk
  exact ⟨_, _, X.returnOut hx hret hd hr, hrun, hended, _, _, rfl, q, ⟨_, rfl⟩, hW, hsame.mono hC hN⟩
end Steps
end Jvm.OwnK
namespace Jvm.Pilot.@@N@@
open Jvm Jvm.ClassFile Sem Op Lib Jvm.Free Jvm.Stand Jvm.LawKit Jvm.RoadKit Bundle Jvm.Pilot.@@N@@.Jvm.D
theorem own_ef_4 (p1 : Addr)  (m : MethodId) : entryFrame m #[(.ref p1)] 1 = mkF m 0 #[.val (.ref p1)] [] := by first | (simp [entryFrame, mkF, argsToLocals, Value.category]; done) | rfl
theorem own_d4_0 : decode jdk_18_method_1_code 0 = .ok (.aload_n 0, 1) := by decide +kernel
theorem own_d4_1 : decode jdk_18_method_1_code 1 = .ok (.invokespecial 1, 3) := by decide +kernel
theorem own_d4_4 : decode jdk_18_method_1_code 4 = .ok (.return_, 1) := by decide +kernel
theorem own_pl_4 : plainFor (⟨"java/lang/Number", "<init>", "()V"⟩ : MethodName) = true := plainFor_of_name (by first | (simp [plainName, overriddenIn]; done) | decide +kernel)
theorem own_ef_3 (p1 : Addr) (p2 : Int32)  (m : MethodId) : entryFrame m #[(.ref p1), (.int p2)] 2 = mkF m 0 #[.val (.ref p1), .val (.int p2)] [] := by first | (simp [entryFrame, mkF, argsToLocals, Value.category]; done) | rfl
theorem own_d3_0 : decode jdk_33_method_23_code 0 = .ok (.aload_n 0, 1) := by decide +kernel
theorem own_d3_1 : decode jdk_33_method_23_code 1 = .ok (.invokespecial 202, 3) := by decide +kernel
theorem own_pd_0 : parseMethodDescriptor "()V" = some ⟨[], none⟩ := by decide +kernel
theorem own_d3_4 : decode jdk_33_method_23_code 4 = .ok (.aload_n 0, 1) := by decide +kernel
theorem own_d3_5 : decode jdk_33_method_23_code 5 = .ok (.iload_n 1, 1) := by decide +kernel
theorem own_d3_6 : decode jdk_33_method_23_code 6 = .ok (.putfield 205, 3) := by decide +kernel
theorem own_d3_9 : decode jdk_33_method_23_code 9 = .ok (.return_, 1) := by decide +kernel
theorem own_pl_3 : plainFor (⟨"java/lang/Integer", "<init>", "(I)V"⟩ : MethodName) = true := plainFor_of_name (by first | (simp [plainName, overriddenIn]; done) | decide +kernel)
theorem own_ef_1 (p1 : Int32)  (m : MethodId) : entryFrame m #[(.int p1)] 1 = mkF m 0 #[.val (.int p1)] [] := by first | (simp [entryFrame, mkF, argsToLocals, Value.category]; done) | rfl
theorem own_d1_0 : decode jdk_33_method_22_code 0 = .ok (.iload_n 0, 1) := by decide +kernel
theorem own_d1_1 : decode jdk_33_method_22_code 1 = .ok (.bipush (-128), 2) := by decide +kernel
theorem own_d1_3 : decode jdk_33_method_22_code 3 = .ok (.if_icmp .lt 20, 3) := by decide +kernel
theorem own_d1_23 : decode jdk_33_method_22_code 23 = .ok (.new 1, 3) := by decide +kernel
theorem own_d1_26 : decode jdk_33_method_22_code 26 = .ok (.dup, 1) := by decide +kernel
theorem own_d1_27 : decode jdk_33_method_22_code 27 = .ok (.iload_n 0, 1) := by decide +kernel
theorem own_d1_28 : decode jdk_33_method_22_code 28 = .ok (.invokespecial 199, 3) := by decide +kernel
theorem own_pd_2 : parseMethodDescriptor "(I)V" = some ⟨[.int], none⟩ := by decide +kernel
theorem own_d1_31 : decode jdk_33_method_22_code 31 = .ok (.areturn, 1) := by decide +kernel
theorem own_d1_6 : decode jdk_33_method_22_code 6 = .ok (.iload_n 0, 1) := by decide +kernel
theorem own_d1_7 : decode jdk_33_method_22_code 7 = .ok (.getstatic 191, 3) := by decide +kernel
theorem own_d1_10 : decode jdk_33_method_22_code 10 = .ok (.if_icmp .gt 13, 3) := by decide +kernel
theorem own_d1_13 : decode jdk_33_method_22_code 13 = .ok (.getstatic 195, 3) := by decide +kernel
theorem own_d1_16 : decode jdk_33_method_22_code 16 = .ok (.iload_n 0, 1) := by decide +kernel
theorem own_d1_17 : decode jdk_33_method_22_code 17 = .ok (.sipush 128, 3) := by decide +kernel
theorem own_d1_20 : decode jdk_33_method_22_code 20 = .ok (.iadd, 1) := by decide +kernel
theorem own_d1_21 : decode jdk_33_method_22_code 21 = .ok (.aaload, 1) := by decide +kernel
theorem own_d1_22 : decode jdk_33_method_22_code 22 = .ok (.areturn, 1) := by decide +kernel
theorem own_pl_1 : plainFor (⟨"java/lang/Integer", "valueOf", "(I)Ljava/lang/Integer;"⟩ : MethodName) = true := plainFor_of_name (by first | (simp [plainName, overriddenIn]; done) | decide +kernel)
theorem own_ef_2 (p1 : Addr)  (m : MethodId) : entryFrame m #[(.ref p1)] 2 = mkF m 0 #[.val (.ref p1), .unset] [] := by first | (simp [entryFrame, mkF, argsToLocals, Value.category]; done) | rfl
theorem own_d2_0 : decode prog_10_method_5_code 0 = .ok (.aload_n 0, 1) := by decide +kernel
theorem own_d2_1 : decode prog_10_method_5_code 1 = .ok (.instanceof 9, 3) := by decide +kernel
theorem own_d2_4 : decode prog_10_method_5_code 4 = .ok (.ifCond .eq 13, 3) := by decide +kernel
theorem own_d2_7 : decode prog_10_method_5_code 7 = .ok (.aload_n 0, 1) := by decide +kernel
theorem own_d2_8 : decode prog_10_method_5_code 8 = .ok (.checkcast 9, 3) := by decide +kernel
theorem own_d2_11 : decode prog_10_method_5_code 11 = .ok (.astore_n 1, 1) := by decide +kernel
theorem own_d2_12 : decode prog_10_method_5_code 12 = .ok (.aload_n 1, 1) := by decide +kernel
theorem own_d2_13 : decode prog_10_method_5_code 13 = .ok (.arraylength, 1) := by decide +kernel
theorem own_d2_14 : decode prog_10_method_5_code 14 = .ok (.goto 8, 3) := by decide +kernel
theorem own_d2_22 : decode prog_10_method_5_code 22 = .ok (.ireturn, 1) := by decide +kernel
theorem own_d2_17 : decode prog_10_method_5_code 17 = .ok (.aload_n 0, 1) := by decide +kernel
theorem own_d2_18 : decode prog_10_method_5_code 18 = .ok (.checkcast 11, 3) := by decide +kernel
theorem own_d2_21 : decode prog_10_method_5_code 21 = .ok (.arraylength, 1) := by decide +kernel
theorem own_pl_2 : plainFor (⟨"com/example/redbark/redbark/KeyArrays", "length", "(Ljava/lang/Object;)I"⟩ : MethodName) = true := plainFor_of_name (by first | (simp [plainName, overriddenIn]; done) | decide +kernel)
theorem own_ef_0 (p0 : Int32) (p1 : Int32) (p2 : Int32) (p3 : Int32)  (m : MethodId) : entryFrame m #[(.int p0), (.int p1), (.int p2), (.int p3)] maxLocals = mkF m 0 #[.val (.int p0), .val (.int p1), .val (.int p2), .val (.int p3), .unset, .unset, .unset, .unset, .unset, .unset, .unset, .unset] [] := by first | (simp [entryFrame, mkF, argsToLocals, Value.category, maxLocals]; done) | rfl
theorem own_pd_3 : parseMethodDescriptor "(Ljava/lang/Object;)I" = some ⟨[(.object "java/lang/Object")], some .int⟩ := by decide +kernel
theorem own_pd_1 : parseMethodDescriptor "(I)Ljava/lang/Integer;" = some ⟨[.int], some (.object "java/lang/Integer")⟩ := by decide +kernel
theorem own_pl_0 : plainFor x = true := plainFor_of_name (by first | (simp [plainName, overriddenIn]; done) | decide +kernel)
theorem own_all {args : Array Value} {s : State} {t : Term} {d : Jvm.Cond} {a : Addr} {cell : Cell} (ht : t.eval args s none [] s = some (.ref a)) (harr : s.arrayAt? a = some cell) (h : (Jvm.Cond.all t d).value args s none s [] = some true) : ∀ j, j < cell.slots.size → d.value args s none s [j] = some true := by
  simp only [Cond.value, ht, harr] at h
  exact Jvm.Example.SumArray.foldl_all _ (fun j => d.value args s none s [j]) (fun _ => rfl) (fun x _ hx => by
    cases x with
    | none => rfl
    | some b => cases b with
      | true => exact absurd rfl hx
      | false => rfl) _ h
theorem own_eqv {s : State} {args : Array Value} {a b : Term} {x : Value} {n : Int32} (h : (Jvm.Cond.eq a b).value args s none s [] = some true) (ex : a.eval args s none [] s = some x) (ey : b.eval args s none [] s = some (.int n)) : x = .int n := by
  cases x <;> simp [Cond.value, ex, ey] at h ⊢
  exact h
theorem own_cache {s : State} {args : Array Value} {t : Term} {a : Addr} (hcl : ∀ idx, t.eval args s none idx s = some (.ref a)) (w4 : (Jvm.Cond.arrayOf t (.object "java/lang/Integer")).value args s none s [] = some true) (w6 : (Jvm.Cond.eq (.length t) (.int 256)).value args s none s [] = some true)
    (w7 : (Jvm.Cond.all t (Jvm.Cond.and (Jvm.Cond.exactly (Term.elem t (Term.index 0)) "java/lang/Integer") (Jvm.Cond.eq (Term.field (Term.elem t (Term.index 0)) "java/lang/Integer" "value" "I") (Term.sub (Term.index 0) (Term.int 128))))).value args s none s [] = some true) :
    ∃ kC vsC, Arv s s.heap a kC (.object "java/lang/Integer") (256 : Int32) vsC .null ∧ ∀ j, j < 256 → ∃ r, vsC.getD j .null = .ref r ∧ Exa s s.heap r "java/lang/Integer" := by
  obtain ⟨c, A⟩ := Arr.start (hcl []) w4
  have hat : s.arrayAt? a = some c := IntBox.arrayAt_of A.1 A.2.1 A.2.2
  have hsz : c.slots.size = 256 := by
    have e := w6
    by_cases hl : c.slots.size < 2 ^ 31
    · have el := len_f (first := s) (o := none) (hcl []) hat hl
      have q := own_eqv e el (Term.int_eval 256)
      have q2 : c.slots.size.toInt32 = 256 := by injection q
      have q3 := congrArg Int32.toInt q2
      rw [show (c.slots.size.toInt32).toInt = (c.slots.size : Int) from Int32.toInt_ofNat_of_lt (by omega)] at q3
      have : ((256 : Int32)).toInt = 256 := by decide
      omega
    · exfalso
      obtain ⟨x, y, ex, ey, -⟩ := cmp_v (Or.inl e)
      simp [Term.eval, hcl [], hat] at ex
      omega
  have hel : ∀ j, j < 256 → ∃ r, c.slots[j]? = some (.ref r) ∧ Exa s s.heap r "java/lang/Integer" := fun j hj => by
    obtain ⟨e1, -⟩ := and_e (own_all (hcl []) hat w7 j (by omega))
    obtain ⟨r, er⟩ := exa_v e1
    refine ⟨r, ?_, exa_at er e1⟩
    have hj0 : ¬ j.toInt32 < 0 := fun q => by
      have := Int32.lt_iff_toInt_lt.mp q
      rw [OwnK.z0, show (j.toInt32).toInt = (j : Int) from Int32.toInt_ofNat_of_lt (by omega)] at this
      omega
    have q := elem_f (hcl [j]) (Term.index_eval j) hat hj0
    rw [er] at q
    have : j.toInt32.toNatClampNeg = j := OwnK.jnat (Int32.toInt_ofNat_of_lt (by omega))
    rw [this] at q
    exact q.symm
  refine ⟨c.cls, c.slots.toList, ⟨c, A, rfl, ?_, by decide, fun k hk => ?_, fun k hk => ?_⟩, fun j hj => ?_⟩
  · rw [hsz]; decide
  · rw [List.getD_eq_getElem?_getD, Array.getElem?_toList, Array.getElem?_eq_getElem hk]; rfl
  · obtain ⟨r, hr, -⟩ := hel k (by omega)
    rw [List.getD_eq_getElem?_getD, Array.getElem?_toList, hr]; rfl
  · obtain ⟨r, hr, E⟩ := hel j hj
    exact ⟨r, by rw [List.getD_eq_getElem?_getD, Array.getElem?_toList, hr]; rfl, E⟩
theorem own_add128 {p : Int32} (h0 : -128 ≤ p.toInt) (h1 : p.toInt ≤ 127) : (p + 128).toInt = p.toInt + 128 := XT.add32 (y := 128) (by show XT.fits32 (p.toInt + 128); unfold XT.fits32; omega)
theorem own_m63 (x : Int32) : 0 ≤ (x &&& (63 : Int32)).toInt ∧ (x &&& (63 : Int32)).toInt ≤ 63 := by
  rw [Jvm.Kit.i32_mask x 63 (k := 6) (by decide) (by decide)]; omega
theorem own_sub1 {u : Int32} (h0 : 0 < u.toInt) (h1 : u.toInt ≤ 63) : (u - 1).toInt = u.toInt - 1 := XT.sub32 (y := 1) (by show XT.fits32 (u.toInt - 1); unfold XT.fits32; omega)
theorem own_isI {Z : State} {a0 : Array Value} {h : Heap} {a : Addr} (w : (Jvm.Cond.arrayClass .int).before a0 Z = true) (E : Exa Z h a "[Ljava/lang/Object;") : Ins Z h a "[I" true ∨ (∃ c t, Z.vm.findClass "[Ljava/lang/Object;" = some c ∧ Z.vm.findClass "[I" = some t ∧ Z.vm.assignable c t = false) ∧ Ins Z h a "[Ljava/lang/Object;" true := by
  obtain ⟨c, k, comp, h1, h2, h3⟩ := Cond.arrayClass_spec w
  obtain ⟨cell, kc, e1, e2, e3, e4, e5⟩ := E
  cases q : Z.vm.assignable cell.cls c
  · exact Or.inr ⟨⟨_, _, e2, h1, q⟩, Ins.self ⟨cell, kc, e1, e2, e3, e4, e5⟩⟩
  · exact Or.inl ⟨cell, c, e1, h1, by simp [e4, q]⟩

def own_Q4 (h0 : Heap) (v : Option Value) (h : Heap) (L : List Loc) : Prop := v = none ∧ h = h0 ∧ L = []
set_option maxRecDepth 65536 in
set_option maxHeartbeats 40000000 in
theorem own_met4 (l : Launch) (Z : State) (a0 : Array Value) (hw : ∀ d ∈ tables_1, d.before a0 Z = true) (h0 : Heap) (p1 : Addr)  :
    MetFree l (⟨"java/lang/Number", "<init>", "()V"⟩ : MethodName) (head1 [Jvm.Cond.code (⟨"java/lang/Number", "<init>", "()V"⟩ : MethodName) jdk_18_method_1_code 1 none] ({ frames := 1, cells := 0, slots := 0, locals := 12 } : Room)) (fun a U => a = #[(.ref p1)] ∧ Z.Warmed39 U.vm ∧ U.heap = h0) (fun _ _ _ _ _ => True) (fun _ U o U' => ∃ v L, o = .returned v ∧ (own_Q4 h0) v U'.heap L ∧ FrameEnd U o U' L ({ frames := 1, cells := 0, slots := 0, locals := 12 } : Room).cells ({ frames := 1, cells := 0, slots := 0, locals := 12 } : Room).slots) := by
  refine OwnK.met (Q := (own_Q4 h0)) (C := ({ frames := 1, cells := 0, slots := 0, locals := 12 } : Room).cells) (N := ({ frames := 1, cells := 0, slots := 0, locals := 12 } : Room).slots) own_pl_4 (own_ef_4 p1) ?_
  intro p e s m below meth c T0 X0 hx hZ hby hml hown hnm hret hlk e0
  refine OwnK.aloadN X0 hx (hb hby own_d4_0) (pc' := 1) rfl (v := (.ref p1)) rfl rfl ?_
  refine OwnK.initO_ X0 hx hZ hown (hw _ (List.mem_of_getElem? (i := 31) rfl)) (hw _ (List.mem_of_getElem? (i := 32) rfl)) (hw _ (List.mem_of_getElem? (i := 33) rfl)) e0 (by rw [hml]; rfl) (hb hby own_d4_1) (pc' := 4) rfl (by decide) (W := 0) (Nat.le_of_eq rfl) (by decide) (fun T1 X1 e1 => ?_)
  refine OwnK.retV_ X1 hx hret hlk (hb hby own_d4_4) (by decide) (by decide) ?_
  exact ⟨rfl, e1, rfl⟩
def own_Qmet3 (Z : State) (h0 : Heap) (n0 : Nat) (p1 : Addr) (p2 : Int32) (v : Option Value) (h : Heap) (L : List Loc) : Prop := v = none ∧ Fr n0 L ∧ Keep h0 h [p1] ∧ Exa Z h p1 "java/lang/Integer"
set_option maxRecDepth 65536 in
set_option maxHeartbeats 40000000 in
theorem own_met3 (l : Launch) (Z : State) (a0 : Array Value) (hw : ∀ d ∈ tables_1, d.before a0 Z = true) (h0 : Heap) (n0 : Nat) (Z0 : n0 ≤ h0.size) (p1 : Addr) (p2 : Int32)  (ge_p1 : n0 ≤ p1) (F0 : Fld Z h0 p1 "java/lang/Integer" "value" "I" (.int (0 : Int32))) (E0 : Exa Z h0 p1 "java/lang/Integer") :
    MetFree l (⟨"java/lang/Integer", "<init>", "(I)V"⟩ : MethodName) (head1 [Jvm.Cond.code (⟨"java/lang/Integer", "<init>", "(I)V"⟩ : MethodName) jdk_33_method_23_code 2 none] ({ frames := 2, cells := 0, slots := 0, locals := 24 } : Room)) (fun a U => a = #[(.ref p1), (.int p2)] ∧ Z.Warmed39 U.vm ∧ U.heap = h0) (fun _ _ _ _ _ => True) (fun _ U o U' => ∃ v L, o = .returned v ∧ (own_Qmet3 Z h0 n0 p1 p2 ) v U'.heap L ∧ FrameEnd U o U' L ({ frames := 2, cells := 0, slots := 0, locals := 24 } : Room).cells ({ frames := 2, cells := 0, slots := 0, locals := 24 } : Room).slots) := by
  refine OwnK.met (Q := (own_Qmet3 Z h0 n0 p1 p2 )) (C := ({ frames := 2, cells := 0, slots := 0, locals := 24 } : Room).cells) (N := ({ frames := 2, cells := 0, slots := 0, locals := 24 } : Room).slots) own_pl_3 (own_ef_3 p1 p2) ?_
  intro p e s m below meth c T0 X0 hx hZ hby hml hown hnm hret hlk e0
  have N0 := Fr.nil n0
  have K0 := Keep.refl h0 [p1]
  refine OwnK.aloadN X0 hx (hb hby own_d3_0) (pc' := 1) rfl (v := (.ref p1)) rfl rfl ?_
  refine OwnK.callI_ X0 hx hZ hown (y := (⟨"java/lang/Number", "<init>", "()V"⟩ : MethodName)) (a := p1) rfl (hw _ (List.mem_of_getElem? (i := 25) rfl)) (hw _ (List.mem_of_getElem? (i := 26) rfl)) (hw _ (List.mem_of_getElem? (i := 29) rfl)) (hw _ (List.mem_of_getElem? (i := 30) rfl)) rfl (by decide) (own_met4 l Z a0 hw h0 p1) (by decide) (W := 0) (by decide) e0 (by rw [hml]; rfl) own_pd_0 (argsL := []) rfl (S := []) rfl (Nat.le_of_eq rfl) (hb hby own_d3_1) (pc' := 4) rfl (by decide) (by decide) (fun T1 v1 L1 X1 hQ1 => ?_)
  obtain ⟨rfl, e1, rfl⟩ := hQ1
  have N2 := Fr.app N0 (Fr.nil n0)
  refine OwnK.aloadN X1 hx (hb hby own_d3_4) (pc' := 5) rfl (v := (.ref p1)) rfl rfl ?_
  refine OwnK.iloadN X1 hx (hb hby own_d3_5) (pc' := 6) rfl (v := p2) rfl ?_
  refine OwnK.putF_ X1 hx hZ hown (hw _ (List.mem_of_getElem? (i := 34) rfl)) Via.refl e1 F0 E0 (Or.inr ⟨(hw _ (List.mem_of_getElem? (i := 35) rfl)), rfl, hnm⟩) (hw _ (List.mem_of_getElem? (i := 20) rfl)) (ty := .int) (by decide) (v' := (.int p2)) rfl rfl (hb hby own_d3_6) (pc' := 9) rfl (fun T3 h3 X3 e3 W3 => ?_)
  have f4 := F0.same W3
  have f5 := E0.wr W3
  have N6 := Fr.snoc X3 N2 ge_p1
  have K7 := K0.wr W3 (Or.inl (List.mem_of_getElem? (i := 0) rfl))
  have z8 : n0 ≤ h3.size := Nat.le_trans Z0 (Keep.of_wr W3).1
  refine OwnK.retV_ X3 hx hret hlk (hb hby own_d3_9) (by decide) (by decide) ?_
  rw [show T3.heap = h3 from e3]
  exact ⟨rfl, N6, K7, f5⟩
def own_Qmet1 (Z : State) (h0 : Heap) (n0 : Nat) (p1 : Int32) (aC : Addr) (kC : ClassId) (vsC : List Value) (v : Option Value) (h : Heap) (L : List Loc) : Prop := ∃ r, v = some (.ref r) ∧ Fr n0 L ∧ Keep h0 h [] ∧ Exa Z h r "java/lang/Integer"
set_option maxRecDepth 65536 in
set_option maxHeartbeats 40000000 in
theorem own_met1 (l : Launch) (Z : State) (a0 : Array Value) (hw : ∀ d ∈ tables_1, d.before a0 Z = true) (h0 : Heap) (n0 : Nat) (Z0 : n0 ≤ h0.size) (p1 : Int32) (aC : Addr) (kC : ClassId) (vsC : List Value) (O0 : Old Z n0 h0) (SH : Sta Z Z.heap "java/lang/Integer$IntegerCache" "high" "I" (.int (127 : Int32))) (SC : Sta Z Z.heap "java/lang/Integer$IntegerCache" "cache" "[Ljava/lang/Integer;" (.ref aC)) (AC : Arv Z Z.heap aC kC (.object "java/lang/Integer") (256 : Int32) vsC .null) (CE : ∀ j, j < 256 → ∃ r, vsC.getD j .null = .ref r ∧ Exa Z Z.heap r "java/lang/Integer") :
    MetFree l (⟨"java/lang/Integer", "valueOf", "(I)Ljava/lang/Integer;"⟩ : MethodName) (head1 [Jvm.Cond.code (⟨"java/lang/Integer", "valueOf", "(I)Ljava/lang/Integer;"⟩ : MethodName) jdk_33_method_22_code 1 (some (.object "java/lang/Integer"))] ({ frames := 3, cells := 1, slots := 1, locals := 38 } : Room)) (fun a U => a = #[(.int p1)] ∧ Z.Warmed39 U.vm ∧ U.heap = h0) (fun _ _ _ _ _ => True) (fun _ U o U' => ∃ v L, o = .returned v ∧ (own_Qmet1 Z h0 n0 p1 aC kC vsC) v U'.heap L ∧ FrameEnd U o U' L ({ frames := 3, cells := 1, slots := 1, locals := 38 } : Room).cells ({ frames := 3, cells := 1, slots := 1, locals := 38 } : Room).slots) := by
  refine OwnK.met (Q := (own_Qmet1 Z h0 n0 p1 aC kC vsC)) (C := ({ frames := 3, cells := 1, slots := 1, locals := 38 } : Room).cells) (N := ({ frames := 3, cells := 1, slots := 1, locals := 38 } : Room).slots) own_pl_1 (own_ef_1 p1) ?_
  intro p e s m below meth c T0 X0 hx hZ hby hml hown hnm hret hlk e0
  have N0 := Fr.nil n0
  have K0 := Keep.refl h0 []
  refine OwnK.iloadN X0 hx (hb hby own_d1_0) (pc' := 1) rfl (v := p1) rfl ?_
  refine OwnK.bipush X0 hx (hb hby own_d1_1) (pc' := 3) rfl (v := (-128 : Int32)) (by decide) ?_
  refine OwnK.icmp_lt X0 hx (hb hby own_d1_3) (by decide) (pcT := 23) (by decide) (pc' := 6) rfl (fun (hc1 : p1.toInt < (-128)) => ?_) (fun (hc1 : (-128) ≤ p1.toInt) => ?_)
  · refine OwnK.new_ X0 hx hZ hown (hw _ (List.mem_of_getElem? (i := 19) rfl)) (hw _ (List.mem_of_getElem? (i := 20) rfl)) (hw _ (List.mem_of_getElem? (i := 5) rfl)) e0 (hb hby own_d1_23) (pc' := 26) rfl (by decide) (by decide) (fun T2 h2 a2 X2 e2 g2 E2 A2 D2 => ?_)
    have q3 : aC ≠ a2 := Nat.ne_of_lt (Nat.lt_of_lt_of_le (AC.ext O0.2).lt (Nat.le_of_eq g2.symm))
    have ge_a2 : n0 ≤ a2 := Nat.le_trans Z0 (Nat.le_of_eq g2.symm)
    have sz_a2 : h0.size ≤ a2 := Nat.le_trans K0.1 (Nat.le_of_eq g2.symm)
    have z4 : n0 ≤ h2.size := Nat.le_trans Z0 E2.1
    have K5 := K0.ext E2
    have f6 := (AC.ext O0.2).ext E2
    have O7 := O0.ext E2
    have f8 : Fld Z h2 a2 "java/lang/Integer" "value" "I" (.int (0 : Int32)) := D2 (Or.inr (hw _ (List.mem_of_getElem? (i := 35) rfl))) (ty := .int) (by decide)
    refine OwnK.dup X2 hx (hb hby own_d1_26) (pc' := 27) rfl rfl ?_
    refine OwnK.iloadN X2 hx (hb hby own_d1_27) (pc' := 28) rfl (v := p1) rfl ?_
    refine OwnK.callI_ X2 hx hZ hown (y := (⟨"java/lang/Integer", "<init>", "(I)V"⟩ : MethodName)) (a := a2) rfl (hw _ (List.mem_of_getElem? (i := 21) rfl)) (hw _ (List.mem_of_getElem? (i := 22) rfl)) (hw _ (List.mem_of_getElem? (i := 5) rfl)) (hw _ (List.mem_of_getElem? (i := 24) rfl)) rfl (by decide) (own_met3 l Z a0 hw h2 n0 z4 a2 p1   ge_a2 f8 A2 ) (by decide) (W := 1) (by decide) e2 (by rw [hml]; rfl) own_pd_2 (argsL := [(.int p1)]) rfl (S := [(.ref a2)]) rfl (Nat.le_of_eq rfl) (hb hby own_d1_28) (pc' := 31) rfl (by decide) (by decide) (fun T9 v9 L9 X9 hQ9 => ?_)
    obtain ⟨rfl, N9q, K9, E9q⟩ := hQ9
    have N10 := Fr.app N0 N9q
    have f11 := f6.keep K9 (ninS q3 nin0)
    have f12 := A2.keep K9
    have z13 : n0 ≤ T9.heap.size := Nat.le_trans z4 K9.1
    have O14 := O7.keep K9 (allS ge_a2 all0)
    have K15 := K5.trans K9 (allS (Or.inr sz_a2) all0)
    refine OwnK.retA_ X9 hx hret rfl rfl hlk (hb hby own_d1_31) (by decide) (by decide) ?_
    exact ⟨_, rfl, N10, K15, E9q⟩
  · refine OwnK.iloadN X0 hx (hb hby own_d1_6) (pc' := 7) rfl (v := p1) rfl ?_
    refine OwnK.getS_ X0 hx hZ hown (host := "") (Or.inl (hw _ (List.mem_of_getElem? (i := 7) rfl))) Via.refl e0 (SH.ext O0.2) (hb hby own_d1_7) (pc' := 10) rfl (fun T16 X16 e16 => ?_)
    refine OwnK.icmp_gt X16 hx (hb hby own_d1_10) (by decide) (pcT := 23) (by decide) (pc' := 13) rfl (fun (hc17 : 127 < p1.toInt) => ?_) (fun (hc17 : p1.toInt ≤ 127) => ?_)
    · refine OwnK.new_ X16 hx hZ hown (hw _ (List.mem_of_getElem? (i := 19) rfl)) (hw _ (List.mem_of_getElem? (i := 20) rfl)) (hw _ (List.mem_of_getElem? (i := 5) rfl)) e16 (hb hby own_d1_23) (pc' := 26) rfl (by decide) (by decide) (fun T18 h18 a18 X18 e18 g18 E18 A18 D18 => ?_)
      have q19 : aC ≠ a18 := Nat.ne_of_lt (Nat.lt_of_lt_of_le (AC.ext O0.2).lt (Nat.le_of_eq g18.symm))
      have ge_a18 : n0 ≤ a18 := Nat.le_trans Z0 (Nat.le_of_eq g18.symm)
      have sz_a18 : h0.size ≤ a18 := Nat.le_trans K0.1 (Nat.le_of_eq g18.symm)
      have z20 : n0 ≤ h18.size := Nat.le_trans Z0 E18.1
      have K21 := K0.ext E18
      have f22 := (AC.ext O0.2).ext E18
      have O23 := O0.ext E18
      have f24 : Fld Z h18 a18 "java/lang/Integer" "value" "I" (.int (0 : Int32)) := D18 (Or.inr (hw _ (List.mem_of_getElem? (i := 35) rfl))) (ty := .int) (by decide)
      refine OwnK.dup X18 hx (hb hby own_d1_26) (pc' := 27) rfl rfl ?_
      refine OwnK.iloadN X18 hx (hb hby own_d1_27) (pc' := 28) rfl (v := p1) rfl ?_
      refine OwnK.callI_ X18 hx hZ hown (y := (⟨"java/lang/Integer", "<init>", "(I)V"⟩ : MethodName)) (a := a18) rfl (hw _ (List.mem_of_getElem? (i := 21) rfl)) (hw _ (List.mem_of_getElem? (i := 22) rfl)) (hw _ (List.mem_of_getElem? (i := 5) rfl)) (hw _ (List.mem_of_getElem? (i := 24) rfl)) rfl (by decide) (own_met3 l Z a0 hw h18 n0 z20 a18 p1   ge_a18 f24 A18 ) (by decide) (W := 1) (by decide) e18 (by rw [hml]; rfl) own_pd_2 (argsL := [(.int p1)]) rfl (S := [(.ref a18)]) rfl (Nat.le_of_eq rfl) (hb hby own_d1_28) (pc' := 31) rfl (by decide) (by decide) (fun T25 v25 L25 X25 hQ25 => ?_)
      obtain ⟨rfl, N25q, K25, E25q⟩ := hQ25
      have N26 := Fr.app N0 N25q
      have f27 := f22.keep K25 (ninS q19 nin0)
      have f28 := A18.keep K25
      have z29 : n0 ≤ T25.heap.size := Nat.le_trans z20 K25.1
      have O30 := O23.keep K25 (allS ge_a18 all0)
      have K31 := K21.trans K25 (allS (Or.inr sz_a18) all0)
      refine OwnK.retA_ X25 hx hret rfl rfl hlk (hb hby own_d1_31) (by decide) (by decide) ?_
      exact ⟨_, rfl, N26, K31, E25q⟩
    · refine OwnK.getS_ X16 hx hZ hown (host := "") (Or.inl (hw _ (List.mem_of_getElem? (i := 9) rfl))) Via.refl e16 (SC.ext O0.2) (hb hby own_d1_13) (pc' := 16) rfl (fun T32 X32 e32 => ?_)
      refine OwnK.iloadN X32 hx (hb hby own_d1_16) (pc' := 17) rfl (v := p1) rfl ?_
      refine OwnK.sipush X32 hx (hb hby own_d1_17) (pc' := 20) rfl (v := (128 : Int32)) (by decide) ?_
      refine OwnK.iadd X32 hx (hb hby own_d1_20) (pc' := 21) rfl ?_
      have hj := own_add128 (p := p1) (by omega) (by omega)
      have hjn : (p1 + (128 : Int32)).toNatClampNeg < 256 := by have := OwnK.jnat (j := p1 + (128 : Int32)) (i := (p1.toInt + 128).toNat) (by omega); omega
      obtain ⟨r, hr, Er⟩ := CE _ hjn
      refine OwnK.aaload X32 hx hZ e32 (AC.ext O0.2) rfl (by omega) (by show _ < (256 : Int); omega) (v := (.ref r)) hr (hb hby own_d1_21) (pc' := 22) rfl ?_
      refine OwnK.retA_ X32 hx hret rfl rfl hlk (hb hby own_d1_22) (by decide) (by decide) ?_
      rw [show T32.heap = h0 from e32]
      exact ⟨_, rfl, N0, K0, (Er.ext O0.2)⟩
def own_Qmet2 (h0 : Heap) (p1 : Addr) (kA : ClassId) (ty : FieldType) (z : Int32) (vs : List Value) (dv : Value) (C : String) (v : Option Value) (h : Heap) (L : List Loc) : Prop := v = some (.int z) ∧ h = h0 ∧ L = []
set_option maxRecDepth 65536 in
set_option maxHeartbeats 40000000 in
theorem own_met2 (l : Launch) (Z : State) (a0 : Array Value) (hw : ∀ d ∈ tables_1, d.before a0 Z = true) (h0 : Heap) (p1 : Addr) (kA : ClassId) (ty : FieldType) (z : Int32) (vs : List Value) (dv : Value) (C : String) (V0 : Arv Z h0 p1 kA ty z vs dv) (E0 : Exa Z h0 p1 C) (hI : Ins Z h0 p1 "[I" true ∨ (∃ c t, Z.vm.findClass C = some c ∧ Z.vm.findClass "[I" = some t ∧ Z.vm.assignable c t = false) ∧ Ins Z h0 p1 "[Ljava/lang/Object;" true) :
    MetFree l (⟨"com/example/redbark/redbark/KeyArrays", "length", "(Ljava/lang/Object;)I"⟩ : MethodName) (head1 [Jvm.Cond.code (⟨"com/example/redbark/redbark/KeyArrays", "length", "(Ljava/lang/Object;)I"⟩ : MethodName) prog_10_method_5_code 2 (some .int)] ({ frames := 0, cells := 0, slots := 0, locals := 0 } : Room)) (fun a U => a = #[(.ref p1)] ∧ Z.Warmed39 U.vm ∧ U.heap = h0) (fun _ _ _ _ _ => True) (fun _ U o U' => ∃ v L, o = .returned v ∧ (own_Qmet2 h0 p1 kA ty z vs dv C) v U'.heap L ∧ FrameEnd U o U' L ({ frames := 0, cells := 0, slots := 0, locals := 0 } : Room).cells ({ frames := 0, cells := 0, slots := 0, locals := 0 } : Room).slots) := by
  refine OwnK.met (Q := (own_Qmet2 h0 p1 kA ty z vs dv C)) (C := ({ frames := 0, cells := 0, slots := 0, locals := 0 } : Room).cells) (N := ({ frames := 0, cells := 0, slots := 0, locals := 0 } : Room).slots) own_pl_2 (own_ef_2 p1) ?_
  intro p e s m below meth c T0 X0 hx hZ hby hml hown hnm hret hlk e0
  refine OwnK.aloadN X0 hx (hb hby own_d2_0) (pc' := 1) rfl (v := (.ref p1)) rfl rfl ?_
  rcases hI with hI | ⟨hI, hO⟩
  · refine OwnK.instYes X0 hx hZ hown (hw _ (List.mem_of_getElem? (i := 15) rfl)) e0 hI (hb hby own_d2_1) (pc' := 4) rfl (fun T1 X1 e1 => ?_)
    refine OwnK.if_eq X1 hx (hb hby own_d2_4) (by decide) (pcT := 17) (by decide) (pc' := 7) rfl (fun (hc4 : 1 = 0) => absurd hc4 (by decide)) (fun hc4 => ?_)
    refine OwnK.aloadN X1 hx (hb hby own_d2_7) (pc' := 8) rfl (v := (.ref p1)) rfl rfl ?_
    refine OwnK.cast_ X1 hx hZ hown (hw _ (List.mem_of_getElem? (i := 15) rfl)) e1 hI (hb hby own_d2_8) (pc' := 11) rfl (fun T2 X2 e2 => ?_)
    refine OwnK.astoreN X2 hx (hb hby own_d2_11) (pc' := 12) rfl rfl (Ls' := #[.val (.ref p1), .val (.ref p1)]) rfl ?_
    refine OwnK.aloadN X2 hx (hb hby own_d2_12) (pc' := 13) rfl (v := (.ref p1)) rfl rfl ?_
    refine OwnK.arrlen X2 hx hZ e2 V0 (hb hby own_d2_13) (pc' := 14) rfl ?_
    refine OwnK.goto_ X2 hx (hb hby own_d2_14) (by decide) (pc' := 22) (by decide) ?_
    refine OwnK.retI_ X2 hx hret hlk (hb hby own_d2_22) (by decide) (by decide) ?_
    exact ⟨rfl, e2, rfl⟩
  · refine OwnK.instNo_ X0 hx hZ hown (hw _ (List.mem_of_getElem? (i := 15) rfl)) e0 E0 hI (hb hby own_d2_1) (pc' := 4) rfl (fun T3 X3 e3 => ?_)
    refine OwnK.if_eq X3 hx (hb hby own_d2_4) (by decide) (pcT := 17) (by decide) (pc' := 7) rfl (fun hc4 => ?_) (fun (hc4 : ¬ 0 = 0) => absurd hc4 (by decide))
    refine OwnK.aloadN X3 hx (hb hby own_d2_17) (pc' := 18) rfl (v := (.ref p1)) rfl rfl ?_
    refine OwnK.cast_ X3 hx hZ hown (hw _ (List.mem_of_getElem? (i := 17) rfl)) e3 hO (hb hby own_d2_18) (pc' := 21) rfl (fun T4 X4 e4 => ?_)
    refine OwnK.arrlen X4 hx hZ e4 V0 (hb hby own_d2_21) (pc' := 22) rfl ?_
    refine OwnK.retI_ X4 hx hret hlk (hb hby own_d2_22) (by decide) (by decide) ?_
    exact ⟨rfl, e4, rfl⟩
set_option maxRecDepth 65536 in
set_option maxHeartbeats 40000000 in
theorem own_law (l : Launch) (Z : State) (a0 : Array Value) (hw : ∀ d ∈ tables_1, d.before a0 Z = true) (ws : List Jvm.Cond) (h0 : Heap) (n0 : Nat) (Z0 : n0 ≤ h0.size) (p0 : Int32) (p1 : Int32) (p2 : Int32) (p3 : Int32) (aC : Addr) (kC : ClassId) (vsC : List Value) (O0 : Old Z n0 h0) (SH : Sta Z Z.heap "java/lang/Integer$IntegerCache" "high" "I" (.int (127 : Int32))) (SC : Sta Z Z.heap "java/lang/Integer$IntegerCache" "cache" "[Ljava/lang/Integer;" (.ref aC)) (AC : Arv Z Z.heap aC kC (.object "java/lang/Integer") (256 : Int32) vsC .null) (CE : ∀ j, j < 256 → ∃ r, vsC.getD j .null = .ref r ∧ Exa Z Z.heap r "java/lang/Integer") :
    MetFree l x (head1 (Jvm.Cond.code x code maxLocals ret :: ws) room_1) (fun a U => a = #[(.int p0), (.int p1), (.int p2), (.int p3)] ∧ Z.Warmed39 U.vm ∧ U.heap = h0) (fun _ _ _ _ _ => True) (fun _ U o U' => ∃ v L, o = .returned v ∧ (fun (v : Option Value) (_ : Heap) (L : List Loc) => v = some (.int (1 : Int32)) ∧ Fr n0 L) v U'.heap L ∧ FrameEnd U o U' L 3 127) := by
  refine OwnK.met (Q := (fun (v : Option Value) (_ : Heap) (L : List Loc) => v = some (.int (1 : Int32)) ∧ Fr n0 L)) (C := 3) (N := 127) own_pl_0 (own_ef_0 p0 p1 p2 p3) ?_
  intro p e s m below meth c T0 X0 hx hZ hby hml hown hnm hret hlk e0
  have N0 := Fr.nil n0
  refine OwnK.iloadN X0 hx (hb hby at_0) (pc' := 1) rfl (v := p0) rfl ?_
  refine OwnK.bipush X0 hx (hb hby at_1) (pc' := 3) rfl (v := (63 : Int32)) (by decide) ?_
  refine OwnK.iand X0 hx (hb hby at_3) (pc' := 4) rfl ?_
  refine OwnK.istoreG X0 hx (hb hby at_4) (pc' := 6) rfl (Ls' := fun u => #[.val (.int p0), .val (.int p1), .val (.int p2), .val (.int p3), .val (.int u), .unset, .unset, .unset, .unset, .unset, .unset, .unset]) (fun u => rfl) (fun u1 (hu1 : u1 = (p0 &&& (63 : Int32))) => ?_)
  have b_u1 : 0 ≤ u1.toInt ∧ u1.toInt ≤ 63 := by rw [hu1]; exact own_m63 p0
  refine OwnK.iloadN X0 hx (hb hby at_6) (pc' := 7) rfl (v := p1) rfl ?_
  refine OwnK.bipush X0 hx (hb hby at_7) (pc' := 9) rfl (v := (63 : Int32)) (by decide) ?_
  refine OwnK.iand X0 hx (hb hby at_9) (pc' := 10) rfl ?_
  refine OwnK.istoreG X0 hx (hb hby at_10) (pc' := 12) rfl (Ls' := fun u => #[.val (.int p0), .val (.int p1), .val (.int p2), .val (.int p3), .val (.int u1), .val (.int u), .unset, .unset, .unset, .unset, .unset, .unset]) (fun u => rfl) (fun u2 (hu2 : u2 = (p1 &&& (63 : Int32))) => ?_)
  have b_u2 : 0 ≤ u2.toInt ∧ u2.toInt ≤ 63 := by rw [hu2]; exact own_m63 p1
  refine OwnK.iload X0 hx (hb hby at_12) (pc' := 14) rfl (v := u1) rfl ?_
  refine OwnK.newP_ X0 hx hZ (hw _ (List.mem_of_getElem? (i := 0) rfl)) e0 (hb hby at_14) (pc' := 16) rfl (n := u1) b_u1.1 (cap := 63) (by have := b_u1.2; omega) (by decide) (by decide) (by decide) (ad := "[I") (by decide) (fun T3 h3 a3 k3 X3 e3 g3 E3 V3 Q3 => ?_)
  have ge_a3 : n0 ≤ a3 := Nat.le_trans Z0 (Nat.le_of_eq g3.symm)
  have z4 : n0 ≤ h3.size := Nat.le_trans Z0 E3.1
  have O5 := O0.ext E3
  refine OwnK.astore X3 hx (hb hby at_16) (pc' := 18) rfl rfl (Ls' := #[.val (.int p0), .val (.int p1), .val (.int p2), .val (.int p3), .val (.int u1), .val (.int u2), .val (.ref a3), .unset, .unset, .unset, .unset, .unset]) rfl ?_
  refine OwnK.iload X3 hx (hb hby at_18) (pc' := 20) rfl (v := u2) rfl ?_
  refine OwnK.newR_ X3 hx hZ hown (hw _ (List.mem_of_getElem? (i := 1) rfl)) (hw _ (List.mem_of_getElem? (i := 2) rfl)) e3 (hb hby at_20) (pc' := 23) rfl (n := u2) b_u2.1 (cap := 63) (by have := b_u2.2; omega) (by decide) (by decide) (by decide) (ad := "[Ljava/lang/Object;") (by decide) (fun T6 h6 a6 k6 X6 e6 g6 E6 V6 Q6 O6 => ?_)
  have q7 : a3 ≠ a6 := Nat.ne_of_lt (Nat.lt_of_lt_of_le V3.lt (Nat.le_of_eq g6.symm))
  have ge_a6 : n0 ≤ a6 := Nat.le_trans z4 (Nat.le_of_eq g6.symm)
  have z8 : n0 ≤ h6.size := Nat.le_trans z4 E6.1
  have f9 := V3.ext E6
  have f10 := Q3.ext E6
  have O11 := O5.ext E6
  refine OwnK.astore X6 hx (hb hby at_23) (pc' := 25) rfl rfl (Ls' := #[.val (.int p0), .val (.int p1), .val (.int p2), .val (.int p3), .val (.int u1), .val (.int u2), .val (.ref a3), .val (.ref a6), .unset, .unset, .unset, .unset]) rfl ?_
  refine OwnK.iload X6 hx (hb hby at_25) (pc' := 27) rfl (v := u1) rfl ?_
  refine OwnK.if_le X6 hx (hb hby at_27) (by decide) (pcT := 38) (by decide) (pc' := 30) rfl (fun (hc12 : u1.toInt ≤ 0) => ?_) (fun (hc12 : 0 < u1.toInt) => ?_)
  · refine OwnK.iload X6 hx (hb hby at_38) (pc' := 40) rfl (v := u2) rfl ?_
    refine OwnK.if_le X6 hx (hb hby at_40) (by decide) (pcT := 54) (by decide) (pc' := 43) rfl (fun (hc13 : u2.toInt ≤ 0) => ?_) (fun (hc13 : 0 < u2.toInt) => ?_)
    · refine OwnK.aload X6 hx (hb hby at_54) (pc' := 56) rfl (v := (.ref a3)) rfl rfl ?_
      refine OwnK.astore X6 hx (hb hby at_56) (pc' := 58) rfl rfl (Ls' := #[.val (.int p0), .val (.int p1), .val (.int p2), .val (.int p3), .val (.int u1), .val (.int u2), .val (.ref a3), .val (.ref a6), .val (.ref a3), .unset, .unset, .unset]) rfl ?_
      refine OwnK.aload X6 hx (hb hby at_58) (pc' := 60) rfl (v := (.ref a6)) rfl rfl ?_
      refine OwnK.astore X6 hx (hb hby at_60) (pc' := 62) rfl rfl (Ls' := #[.val (.int p0), .val (.int p1), .val (.int p2), .val (.int p3), .val (.int u1), .val (.int u2), .val (.ref a3), .val (.ref a6), .val (.ref a3), .val (.ref a6), .unset, .unset]) rfl ?_
      refine OwnK.aload X6 hx (hb hby at_62) (pc' := 64) rfl (v := (.ref a3)) rfl rfl ?_
      refine OwnK.callS_ X6 hx hZ hown (y := (⟨"com/example/redbark/redbark/KeyArrays", "length", "(Ljava/lang/Object;)I"⟩ : MethodName)) (hw _ (List.mem_of_getElem? (i := 11) rfl)) (hw _ (List.mem_of_getElem? (i := 12) rfl)) (hw _ (List.mem_of_getElem? (i := 13) rfl)) (hw _ (List.mem_of_getElem? (i := 14) rfl)) (by decide) (own_met2 l Z a0 hw h6 a3 _ _ _ _ _ _ f9 f10 (Or.inl (Ins.self f10)) ) (by decide) (W := 0) (by decide) e6 (by rw [hml]; rfl) own_pd_3 (argsL := [(.ref a3)]) rfl (S := []) rfl (Nat.le_of_eq rfl) (hb hby at_64) (pc' := 67) rfl (by decide) (by decide) (fun T14 v14 L14 X14 hQ14 => ?_)
      obtain ⟨rfl, e14, rfl⟩ := hQ14
      have N15 := Fr.app N0 (Fr.nil n0)
      refine OwnK.istore X14 hx (hb hby at_67) (pc' := 69) rfl (Ls' := #[.val (.int p0), .val (.int p1), .val (.int p2), .val (.int p3), .val (.int u1), .val (.int u2), .val (.ref a3), .val (.ref a6), .val (.ref a3), .val (.ref a6), .val (.int u1), .unset]) rfl ?_
      refine OwnK.aload X14 hx (hb hby at_69) (pc' := 71) rfl (v := (.ref a6)) rfl rfl ?_
      refine OwnK.callS_ X14 hx hZ hown (y := (⟨"com/example/redbark/redbark/KeyArrays", "length", "(Ljava/lang/Object;)I"⟩ : MethodName)) (hw _ (List.mem_of_getElem? (i := 11) rfl)) (hw _ (List.mem_of_getElem? (i := 12) rfl)) (hw _ (List.mem_of_getElem? (i := 13) rfl)) (hw _ (List.mem_of_getElem? (i := 14) rfl)) (by decide) (own_met2 l Z a0 hw h6 a6 _ _ _ _ _ _ V6 Q6 (own_isI (hw _ (List.mem_of_getElem? (i := 0) rfl)) Q6) ) (by decide) (W := 0) (by decide) e14 (by rw [hml]; rfl) own_pd_3 (argsL := [(.ref a6)]) rfl (S := []) rfl (Nat.le_of_eq rfl) (hb hby at_71) (pc' := 74) rfl (by decide) (by decide) (fun T16 v16 L16 X16 hQ16 => ?_)
      obtain ⟨rfl, e16, rfl⟩ := hQ16
      have N17 := Fr.app N15 (Fr.nil n0)
      refine OwnK.istore X16 hx (hb hby at_74) (pc' := 76) rfl (Ls' := #[.val (.int p0), .val (.int p1), .val (.int p2), .val (.int p3), .val (.int u1), .val (.int u2), .val (.ref a3), .val (.ref a6), .val (.ref a3), .val (.ref a6), .val (.int u1), .val (.int u2)]) rfl ?_
      refine OwnK.iload X16 hx (hb hby at_76) (pc' := 78) rfl (v := u1) rfl ?_
      refine OwnK.iload X16 hx (hb hby at_78) (pc' := 80) rfl (v := u1) rfl ?_
      refine OwnK.icmp_ne X16 hx (hb hby at_80) (by decide) (pcT := 94) (by decide) (pc' := 83) rfl (fun (hc80 : ¬ u1.toInt = u1.toInt) => absurd rfl hc80) (fun hc80 => ?_)
      refine OwnK.iload X16 hx (hb hby at_83) (pc' := 85) rfl (v := u2) rfl ?_
      refine OwnK.iload X16 hx (hb hby at_85) (pc' := 87) rfl (v := u2) rfl ?_
      refine OwnK.icmp_ne X16 hx (hb hby at_87) (by decide) (pcT := 94) (by decide) (pc' := 90) rfl (fun (hc87 : ¬ u2.toInt = u2.toInt) => absurd rfl hc87) (fun hc87 => ?_)
      refine OwnK.iconst X16 hx (hb hby at_90) (pc' := 91) rfl (v := (1 : Int32)) (by decide) ?_
      refine OwnK.goto_ X16 hx (hb hby at_91) (by decide) (pc' := 95) (by decide) ?_
      refine OwnK.retN_ X16 hx hret (by simp) hlk (hb hby at_95) (by decide) (by decide) ?_
      exact ⟨rfl, N17⟩
    · refine OwnK.aload X6 hx (hb hby at_43) (pc' := 45) rfl (v := (.ref a6)) rfl rfl ?_
      refine OwnK.iload X6 hx (hb hby at_45) (pc' := 47) rfl (v := u2) rfl ?_
      refine OwnK.iconst X6 hx (hb hby at_47) (pc' := 48) rfl (v := (1 : Int32)) (by decide) ?_
      refine OwnK.isub X6 hx (hb hby at_48) (pc' := 49) rfl ?_
      refine OwnK.iloadN X6 hx (hb hby at_49) (pc' := 50) rfl (v := p3) rfl ?_
      refine OwnK.callS_ X6 hx hZ hown (y := (⟨"java/lang/Integer", "valueOf", "(I)Ljava/lang/Integer;"⟩ : MethodName)) (hw _ (List.mem_of_getElem? (i := 3) rfl)) (hw _ (List.mem_of_getElem? (i := 4) rfl)) (hw _ (List.mem_of_getElem? (i := 5) rfl)) (hw _ (List.mem_of_getElem? (i := 6) rfl)) (by decide) (own_met1 l Z a0 hw h6 n0 z8 p3 aC kC vsC O11  SH SC AC CE ) (by decide) (W := 2) (by decide) e6 (by rw [hml]; rfl) own_pd_1 (argsL := [(.int p3)]) rfl (S := [(.int (u2 - (1 : Int32))), (.ref a6)]) rfl (Nat.le_of_eq rfl) (hb hby at_50) (pc' := 53) rfl (by decide) (by decide) (fun T18 v18 L18 X18 hQ18 => ?_)
      obtain ⟨r18, rfl, N18q, K18, E18q⟩ := hQ18
      have N19 := Fr.app N0 N18q
      have f20 := f9.keep K18 nin0
      have f21 := f10.keep K18
      have f22 := V6.keep K18 nin0
      have f23 := Q6.keep K18
      have z24 : n0 ≤ T18.heap.size := Nat.le_trans z8 K18.1
      have O25 := O11.keep K18 all0
      have f27 := f22.pad (pad_rep [] .null 64)
      have hs_a6 : (u2 - (1 : Int32)).toInt = u2.toInt - 1 := own_sub1 (by omega) (by have := b_u2.2; omega)
      refine OwnK.aastore X18 hx hZ rfl f27 rfl rfl (OwnK.stoOf f27 O6 (Ins.of_exa E18q (hw _ (List.mem_of_getElem? (i := 10) rfl)))) (i := (u2.toInt - 1).toNat) (by omega) (by omega) (by show _ < 64; omega) (hb hby at_53) (pc' := 54) rfl (fun T26 h26 X26 e26 W26 V26 => ?_)
      have f28 := f20.other W26 q7
      have f29 := f21.wr W26
      have f30 := f23.wr W26
      have f31 := E18q.wr W26
      have N32 := Fr.snoc X26 N19 ge_a6
      have O33 := O25.wr W26 ge_a6
      have z34 : n0 ≤ h26.size := Nat.le_trans z24 (Keep.of_wr W26).1
      refine OwnK.aload X26 hx (hb hby at_54) (pc' := 56) rfl (v := (.ref a3)) rfl rfl ?_
      refine OwnK.astore X26 hx (hb hby at_56) (pc' := 58) rfl rfl (Ls' := #[.val (.int p0), .val (.int p1), .val (.int p2), .val (.int p3), .val (.int u1), .val (.int u2), .val (.ref a3), .val (.ref a6), .val (.ref a3), .unset, .unset, .unset]) rfl ?_
      refine OwnK.aload X26 hx (hb hby at_58) (pc' := 60) rfl (v := (.ref a6)) rfl rfl ?_
      refine OwnK.astore X26 hx (hb hby at_60) (pc' := 62) rfl rfl (Ls' := #[.val (.int p0), .val (.int p1), .val (.int p2), .val (.int p3), .val (.int u1), .val (.int u2), .val (.ref a3), .val (.ref a6), .val (.ref a3), .val (.ref a6), .unset, .unset]) rfl ?_
      refine OwnK.aload X26 hx (hb hby at_62) (pc' := 64) rfl (v := (.ref a3)) rfl rfl ?_
      refine OwnK.callS_ X26 hx hZ hown (y := (⟨"com/example/redbark/redbark/KeyArrays", "length", "(Ljava/lang/Object;)I"⟩ : MethodName)) (hw _ (List.mem_of_getElem? (i := 11) rfl)) (hw _ (List.mem_of_getElem? (i := 12) rfl)) (hw _ (List.mem_of_getElem? (i := 13) rfl)) (hw _ (List.mem_of_getElem? (i := 14) rfl)) (by decide) (own_met2 l Z a0 hw h26 a3 _ _ _ _ _ _ f28 f29 (Or.inl (Ins.self f29)) ) (by decide) (W := 0) (by decide) e26 (by rw [hml]; rfl) own_pd_3 (argsL := [(.ref a3)]) rfl (S := []) rfl (Nat.le_of_eq rfl) (hb hby at_64) (pc' := 67) rfl (by decide) (by decide) (fun T35 v35 L35 X35 hQ35 => ?_)
      obtain ⟨rfl, e35, rfl⟩ := hQ35
      have N36 := Fr.app N32 (Fr.nil n0)
      refine OwnK.istore X35 hx (hb hby at_67) (pc' := 69) rfl (Ls' := #[.val (.int p0), .val (.int p1), .val (.int p2), .val (.int p3), .val (.int u1), .val (.int u2), .val (.ref a3), .val (.ref a6), .val (.ref a3), .val (.ref a6), .val (.int u1), .unset]) rfl ?_
      refine OwnK.aload X35 hx (hb hby at_69) (pc' := 71) rfl (v := (.ref a6)) rfl rfl ?_
      refine OwnK.callS_ X35 hx hZ hown (y := (⟨"com/example/redbark/redbark/KeyArrays", "length", "(Ljava/lang/Object;)I"⟩ : MethodName)) (hw _ (List.mem_of_getElem? (i := 11) rfl)) (hw _ (List.mem_of_getElem? (i := 12) rfl)) (hw _ (List.mem_of_getElem? (i := 13) rfl)) (hw _ (List.mem_of_getElem? (i := 14) rfl)) (by decide) (own_met2 l Z a0 hw h26 a6 _ _ _ _ _ _ V26 f30 (own_isI (hw _ (List.mem_of_getElem? (i := 0) rfl)) f30) ) (by decide) (W := 0) (by decide) e35 (by rw [hml]; rfl) own_pd_3 (argsL := [(.ref a6)]) rfl (S := []) rfl (Nat.le_of_eq rfl) (hb hby at_71) (pc' := 74) rfl (by decide) (by decide) (fun T37 v37 L37 X37 hQ37 => ?_)
      obtain ⟨rfl, e37, rfl⟩ := hQ37
      have N38 := Fr.app N36 (Fr.nil n0)
      refine OwnK.istore X37 hx (hb hby at_74) (pc' := 76) rfl (Ls' := #[.val (.int p0), .val (.int p1), .val (.int p2), .val (.int p3), .val (.int u1), .val (.int u2), .val (.ref a3), .val (.ref a6), .val (.ref a3), .val (.ref a6), .val (.int u1), .val (.int u2)]) rfl ?_
      refine OwnK.iload X37 hx (hb hby at_76) (pc' := 78) rfl (v := u1) rfl ?_
      refine OwnK.iload X37 hx (hb hby at_78) (pc' := 80) rfl (v := u1) rfl ?_
      refine OwnK.icmp_ne X37 hx (hb hby at_80) (by decide) (pcT := 94) (by decide) (pc' := 83) rfl (fun (hc80 : ¬ u1.toInt = u1.toInt) => absurd rfl hc80) (fun hc80 => ?_)
      refine OwnK.iload X37 hx (hb hby at_83) (pc' := 85) rfl (v := u2) rfl ?_
      refine OwnK.iload X37 hx (hb hby at_85) (pc' := 87) rfl (v := u2) rfl ?_
      refine OwnK.icmp_ne X37 hx (hb hby at_87) (by decide) (pcT := 94) (by decide) (pc' := 90) rfl (fun (hc87 : ¬ u2.toInt = u2.toInt) => absurd rfl hc87) (fun hc87 => ?_)
      refine OwnK.iconst X37 hx (hb hby at_90) (pc' := 91) rfl (v := (1 : Int32)) (by decide) ?_
      refine OwnK.goto_ X37 hx (hb hby at_91) (by decide) (pc' := 95) (by decide) ?_
      refine OwnK.retN_ X37 hx hret (by simp) hlk (hb hby at_95) (by decide) (by decide) ?_
      exact ⟨rfl, N38⟩
  · refine OwnK.aload X6 hx (hb hby at_30) (pc' := 32) rfl (v := (.ref a3)) rfl rfl ?_
    refine OwnK.iload X6 hx (hb hby at_32) (pc' := 34) rfl (v := u1) rfl ?_
    refine OwnK.iconst X6 hx (hb hby at_34) (pc' := 35) rfl (v := (1 : Int32)) (by decide) ?_
    refine OwnK.isub X6 hx (hb hby at_35) (pc' := 36) rfl ?_
    refine OwnK.iloadN X6 hx (hb hby at_36) (pc' := 37) rfl (v := p2) rfl ?_
    have f40 := f9.pad (pad_rep [] (.int (0 : Int32)) 64)
    have hs_a3 : (u1 - (1 : Int32)).toInt = u1.toInt - 1 := own_sub1 (by omega) (by have := b_u1.2; omega)
    refine OwnK.iastore X6 hx hZ e6 f40 (i := (u1.toInt - 1).toNat) (by omega) (by omega) (by show _ < 64; omega) (hb hby at_37) (pc' := 38) rfl (fun T39 h39 X39 e39 W39 V39 => ?_)
    have f41 := f10.wr W39
    have f42 := V6.other W39 (Ne.symm q7)
    have f43 := Q6.wr W39
    have N44 := Fr.snoc X39 N0 ge_a3
    have O45 := O11.wr W39 ge_a3
    have z46 : n0 ≤ h39.size := Nat.le_trans z8 (Keep.of_wr W39).1
    refine OwnK.iload X39 hx (hb hby at_38) (pc' := 40) rfl (v := u2) rfl ?_
    refine OwnK.if_le X39 hx (hb hby at_40) (by decide) (pcT := 54) (by decide) (pc' := 43) rfl (fun (hc47 : u2.toInt ≤ 0) => ?_) (fun (hc47 : 0 < u2.toInt) => ?_)
    · refine OwnK.aload X39 hx (hb hby at_54) (pc' := 56) rfl (v := (.ref a3)) rfl rfl ?_
      refine OwnK.astore X39 hx (hb hby at_56) (pc' := 58) rfl rfl (Ls' := #[.val (.int p0), .val (.int p1), .val (.int p2), .val (.int p3), .val (.int u1), .val (.int u2), .val (.ref a3), .val (.ref a6), .val (.ref a3), .unset, .unset, .unset]) rfl ?_
      refine OwnK.aload X39 hx (hb hby at_58) (pc' := 60) rfl (v := (.ref a6)) rfl rfl ?_
      refine OwnK.astore X39 hx (hb hby at_60) (pc' := 62) rfl rfl (Ls' := #[.val (.int p0), .val (.int p1), .val (.int p2), .val (.int p3), .val (.int u1), .val (.int u2), .val (.ref a3), .val (.ref a6), .val (.ref a3), .val (.ref a6), .unset, .unset]) rfl ?_
      refine OwnK.aload X39 hx (hb hby at_62) (pc' := 64) rfl (v := (.ref a3)) rfl rfl ?_
      refine OwnK.callS_ X39 hx hZ hown (y := (⟨"com/example/redbark/redbark/KeyArrays", "length", "(Ljava/lang/Object;)I"⟩ : MethodName)) (hw _ (List.mem_of_getElem? (i := 11) rfl)) (hw _ (List.mem_of_getElem? (i := 12) rfl)) (hw _ (List.mem_of_getElem? (i := 13) rfl)) (hw _ (List.mem_of_getElem? (i := 14) rfl)) (by decide) (own_met2 l Z a0 hw h39 a3 _ _ _ _ _ _ V39 f41 (Or.inl (Ins.self f41)) ) (by decide) (W := 0) (by decide) e39 (by rw [hml]; rfl) own_pd_3 (argsL := [(.ref a3)]) rfl (S := []) rfl (Nat.le_of_eq rfl) (hb hby at_64) (pc' := 67) rfl (by decide) (by decide) (fun T48 v48 L48 X48 hQ48 => ?_)
      obtain ⟨rfl, e48, rfl⟩ := hQ48
      have N49 := Fr.app N44 (Fr.nil n0)
      refine OwnK.istore X48 hx (hb hby at_67) (pc' := 69) rfl (Ls' := #[.val (.int p0), .val (.int p1), .val (.int p2), .val (.int p3), .val (.int u1), .val (.int u2), .val (.ref a3), .val (.ref a6), .val (.ref a3), .val (.ref a6), .val (.int u1), .unset]) rfl ?_
      refine OwnK.aload X48 hx (hb hby at_69) (pc' := 71) rfl (v := (.ref a6)) rfl rfl ?_
      refine OwnK.callS_ X48 hx hZ hown (y := (⟨"com/example/redbark/redbark/KeyArrays", "length", "(Ljava/lang/Object;)I"⟩ : MethodName)) (hw _ (List.mem_of_getElem? (i := 11) rfl)) (hw _ (List.mem_of_getElem? (i := 12) rfl)) (hw _ (List.mem_of_getElem? (i := 13) rfl)) (hw _ (List.mem_of_getElem? (i := 14) rfl)) (by decide) (own_met2 l Z a0 hw h39 a6 _ _ _ _ _ _ f42 f43 (own_isI (hw _ (List.mem_of_getElem? (i := 0) rfl)) f43) ) (by decide) (W := 0) (by decide) e48 (by rw [hml]; rfl) own_pd_3 (argsL := [(.ref a6)]) rfl (S := []) rfl (Nat.le_of_eq rfl) (hb hby at_71) (pc' := 74) rfl (by decide) (by decide) (fun T50 v50 L50 X50 hQ50 => ?_)
      obtain ⟨rfl, e50, rfl⟩ := hQ50
      have N51 := Fr.app N49 (Fr.nil n0)
      refine OwnK.istore X50 hx (hb hby at_74) (pc' := 76) rfl (Ls' := #[.val (.int p0), .val (.int p1), .val (.int p2), .val (.int p3), .val (.int u1), .val (.int u2), .val (.ref a3), .val (.ref a6), .val (.ref a3), .val (.ref a6), .val (.int u1), .val (.int u2)]) rfl ?_
      refine OwnK.iload X50 hx (hb hby at_76) (pc' := 78) rfl (v := u1) rfl ?_
      refine OwnK.iload X50 hx (hb hby at_78) (pc' := 80) rfl (v := u1) rfl ?_
      refine OwnK.icmp_ne X50 hx (hb hby at_80) (by decide) (pcT := 94) (by decide) (pc' := 83) rfl (fun (hc80 : ¬ u1.toInt = u1.toInt) => absurd rfl hc80) (fun hc80 => ?_)
      refine OwnK.iload X50 hx (hb hby at_83) (pc' := 85) rfl (v := u2) rfl ?_
      refine OwnK.iload X50 hx (hb hby at_85) (pc' := 87) rfl (v := u2) rfl ?_
      refine OwnK.icmp_ne X50 hx (hb hby at_87) (by decide) (pcT := 94) (by decide) (pc' := 90) rfl (fun (hc87 : ¬ u2.toInt = u2.toInt) => absurd rfl hc87) (fun hc87 => ?_)
      refine OwnK.iconst X50 hx (hb hby at_90) (pc' := 91) rfl (v := (1 : Int32)) (by decide) ?_
      refine OwnK.goto_ X50 hx (hb hby at_91) (by decide) (pc' := 95) (by decide) ?_
      refine OwnK.retN_ X50 hx hret (by simp) hlk (hb hby at_95) (by decide) (by decide) ?_
      exact ⟨rfl, N51⟩
    · refine OwnK.aload X39 hx (hb hby at_43) (pc' := 45) rfl (v := (.ref a6)) rfl rfl ?_
      refine OwnK.iload X39 hx (hb hby at_45) (pc' := 47) rfl (v := u2) rfl ?_
      refine OwnK.iconst X39 hx (hb hby at_47) (pc' := 48) rfl (v := (1 : Int32)) (by decide) ?_
      refine OwnK.isub X39 hx (hb hby at_48) (pc' := 49) rfl ?_
      refine OwnK.iloadN X39 hx (hb hby at_49) (pc' := 50) rfl (v := p3) rfl ?_
      refine OwnK.callS_ X39 hx hZ hown (y := (⟨"java/lang/Integer", "valueOf", "(I)Ljava/lang/Integer;"⟩ : MethodName)) (hw _ (List.mem_of_getElem? (i := 3) rfl)) (hw _ (List.mem_of_getElem? (i := 4) rfl)) (hw _ (List.mem_of_getElem? (i := 5) rfl)) (hw _ (List.mem_of_getElem? (i := 6) rfl)) (by decide) (own_met1 l Z a0 hw h39 n0 z46 p3 aC kC vsC O45  SH SC AC CE ) (by decide) (W := 2) (by decide) e39 (by rw [hml]; rfl) own_pd_1 (argsL := [(.int p3)]) rfl (S := [(.int (u2 - (1 : Int32))), (.ref a6)]) rfl (Nat.le_of_eq rfl) (hb hby at_50) (pc' := 53) rfl (by decide) (by decide) (fun T52 v52 L52 X52 hQ52 => ?_)
      obtain ⟨r52, rfl, N52q, K52, E52q⟩ := hQ52
      have N53 := Fr.app N44 N52q
      have f54 := V39.keep K52 nin0
      have f55 := f41.keep K52
      have f56 := f42.keep K52 nin0
      have f57 := f43.keep K52
      have z58 : n0 ≤ T52.heap.size := Nat.le_trans z46 K52.1
      have O59 := O45.keep K52 all0
      have f61 := f56.pad (pad_rep [] .null 64)
      have hs_a6 : (u2 - (1 : Int32)).toInt = u2.toInt - 1 := own_sub1 (by omega) (by have := b_u2.2; omega)
      refine OwnK.aastore X52 hx hZ rfl f61 rfl rfl (OwnK.stoOf f61 O6 (Ins.of_exa E52q (hw _ (List.mem_of_getElem? (i := 10) rfl)))) (i := (u2.toInt - 1).toNat) (by omega) (by omega) (by show _ < 64; omega) (hb hby at_53) (pc' := 54) rfl (fun T60 h60 X60 e60 W60 V60 => ?_)
      have f62 := f54.other W60 q7
      have f63 := f55.wr W60
      have f64 := f57.wr W60
      have f65 := E52q.wr W60
      have N66 := Fr.snoc X60 N53 ge_a6
      have O67 := O59.wr W60 ge_a6
      have z68 : n0 ≤ h60.size := Nat.le_trans z58 (Keep.of_wr W60).1
      refine OwnK.aload X60 hx (hb hby at_54) (pc' := 56) rfl (v := (.ref a3)) rfl rfl ?_
      refine OwnK.astore X60 hx (hb hby at_56) (pc' := 58) rfl rfl (Ls' := #[.val (.int p0), .val (.int p1), .val (.int p2), .val (.int p3), .val (.int u1), .val (.int u2), .val (.ref a3), .val (.ref a6), .val (.ref a3), .unset, .unset, .unset]) rfl ?_
      refine OwnK.aload X60 hx (hb hby at_58) (pc' := 60) rfl (v := (.ref a6)) rfl rfl ?_
      refine OwnK.astore X60 hx (hb hby at_60) (pc' := 62) rfl rfl (Ls' := #[.val (.int p0), .val (.int p1), .val (.int p2), .val (.int p3), .val (.int u1), .val (.int u2), .val (.ref a3), .val (.ref a6), .val (.ref a3), .val (.ref a6), .unset, .unset]) rfl ?_
      refine OwnK.aload X60 hx (hb hby at_62) (pc' := 64) rfl (v := (.ref a3)) rfl rfl ?_
      refine OwnK.callS_ X60 hx hZ hown (y := (⟨"com/example/redbark/redbark/KeyArrays", "length", "(Ljava/lang/Object;)I"⟩ : MethodName)) (hw _ (List.mem_of_getElem? (i := 11) rfl)) (hw _ (List.mem_of_getElem? (i := 12) rfl)) (hw _ (List.mem_of_getElem? (i := 13) rfl)) (hw _ (List.mem_of_getElem? (i := 14) rfl)) (by decide) (own_met2 l Z a0 hw h60 a3 _ _ _ _ _ _ f62 f63 (Or.inl (Ins.self f63)) ) (by decide) (W := 0) (by decide) e60 (by rw [hml]; rfl) own_pd_3 (argsL := [(.ref a3)]) rfl (S := []) rfl (Nat.le_of_eq rfl) (hb hby at_64) (pc' := 67) rfl (by decide) (by decide) (fun T69 v69 L69 X69 hQ69 => ?_)
      obtain ⟨rfl, e69, rfl⟩ := hQ69
      have N70 := Fr.app N66 (Fr.nil n0)
      refine OwnK.istore X69 hx (hb hby at_67) (pc' := 69) rfl (Ls' := #[.val (.int p0), .val (.int p1), .val (.int p2), .val (.int p3), .val (.int u1), .val (.int u2), .val (.ref a3), .val (.ref a6), .val (.ref a3), .val (.ref a6), .val (.int u1), .unset]) rfl ?_
      refine OwnK.aload X69 hx (hb hby at_69) (pc' := 71) rfl (v := (.ref a6)) rfl rfl ?_
      refine OwnK.callS_ X69 hx hZ hown (y := (⟨"com/example/redbark/redbark/KeyArrays", "length", "(Ljava/lang/Object;)I"⟩ : MethodName)) (hw _ (List.mem_of_getElem? (i := 11) rfl)) (hw _ (List.mem_of_getElem? (i := 12) rfl)) (hw _ (List.mem_of_getElem? (i := 13) rfl)) (hw _ (List.mem_of_getElem? (i := 14) rfl)) (by decide) (own_met2 l Z a0 hw h60 a6 _ _ _ _ _ _ V60 f64 (own_isI (hw _ (List.mem_of_getElem? (i := 0) rfl)) f64) ) (by decide) (W := 0) (by decide) e69 (by rw [hml]; rfl) own_pd_3 (argsL := [(.ref a6)]) rfl (S := []) rfl (Nat.le_of_eq rfl) (hb hby at_71) (pc' := 74) rfl (by decide) (by decide) (fun T71 v71 L71 X71 hQ71 => ?_)
      obtain ⟨rfl, e71, rfl⟩ := hQ71
      have N72 := Fr.app N70 (Fr.nil n0)
      refine OwnK.istore X71 hx (hb hby at_74) (pc' := 76) rfl (Ls' := #[.val (.int p0), .val (.int p1), .val (.int p2), .val (.int p3), .val (.int u1), .val (.int u2), .val (.ref a3), .val (.ref a6), .val (.ref a3), .val (.ref a6), .val (.int u1), .val (.int u2)]) rfl ?_
      refine OwnK.iload X71 hx (hb hby at_76) (pc' := 78) rfl (v := u1) rfl ?_
      refine OwnK.iload X71 hx (hb hby at_78) (pc' := 80) rfl (v := u1) rfl ?_
      refine OwnK.icmp_ne X71 hx (hb hby at_80) (by decide) (pcT := 94) (by decide) (pc' := 83) rfl (fun (hc80 : ¬ u1.toInt = u1.toInt) => absurd rfl hc80) (fun hc80 => ?_)
      refine OwnK.iload X71 hx (hb hby at_83) (pc' := 85) rfl (v := u2) rfl ?_
      refine OwnK.iload X71 hx (hb hby at_85) (pc' := 87) rfl (v := u2) rfl ?_
      refine OwnK.icmp_ne X71 hx (hb hby at_87) (by decide) (pcT := 94) (by decide) (pc' := 90) rfl (fun (hc87 : ¬ u2.toInt = u2.toInt) => absurd rfl hc87) (fun hc87 => ?_)
      refine OwnK.iconst X71 hx (hb hby at_90) (pc' := 91) rfl (v := (1 : Int32)) (by decide) ?_
      refine OwnK.goto_ X71 hx (hb hby at_91) (by decide) (pc' := 95) (by decide) ?_
      refine OwnK.retN_ X71 hx hret (by simp) hlk (hb hby at_95) (by decide) (by decide) ?_
      exact ⟨rfl, N72⟩
set_option maxRecDepth 65536 in
set_option maxHeartbeats 40000000 in
theorem comes_1 {Post : Tables → Env → Array Value → State → Outcome → State → Prop} (hpost : ∀ tb e args s v u, (limb_1_1.after args s (.returned v) u = true ∧ limb_1_2.after args s (.returned v) u = true ∧ True) → FrameEnd s (.returned v) u (Jvm.fieldLocs frame_1_writes args s ++ Jvm.arrayLocs frame_1_arrays args s ++ Jvm.staticLocs frame_1_statics s) 16 320 → Post tb e args s (.returned v) u) :
    ArmFor flags0 classFile x code maxLocals ret World_1 tables_1 room_1 Calls_1 rest_1 Pre_1 Post := by
  intro l hfl _ _ p e ha hc hk s m args below hf hA hF happ hP
  obtain ⟨hcalls, hrest, hpre⟩ := hP
  obtain ⟨-, -, -, hnamed, -, -, -, hat⟩ := (Spec.applies_iff hf).mp happ
  obtain ⟨hg, hn⟩ := and_e (Cond.before_iff.mp (show (Jvm.Cond.and given_1 narrow_1).before args s = true from hpre))
  obtain ⟨hcnt, hg0⟩ := and_e hg
  obtain ⟨ha0, hg1⟩ := and_e hg0
  obtain ⟨ha1, hg2⟩ := and_e hg1
  obtain ⟨ha2, hg3⟩ := and_e hg2
  have ha3 := hg3
  obtain ⟨w0, w1, w2, w3, rfl⟩ : ∃ w0 w1 w2 w3 : Value, args = #[w0, w1, w2, w3] := by
    have hs : args.size = 4 := by simpa [Cond.value, given_1] using hcnt
    obtain ⟨L⟩ := args
    match L, hs with
    | [w0, w1, w2, w3], _ => exact ⟨w0, w1, w2, w3, rfl⟩
  have hw := fun d (hd : d ∈ tables_1) => atoms_spec (ws := Jvm.Cond.code x code maxLocals ret :: tables_1) hat d (List.mem_cons_of_mem _ hd)
  obtain ⟨hsets, hown0⟩ := atoms_of _ (rest_1_c_eq ▸ (show rest_1_c.before _ s = true from hrest))
  have hfit : Fit s := fun {y c} hc i hi => by
    obtain ⟨ha, rfl⟩ := Array.getElem?_eq_some_iff.mp hc
    have q := List.all_eq_true.mp ((Array.all_eq_true_iff_forall_mem.mp hF) _ (Array.getElem_mem ha)) i (List.mem_range.mpr hi)
    simpa [Array.getElem?_eq_getElem hi] using q
  obtain ⟨i0, e0⟩ := is_v ha0
  obtain rfl : w0 = (.int i0) := Option.some.inj e0
  obtain ⟨i1, e1⟩ := is_v ha1
  obtain rfl : w1 = (.int i1) := Option.some.inj e1
  obtain ⟨i2, e2⟩ := is_v ha2
  obtain rfl : w2 = (.int i2) := Option.some.inj e2
  obtain ⟨i3, e3⟩ := is_v ha3
  obtain rfl : w3 = (.int i3) := Option.some.inj e3
  obtain ⟨_, _, exh, eyh, -⟩ := cmp_v (Or.inl (Cond.before_iff.mp (hsets _ (List.mem_of_getElem? (i := 3) rfl))))
  have qh := own_eqv (Cond.before_iff.mp (hsets _ (List.mem_of_getElem? (i := 3) rfl))) exh (Term.int_eval 127)
  subst qh
  have SH := Sta.start exh (Or.inl (hsets _ (List.mem_of_getElem? (i := 1) rfl)))
  obtain ⟨aC, evC⟩ := arr_v (Cond.before_iff.mp (hsets _ (List.mem_of_getElem? (i := 4) rfl)))
  have SC := Sta.start evC (Or.inr ⟨(hw _ (List.mem_of_getElem? (i := 8) rfl)), (hsets _ (List.mem_of_getElem? (i := 2) rfl))⟩)
  obtain ⟨kC, vsC, AC, CE⟩ := own_cache (fun _ => evC) (Cond.before_iff.mp (hsets _ (List.mem_of_getElem? (i := 4) rfl))) (Cond.before_iff.mp (hsets _ (List.mem_of_getElem? (i := 6) rfl))) (Cond.before_iff.mp (hsets _ (List.mem_of_getElem? (i := 7) rfl)))
  obtain ⟨n, o, h1, h2, h3, _, L, rfl, ⟨rfl, N⟩, hq⟩ := own_law l s _ hw tables_1 s.heap s.heap.size (Nat.le_refl _) i0 i1 i2 i3 aC kC vsC (Old.start s) SH SC AC CE p e ha hc hk s m _ below hf ((Spec.applies_iff_loose hf).mp happ).1 ⟨rfl, State.Warmed39.refl s, rfl⟩ trivial
  refine ⟨n, _, h1, h2, h3, hpost _ _ _ _ _ _ ⟨Cond.after_iff.mpr rfl, Cond.after_iff.mpr (eq_i res_at (Term.int_eval (1)) rfl), trivial⟩ ⟨hq.1, hq.2.1, (hq.2.2.sift fun y hy => Or.inr (N y hy)).mono (by decide) (by decide)⟩⟩
theorem main_1_1 : Claimed_1_1 := comes_1 fun _ _ _ _ _ _ h hF => ⟨h.1, hF⟩
theorem main_1_2 : Claimed_1_2 := comes_1 fun _ _ _ _ _ _ h hF => ⟨h.2.1, hF⟩
end Jvm.Pilot.@@N@@
namespace Jvm.Pilot.@@N@@
open Jvm Jvm.ClassFile Sem Op Lib Jvm.Free Jvm.Stand Jvm.Pilot.@@N@@.Jvm.D
/-! MADE BY PROGRAM (witnessworld.py) out of the Statement's table words and the real class files: 17 classes; the members and pool entries that the words name. The judged class is class 1, her method 1. -/
namespace start1
open Jvm.ClassFile
def u (s : String) : CpInfo := .utf8 (stringToUtf16 s)
/-- a pool by its gaps: so many unusable entries, then the entry; so many at the end -/
def gap : Nat → List CpInfo → List CpInfo
  | 0, r => r
  | n + 1, r => .unusable :: gap n r
def poolList (es : List (Nat × CpInfo)) (last : Nat) : List CpInfo := es.foldr (fun e r => gap e.1 (e.2 :: r)) (gap last [])
def pool (es : List (Nat × CpInfo)) (last : Nat) : Array CpInfo := ⟨poolList es last⟩
def fileOf (pool : Array CpInfo) (this : Nat) (attrs : Array Attribute := #[]) (ms : Array MethodInfo := #[]) (fl : Nat := 33) (sup : Nat := 0) (ifs : Array Nat := #[]) (fds : Array FieldInfo := #[]) : ClassFile where
  minorVersion := 0
  majorVersion := 65
  constantPool := pool
  accessFlags := fl
  thisClass := this
  superClass := sup
  interfaces := ifs
  fields := fds
  methods := ms
  attributes := attrs
def plain (name : String) (sup : Option ClassId) : Class where
  name := name
  kind := .ordinary
  loader := none
  accessFlags := 33
  super := sup
  interfaces := #[]
  cf := none
  fields := #[]
  methods := #[]
  instanceTypes := #[]
  staticTypes := #[]
  resolved := #[]
  callSites := []
  init := .initialized
  statics := none
  mirror := none

def pool0 : Array CpInfo := pool [(5, u "<init>"), (0, u "()V"), (1, .class_ 10), (1, u "java/lang/Object")] 113

def k0c0 : Code := { maxStack := 0, maxLocals := 1, code := object_method_1_code, exceptionTable := #[], attributes := #[] }
def k0m0 : Method := { name := "<init>", desc := "()V", sig := { parameters := [], returnType := none }, accessFlags := 1, code := some k0c0 }
/-- java/lang/Object -/
def k0 : Class := { plain "java/lang/Object" none with
  accessFlags := 33
  interfaces := #[]
  cf := some (fileOf pool0 8 #[] #[{ accessFlags := 1, nameIndex := 5, descriptorIndex := 6, attributes := #[] }] 33 0 #[] #[])
  fields := #[]
  methods := #[k0m0]
  instanceTypes := #[]
  staticTypes := #[]
  resolved := Array.replicate 124 none
  statics := none }

def pool1 : Array CpInfo := pool [(2, .class_ 4), (1, u "java/lang/Object"), (0, u "<init>"), (0, u "()V"), (0, .methodref 8 9), (0, .class_ 10), (0, .nameAndType 11 12), (0, u "java/lang/Integer"), (0, u "valueOf"), (0, u "(I)Ljava/lang/Integer;"), (0, .methodref 14 15), (0, .class_ 16), (0, .nameAndType 17 18), (0, u "com/example/redbark/redbark/KeyArrays"), (0, u "length"), (0, u "(Ljava/lang/Object;)I"), (0, .class_ 20), (0, u "com/example/redbark/redbark/KeyArraysLengthPinLaw"), (2, u "law"), (0, u "(IIII)Z")] 7

def k1m0 : Method := { name := "<init>", desc := "()V", sig := { parameters := [], returnType := none }, accessFlags := 2, code := none }
def k1c1 : Code := { maxStack := 3, maxLocals := 12, code := code, exceptionTable := #[], attributes := #[] }
def k1m1 : Method := { name := "law", desc := "(IIII)Z", sig := { parameters := [.int, .int, .int, .int], returnType := some .boolean }, accessFlags := 9, code := some k1c1 }
/-- com/example/redbark/redbark/KeyArraysLengthPinLaw -/
def k1 : Class := { plain "com/example/redbark/redbark/KeyArraysLengthPinLaw" (some 0) with
  accessFlags := 49
  interfaces := #[]
  cf := some (fileOf pool1 19 #[] #[{ accessFlags := 2, nameIndex := 5, descriptorIndex := 6, attributes := #[] }, { accessFlags := 9, nameIndex := 23, descriptorIndex := 24, attributes := #[] }] 49 2 #[] #[])
  fields := #[]
  methods := #[k1m0, k1m1]
  instanceTypes := #[]
  staticTypes := #[]
  resolved := Array.replicate 32 none
  statics := none }

def pool2 : Array CpInfo := pool [(1, .class_ 2), (0, u "java/io/Serializable"), (0, .class_ 4), (0, u "java/lang/Object")] 2

/-- java/io/Serializable -/
def k2 : Class := { plain "java/io/Serializable" (some 0) with
  accessFlags := 1537
  interfaces := #[]
  cf := some (fileOf pool2 1 #[] #[] 1537 3 #[] #[])
  fields := #[]
  methods := #[]
  instanceTypes := #[]
  staticTypes := #[]
  resolved := Array.replicate 7 none
  statics := none }

def pool3 : Array CpInfo := pool [(1, .methodref 2 3), (0, .class_ 4), (0, .nameAndType 5 6), (0, u "java/lang/Object"), (0, u "<init>"), (0, u "()V"), (1, .class_ 10), (1, u "java/lang/Number"), (2, .class_ 14), (0, u "java/io/Serializable"), (0, u "serialVersionUID"), (0, u "J")] 20

def k3c0 : Code := { maxStack := 1, maxLocals := 1, code := jdk_18_method_1_code, exceptionTable := #[], attributes := #[] }
def k3m0 : Method := { name := "<init>", desc := "()V", sig := { parameters := [], returnType := none }, accessFlags := 1, code := some k3c0 }
/-- java/lang/Number -/
def k3 : Class := { plain "java/lang/Number" (some 0) with
  accessFlags := 1057
  interfaces := #[2]
  cf := some (fileOf pool3 8 #[] #[{ accessFlags := 1, nameIndex := 5, descriptorIndex := 6, attributes := #[] }] 1057 2 #[13] #[{ accessFlags := 26, nameIndex := 15, descriptorIndex := 16, attributes := #[] }])
  fields := #[{ name := "serialVersionUID", type := .long, accessFlags := 26, slot := 0, constantValue := 0 }]
  methods := #[k3m0]
  instanceTypes := #[]
  staticTypes := #[.long]
  resolved := Array.replicate 37 none
  statics := none }

def pool4 : Array CpInfo := pool [(1, .class_ 2), (0, u "java/lang/Comparable"), (0, .class_ 4), (0, u "java/lang/Object")] 7

/-- java/lang/Comparable -/
def k4 : Class := { plain "java/lang/Comparable" (some 0) with
  accessFlags := 1537
  interfaces := #[]
  cf := some (fileOf pool4 1 #[] #[] 1537 3 #[] #[])
  fields := #[]
  methods := #[]
  instanceTypes := #[]
  staticTypes := #[]
  resolved := Array.replicate 12 none
  statics := none }

def pool5 : Array CpInfo := pool [(1, .class_ 2), (0, u "java/lang/constant/Constable"), (0, .class_ 4), (0, u "java/lang/Object")] 6

/-- java/lang/constant/Constable -/
def k5 : Class := { plain "java/lang/constant/Constable" (some 0) with
  accessFlags := 1537
  interfaces := #[]
  cf := some (fileOf pool5 1 #[] #[] 1537 3 #[] #[])
  fields := #[]
  methods := #[]
  instanceTypes := #[]
  staticTypes := #[]
  resolved := Array.replicate 11 none
  statics := none }

def pool6 : Array CpInfo := pool [(1, .class_ 2), (0, u "java/lang/constant/ConstantDesc"), (0, .class_ 4), (0, u "java/lang/Object")] 32

/-- java/lang/constant/ConstantDesc -/
def k6 : Class := { plain "java/lang/constant/ConstantDesc" (some 0) with
  accessFlags := 1537
  interfaces := #[]
  cf := some (fileOf pool6 1 #[] #[] 1537 3 #[] #[])
  fields := #[]
  methods := #[]
  instanceTypes := #[]
  staticTypes := #[]
  resolved := Array.replicate 37 none
  statics := none }

def pool7 : Array CpInfo := pool [(1, .class_ 2), (0, u "java/lang/Integer"), (16, u "digits"), (0, u "[C"), (46, u "<init>"), (17, u "DigitOnes"), (0, u "[B"), (2, u "DigitTens"), (10, .nameAndType 67 101), (0, u "()V"), (85, u "valueOf"), (0, u "(I)Ljava/lang/Integer;"), (0, .class_ 190), (0, u "java/lang/Integer$IntegerCache"), (0, .fieldref 189 192), (0, .nameAndType 193 194), (0, u "high"), (0, u "I"), (0, .fieldref 189 196), (0, .nameAndType 197 198), (0, u "cache"), (0, u "[Ljava/lang/Integer;"), (0, .methodref 1 200), (0, .nameAndType 67 201), (0, u "(I)V"), (0, .methodref 203 100), (0, .class_ 204), (0, u "java/lang/Number"), (0, .fieldref 1 206), (0, .nameAndType 207 194), (0, u "value"), (94, u "TYPE"), (0, u "Ljava/lang/Class;"), (0, .class_ 305), (0, u "java/lang/Comparable"), (0, .class_ 307), (0, u "java/lang/constant/Constable"), (0, .class_ 309), (0, u "java/lang/constant/ConstantDesc"), (0, u "MIN_VALUE"), (1, u "MAX_VALUE"), (3, u "SIZE"), (1, u "BYTES"), (1, u "serialVersionUID"), (0, u "J")] 131

def k7c0 : Code := { maxStack := 3, maxLocals := 1, code := jdk_33_method_22_code, exceptionTable := #[], attributes := #[] }
def k7m0 : Method := { name := "valueOf", desc := "(I)Ljava/lang/Integer;", sig := { parameters := [.int], returnType := some (.object "java/lang/Integer") }, accessFlags := 9, code := some k7c0 }
def k7c1 : Code := { maxStack := 2, maxLocals := 2, code := jdk_33_method_23_code, exceptionTable := #[], attributes := #[] }
def k7m1 : Method := { name := "<init>", desc := "(I)V", sig := { parameters := [.int], returnType := none }, accessFlags := 1, code := some k7c1 }
/-- java/lang/Integer -/
def k7 : Class := { plain "java/lang/Integer" (some 3) with
  accessFlags := 49
  interfaces := #[4, 5, 6]
  cf := some (fileOf pool7 1 #[.nestMembers #[189]] #[{ accessFlags := 9, nameIndex := 187, descriptorIndex := 188, attributes := #[] }, { accessFlags := 1, nameIndex := 67, descriptorIndex := 201, attributes := #[] }] 49 203 #[304, 306, 308] #[{ accessFlags := 25, nameIndex := 310, descriptorIndex := 194, attributes := #[] }, { accessFlags := 25, nameIndex := 312, descriptorIndex := 194, attributes := #[] }, { accessFlags := 25, nameIndex := 302, descriptorIndex := 303, attributes := #[] }, { accessFlags := 24, nameIndex := 19, descriptorIndex := 20, attributes := #[] }, { accessFlags := 24, nameIndex := 89, descriptorIndex := 86, attributes := #[] }, { accessFlags := 24, nameIndex := 85, descriptorIndex := 86, attributes := #[] }, { accessFlags := 18, nameIndex := 207, descriptorIndex := 194, attributes := #[] }, { accessFlags := 25, nameIndex := 316, descriptorIndex := 194, attributes := #[] }, { accessFlags := 25, nameIndex := 318, descriptorIndex := 194, attributes := #[] }, { accessFlags := 26, nameIndex := 320, descriptorIndex := 321, attributes := #[] }])
  fields := #[{ name := "MIN_VALUE", type := .int, accessFlags := 25, slot := 0, constantValue := 0 }, { name := "MAX_VALUE", type := .int, accessFlags := 25, slot := 1, constantValue := 0 }, { name := "TYPE", type := (.object "java/lang/Class"), accessFlags := 25, slot := 2, constantValue := 0 }, { name := "digits", type := (.array .char), accessFlags := 24, slot := 3, constantValue := 0 }, { name := "DigitTens", type := (.array .byte), accessFlags := 24, slot := 4, constantValue := 0 }, { name := "DigitOnes", type := (.array .byte), accessFlags := 24, slot := 5, constantValue := 0 }, { name := "value", type := .int, accessFlags := 18, slot := 0, constantValue := 0 }, { name := "SIZE", type := .int, accessFlags := 25, slot := 6, constantValue := 0 }, { name := "BYTES", type := .int, accessFlags := 25, slot := 7, constantValue := 0 }, { name := "serialVersionUID", type := .long, accessFlags := 26, slot := 8, constantValue := 0 }]
  methods := #[k7m0, k7m1]
  instanceTypes := #[.int]
  staticTypes := #[.int, .int, (.object "java/lang/Class"), (.array .char), (.array .byte), (.array .byte), .int, .int, .long]
  resolved := Array.replicate 453 none
  statics := none }

def pool8 : Array CpInfo := pool [(2, .class_ 4), (1, u "java/lang/Object"), (0, u "<init>"), (0, u "()V"), (0, .class_ 8), (0, u "java/lang/Integer"), (7, .class_ 18), (1, u "java/lang/Integer$IntegerCache"), (0, u "$assertionsDisabled"), (0, u "Z"), (26, u "high"), (0, u "I"), (8, u "archivedCache"), (0, u "[Ljava/lang/Integer;"), (12, u "cache"), (0, u "low")] 27

def k8m0 : Method := { name := "<init>", desc := "()V", sig := { parameters := [], returnType := none }, accessFlags := 2, code := none }
/-- java/lang/Integer$IntegerCache -/
def k8 : Class := { plain "java/lang/Integer$IntegerCache" (some 0) with
  accessFlags := 48
  interfaces := #[]
  cf := some (fileOf pool8 16 #[.nestHost 7] #[{ accessFlags := 2, nameIndex := 5, descriptorIndex := 6, attributes := #[] }] 48 2 #[] #[{ accessFlags := 24, nameIndex := 72, descriptorIndex := 48, attributes := #[] }, { accessFlags := 24, nameIndex := 47, descriptorIndex := 48, attributes := #[] }, { accessFlags := 24, nameIndex := 71, descriptorIndex := 58, attributes := #[] }, { accessFlags := 8, nameIndex := 57, descriptorIndex := 58, attributes := #[] }, { accessFlags := 4120, nameIndex := 19, descriptorIndex := 20, attributes := #[] }])
  fields := #[{ name := "low", type := .int, accessFlags := 24, slot := 0, constantValue := 0 }, { name := "high", type := .int, accessFlags := 24, slot := 1, constantValue := 0 }, { name := "cache", type := (.array (.object "java/lang/Integer")), accessFlags := 24, slot := 2, constantValue := 0 }, { name := "archivedCache", type := (.array (.object "java/lang/Integer")), accessFlags := 8, slot := 3, constantValue := 0 }, { name := "$assertionsDisabled", type := .boolean, accessFlags := 4120, slot := 4, constantValue := 0 }]
  methods := #[k8m0]
  instanceTypes := #[]
  staticTypes := #[.int, .int, (.array (.object "java/lang/Integer")), (.array (.object "java/lang/Integer")), .boolean]
  resolved := Array.replicate 100 none
  statics := some 0 }

def pool9 : Array CpInfo := pool [(2, .class_ 4), (1, u "java/lang/Object"), (0, u "<init>"), (0, u "()V"), (2, .class_ 10), (0, u "[I"), (0, .class_ 12), (0, u "[Ljava/lang/Object;"), (27, .class_ 41), (0, u "com/example/redbark/redbark/KeyArrays"), (11, u "length"), (0, u "(Ljava/lang/Object;)I")] 9

def k9m0 : Method := { name := "<init>", desc := "()V", sig := { parameters := [], returnType := none }, accessFlags := 2, code := none }
def k9c1 : Code := { maxStack := 1, maxLocals := 2, code := prog_10_method_5_code, exceptionTable := #[], attributes := #[] }
def k9m1 : Method := { name := "length", desc := "(Ljava/lang/Object;)I", sig := { parameters := [(.object "java/lang/Object")], returnType := some .int }, accessFlags := 8, code := some k9c1 }
/-- com/example/redbark/redbark/KeyArrays -/
def k9 : Class := { plain "com/example/redbark/redbark/KeyArrays" (some 0) with
  accessFlags := 48
  interfaces := #[]
  cf := some (fileOf pool9 40 #[] #[{ accessFlags := 2, nameIndex := 5, descriptorIndex := 6, attributes := #[] }, { accessFlags := 8, nameIndex := 53, descriptorIndex := 54, attributes := #[] }] 48 2 #[] #[])
  fields := #[]
  methods := #[k9m0, k9m1]
  instanceTypes := #[]
  staticTypes := #[]
  resolved := Array.replicate 64 none
  statics := none }

def pool10 : Array CpInfo := pool [(1, u "java/lang/Cloneable"), (0, .class_ 1), (0, u "java/lang/Object"), (0, .class_ 3)] 3

/-- java/lang/Cloneable -/
def k10 : Class := { plain "java/lang/Cloneable" (some 0) with
  accessFlags := 1537
  interfaces := #[]
  cf := some (fileOf pool10 2 #[] #[] 1537 4 #[] #[])
  fields := #[]
  methods := #[]
  instanceTypes := #[]
  staticTypes := #[]
  resolved := Array.replicate 8 none
  statics := none }

/-- the primitive byte -/
def k11 : Class := { plain "byte" none with kind := .primitive 'B', accessFlags := 0x411 }
/-- [B -/
def k12 : Class := { plain "[B" (some 0) with kind := .array 11 .byte, interfaces := #[10, 2], accessFlags := 1041 }

/-- the primitive int -/
def k13 : Class := { plain "int" none with kind := .primitive 'I', accessFlags := 0x411 }
/-- [I -/
def k14 : Class := { plain "[I" (some 0) with kind := .array 13 .int, interfaces := #[10, 2], accessFlags := 1041 }

/-- [Ljava/lang/Integer; -/
def k15 : Class := { plain "[Ljava/lang/Integer;" (some 0) with kind := .array 7 (.object "java/lang/Integer"), interfaces := #[10, 2], accessFlags := 1041 }

/-- [Ljava/lang/Object; -/
def k16 : Class := { plain "[Ljava/lang/Object;" (some 0) with kind := .array 0 (.object "java/lang/Object"), interfaces := #[10, 2], accessFlags := 1041 }

def heap : Heap := #[{ cls := 8, slots := #[.int 0, .int 127, .ref 1, .null, .int 0], vm := .statics 8 },
  { cls := 15, slots := #[.ref 2, .ref 3, .ref 4, .ref 5, .ref 6, .ref 7, .ref 8, .ref 9, .ref 10, .ref 11, .ref 12, .ref 13, .ref 14, .ref 15, .ref 16, .ref 17, .ref 18, .ref 19, .ref 20, .ref 21, .ref 22, .ref 23, .ref 24, .ref 25, .ref 26, .ref 27, .ref 28, .ref 29, .ref 30, .ref 31, .ref 32, .ref 33, .ref 34, .ref 35, .ref 36, .ref 37, .ref 38, .ref 39, .ref 40, .ref 41, .ref 42, .ref 43, .ref 44, .ref 45, .ref 46, .ref 47, .ref 48, .ref 49, .ref 50, .ref 51, .ref 52, .ref 53, .ref 54, .ref 55, .ref 56, .ref 57, .ref 58, .ref 59, .ref 60, .ref 61, .ref 62, .ref 63, .ref 64, .ref 65, .ref 66, .ref 67, .ref 68, .ref 69, .ref 70, .ref 71, .ref 72, .ref 73, .ref 74, .ref 75, .ref 76, .ref 77, .ref 78, .ref 79, .ref 80, .ref 81, .ref 82, .ref 83, .ref 84, .ref 85, .ref 86, .ref 87, .ref 88, .ref 89, .ref 90, .ref 91, .ref 92, .ref 93, .ref 94, .ref 95, .ref 96, .ref 97, .ref 98, .ref 99, .ref 100, .ref 101, .ref 102, .ref 103, .ref 104, .ref 105, .ref 106, .ref 107, .ref 108, .ref 109, .ref 110, .ref 111, .ref 112, .ref 113, .ref 114, .ref 115, .ref 116, .ref 117, .ref 118, .ref 119, .ref 120, .ref 121, .ref 122, .ref 123, .ref 124, .ref 125, .ref 126, .ref 127, .ref 128, .ref 129, .ref 130, .ref 131, .ref 132, .ref 133, .ref 134, .ref 135, .ref 136, .ref 137, .ref 138, .ref 139, .ref 140, .ref 141, .ref 142, .ref 143, .ref 144, .ref 145, .ref 146, .ref 147, .ref 148, .ref 149, .ref 150, .ref 151, .ref 152, .ref 153, .ref 154, .ref 155, .ref 156, .ref 157, .ref 158, .ref 159, .ref 160, .ref 161, .ref 162, .ref 163, .ref 164, .ref 165, .ref 166, .ref 167, .ref 168, .ref 169, .ref 170, .ref 171, .ref 172, .ref 173, .ref 174, .ref 175, .ref 176, .ref 177, .ref 178, .ref 179, .ref 180, .ref 181, .ref 182, .ref 183, .ref 184, .ref 185, .ref 186, .ref 187, .ref 188, .ref 189, .ref 190, .ref 191, .ref 192, .ref 193, .ref 194, .ref 195, .ref 196, .ref 197, .ref 198, .ref 199, .ref 200, .ref 201, .ref 202, .ref 203, .ref 204, .ref 205, .ref 206, .ref 207, .ref 208, .ref 209, .ref 210, .ref 211, .ref 212, .ref 213, .ref 214, .ref 215, .ref 216, .ref 217, .ref 218, .ref 219, .ref 220, .ref 221, .ref 222, .ref 223, .ref 224, .ref 225, .ref 226, .ref 227, .ref 228, .ref 229, .ref 230, .ref 231, .ref 232, .ref 233, .ref 234, .ref 235, .ref 236, .ref 237, .ref 238, .ref 239, .ref 240, .ref 241, .ref 242, .ref 243, .ref 244, .ref 245, .ref 246, .ref 247, .ref 248, .ref 249, .ref 250, .ref 251, .ref 252, .ref 253, .ref 254, .ref 255, .ref 256, .ref 257], vm := .none },
  { cls := 7, slots := #[.int (-128)], vm := .none },
  { cls := 7, slots := #[.int (-127)], vm := .none },
  { cls := 7, slots := #[.int (-126)], vm := .none },
  { cls := 7, slots := #[.int (-125)], vm := .none },
  { cls := 7, slots := #[.int (-124)], vm := .none },
  { cls := 7, slots := #[.int (-123)], vm := .none },
  { cls := 7, slots := #[.int (-122)], vm := .none },
  { cls := 7, slots := #[.int (-121)], vm := .none },
  { cls := 7, slots := #[.int (-120)], vm := .none },
  { cls := 7, slots := #[.int (-119)], vm := .none },
  { cls := 7, slots := #[.int (-118)], vm := .none },
  { cls := 7, slots := #[.int (-117)], vm := .none },
  { cls := 7, slots := #[.int (-116)], vm := .none },
  { cls := 7, slots := #[.int (-115)], vm := .none },
  { cls := 7, slots := #[.int (-114)], vm := .none },
  { cls := 7, slots := #[.int (-113)], vm := .none },
  { cls := 7, slots := #[.int (-112)], vm := .none },
  { cls := 7, slots := #[.int (-111)], vm := .none },
  { cls := 7, slots := #[.int (-110)], vm := .none },
  { cls := 7, slots := #[.int (-109)], vm := .none },
  { cls := 7, slots := #[.int (-108)], vm := .none },
  { cls := 7, slots := #[.int (-107)], vm := .none },
  { cls := 7, slots := #[.int (-106)], vm := .none },
  { cls := 7, slots := #[.int (-105)], vm := .none },
  { cls := 7, slots := #[.int (-104)], vm := .none },
  { cls := 7, slots := #[.int (-103)], vm := .none },
  { cls := 7, slots := #[.int (-102)], vm := .none },
  { cls := 7, slots := #[.int (-101)], vm := .none },
  { cls := 7, slots := #[.int (-100)], vm := .none },
  { cls := 7, slots := #[.int (-99)], vm := .none },
  { cls := 7, slots := #[.int (-98)], vm := .none },
  { cls := 7, slots := #[.int (-97)], vm := .none },
  { cls := 7, slots := #[.int (-96)], vm := .none },
  { cls := 7, slots := #[.int (-95)], vm := .none },
  { cls := 7, slots := #[.int (-94)], vm := .none },
  { cls := 7, slots := #[.int (-93)], vm := .none },
  { cls := 7, slots := #[.int (-92)], vm := .none },
  { cls := 7, slots := #[.int (-91)], vm := .none },
  { cls := 7, slots := #[.int (-90)], vm := .none },
  { cls := 7, slots := #[.int (-89)], vm := .none },
  { cls := 7, slots := #[.int (-88)], vm := .none },
  { cls := 7, slots := #[.int (-87)], vm := .none },
  { cls := 7, slots := #[.int (-86)], vm := .none },
  { cls := 7, slots := #[.int (-85)], vm := .none },
  { cls := 7, slots := #[.int (-84)], vm := .none },
  { cls := 7, slots := #[.int (-83)], vm := .none },
  { cls := 7, slots := #[.int (-82)], vm := .none },
  { cls := 7, slots := #[.int (-81)], vm := .none },
  { cls := 7, slots := #[.int (-80)], vm := .none },
  { cls := 7, slots := #[.int (-79)], vm := .none },
  { cls := 7, slots := #[.int (-78)], vm := .none },
  { cls := 7, slots := #[.int (-77)], vm := .none },
  { cls := 7, slots := #[.int (-76)], vm := .none },
  { cls := 7, slots := #[.int (-75)], vm := .none },
  { cls := 7, slots := #[.int (-74)], vm := .none },
  { cls := 7, slots := #[.int (-73)], vm := .none },
  { cls := 7, slots := #[.int (-72)], vm := .none },
  { cls := 7, slots := #[.int (-71)], vm := .none },
  { cls := 7, slots := #[.int (-70)], vm := .none },
  { cls := 7, slots := #[.int (-69)], vm := .none },
  { cls := 7, slots := #[.int (-68)], vm := .none },
  { cls := 7, slots := #[.int (-67)], vm := .none },
  { cls := 7, slots := #[.int (-66)], vm := .none },
  { cls := 7, slots := #[.int (-65)], vm := .none },
  { cls := 7, slots := #[.int (-64)], vm := .none },
  { cls := 7, slots := #[.int (-63)], vm := .none },
  { cls := 7, slots := #[.int (-62)], vm := .none },
  { cls := 7, slots := #[.int (-61)], vm := .none },
  { cls := 7, slots := #[.int (-60)], vm := .none },
  { cls := 7, slots := #[.int (-59)], vm := .none },
  { cls := 7, slots := #[.int (-58)], vm := .none },
  { cls := 7, slots := #[.int (-57)], vm := .none },
  { cls := 7, slots := #[.int (-56)], vm := .none },
  { cls := 7, slots := #[.int (-55)], vm := .none },
  { cls := 7, slots := #[.int (-54)], vm := .none },
  { cls := 7, slots := #[.int (-53)], vm := .none },
  { cls := 7, slots := #[.int (-52)], vm := .none },
  { cls := 7, slots := #[.int (-51)], vm := .none },
  { cls := 7, slots := #[.int (-50)], vm := .none },
  { cls := 7, slots := #[.int (-49)], vm := .none },
  { cls := 7, slots := #[.int (-48)], vm := .none },
  { cls := 7, slots := #[.int (-47)], vm := .none },
  { cls := 7, slots := #[.int (-46)], vm := .none },
  { cls := 7, slots := #[.int (-45)], vm := .none },
  { cls := 7, slots := #[.int (-44)], vm := .none },
  { cls := 7, slots := #[.int (-43)], vm := .none },
  { cls := 7, slots := #[.int (-42)], vm := .none },
  { cls := 7, slots := #[.int (-41)], vm := .none },
  { cls := 7, slots := #[.int (-40)], vm := .none },
  { cls := 7, slots := #[.int (-39)], vm := .none },
  { cls := 7, slots := #[.int (-38)], vm := .none },
  { cls := 7, slots := #[.int (-37)], vm := .none },
  { cls := 7, slots := #[.int (-36)], vm := .none },
  { cls := 7, slots := #[.int (-35)], vm := .none },
  { cls := 7, slots := #[.int (-34)], vm := .none },
  { cls := 7, slots := #[.int (-33)], vm := .none },
  { cls := 7, slots := #[.int (-32)], vm := .none },
  { cls := 7, slots := #[.int (-31)], vm := .none },
  { cls := 7, slots := #[.int (-30)], vm := .none },
  { cls := 7, slots := #[.int (-29)], vm := .none },
  { cls := 7, slots := #[.int (-28)], vm := .none },
  { cls := 7, slots := #[.int (-27)], vm := .none },
  { cls := 7, slots := #[.int (-26)], vm := .none },
  { cls := 7, slots := #[.int (-25)], vm := .none },
  { cls := 7, slots := #[.int (-24)], vm := .none },
  { cls := 7, slots := #[.int (-23)], vm := .none },
  { cls := 7, slots := #[.int (-22)], vm := .none },
  { cls := 7, slots := #[.int (-21)], vm := .none },
  { cls := 7, slots := #[.int (-20)], vm := .none },
  { cls := 7, slots := #[.int (-19)], vm := .none },
  { cls := 7, slots := #[.int (-18)], vm := .none },
  { cls := 7, slots := #[.int (-17)], vm := .none },
  { cls := 7, slots := #[.int (-16)], vm := .none },
  { cls := 7, slots := #[.int (-15)], vm := .none },
  { cls := 7, slots := #[.int (-14)], vm := .none },
  { cls := 7, slots := #[.int (-13)], vm := .none },
  { cls := 7, slots := #[.int (-12)], vm := .none },
  { cls := 7, slots := #[.int (-11)], vm := .none },
  { cls := 7, slots := #[.int (-10)], vm := .none },
  { cls := 7, slots := #[.int (-9)], vm := .none },
  { cls := 7, slots := #[.int (-8)], vm := .none },
  { cls := 7, slots := #[.int (-7)], vm := .none },
  { cls := 7, slots := #[.int (-6)], vm := .none },
  { cls := 7, slots := #[.int (-5)], vm := .none },
  { cls := 7, slots := #[.int (-4)], vm := .none },
  { cls := 7, slots := #[.int (-3)], vm := .none },
  { cls := 7, slots := #[.int (-2)], vm := .none },
  { cls := 7, slots := #[.int (-1)], vm := .none },
  { cls := 7, slots := #[.int 0], vm := .none },
  { cls := 7, slots := #[.int 1], vm := .none },
  { cls := 7, slots := #[.int 2], vm := .none },
  { cls := 7, slots := #[.int 3], vm := .none },
  { cls := 7, slots := #[.int 4], vm := .none },
  { cls := 7, slots := #[.int 5], vm := .none },
  { cls := 7, slots := #[.int 6], vm := .none },
  { cls := 7, slots := #[.int 7], vm := .none },
  { cls := 7, slots := #[.int 8], vm := .none },
  { cls := 7, slots := #[.int 9], vm := .none },
  { cls := 7, slots := #[.int 10], vm := .none },
  { cls := 7, slots := #[.int 11], vm := .none },
  { cls := 7, slots := #[.int 12], vm := .none },
  { cls := 7, slots := #[.int 13], vm := .none },
  { cls := 7, slots := #[.int 14], vm := .none },
  { cls := 7, slots := #[.int 15], vm := .none },
  { cls := 7, slots := #[.int 16], vm := .none },
  { cls := 7, slots := #[.int 17], vm := .none },
  { cls := 7, slots := #[.int 18], vm := .none },
  { cls := 7, slots := #[.int 19], vm := .none },
  { cls := 7, slots := #[.int 20], vm := .none },
  { cls := 7, slots := #[.int 21], vm := .none },
  { cls := 7, slots := #[.int 22], vm := .none },
  { cls := 7, slots := #[.int 23], vm := .none },
  { cls := 7, slots := #[.int 24], vm := .none },
  { cls := 7, slots := #[.int 25], vm := .none },
  { cls := 7, slots := #[.int 26], vm := .none },
  { cls := 7, slots := #[.int 27], vm := .none },
  { cls := 7, slots := #[.int 28], vm := .none },
  { cls := 7, slots := #[.int 29], vm := .none },
  { cls := 7, slots := #[.int 30], vm := .none },
  { cls := 7, slots := #[.int 31], vm := .none },
  { cls := 7, slots := #[.int 32], vm := .none },
  { cls := 7, slots := #[.int 33], vm := .none },
  { cls := 7, slots := #[.int 34], vm := .none },
  { cls := 7, slots := #[.int 35], vm := .none },
  { cls := 7, slots := #[.int 36], vm := .none },
  { cls := 7, slots := #[.int 37], vm := .none },
  { cls := 7, slots := #[.int 38], vm := .none },
  { cls := 7, slots := #[.int 39], vm := .none },
  { cls := 7, slots := #[.int 40], vm := .none },
  { cls := 7, slots := #[.int 41], vm := .none },
  { cls := 7, slots := #[.int 42], vm := .none },
  { cls := 7, slots := #[.int 43], vm := .none },
  { cls := 7, slots := #[.int 44], vm := .none },
  { cls := 7, slots := #[.int 45], vm := .none },
  { cls := 7, slots := #[.int 46], vm := .none },
  { cls := 7, slots := #[.int 47], vm := .none },
  { cls := 7, slots := #[.int 48], vm := .none },
  { cls := 7, slots := #[.int 49], vm := .none },
  { cls := 7, slots := #[.int 50], vm := .none },
  { cls := 7, slots := #[.int 51], vm := .none },
  { cls := 7, slots := #[.int 52], vm := .none },
  { cls := 7, slots := #[.int 53], vm := .none },
  { cls := 7, slots := #[.int 54], vm := .none },
  { cls := 7, slots := #[.int 55], vm := .none },
  { cls := 7, slots := #[.int 56], vm := .none },
  { cls := 7, slots := #[.int 57], vm := .none },
  { cls := 7, slots := #[.int 58], vm := .none },
  { cls := 7, slots := #[.int 59], vm := .none },
  { cls := 7, slots := #[.int 60], vm := .none },
  { cls := 7, slots := #[.int 61], vm := .none },
  { cls := 7, slots := #[.int 62], vm := .none },
  { cls := 7, slots := #[.int 63], vm := .none },
  { cls := 7, slots := #[.int 64], vm := .none },
  { cls := 7, slots := #[.int 65], vm := .none },
  { cls := 7, slots := #[.int 66], vm := .none },
  { cls := 7, slots := #[.int 67], vm := .none },
  { cls := 7, slots := #[.int 68], vm := .none },
  { cls := 7, slots := #[.int 69], vm := .none },
  { cls := 7, slots := #[.int 70], vm := .none },
  { cls := 7, slots := #[.int 71], vm := .none },
  { cls := 7, slots := #[.int 72], vm := .none },
  { cls := 7, slots := #[.int 73], vm := .none },
  { cls := 7, slots := #[.int 74], vm := .none },
  { cls := 7, slots := #[.int 75], vm := .none },
  { cls := 7, slots := #[.int 76], vm := .none },
  { cls := 7, slots := #[.int 77], vm := .none },
  { cls := 7, slots := #[.int 78], vm := .none },
  { cls := 7, slots := #[.int 79], vm := .none },
  { cls := 7, slots := #[.int 80], vm := .none },
  { cls := 7, slots := #[.int 81], vm := .none },
  { cls := 7, slots := #[.int 82], vm := .none },
  { cls := 7, slots := #[.int 83], vm := .none },
  { cls := 7, slots := #[.int 84], vm := .none },
  { cls := 7, slots := #[.int 85], vm := .none },
  { cls := 7, slots := #[.int 86], vm := .none },
  { cls := 7, slots := #[.int 87], vm := .none },
  { cls := 7, slots := #[.int 88], vm := .none },
  { cls := 7, slots := #[.int 89], vm := .none },
  { cls := 7, slots := #[.int 90], vm := .none },
  { cls := 7, slots := #[.int 91], vm := .none },
  { cls := 7, slots := #[.int 92], vm := .none },
  { cls := 7, slots := #[.int 93], vm := .none },
  { cls := 7, slots := #[.int 94], vm := .none },
  { cls := 7, slots := #[.int 95], vm := .none },
  { cls := 7, slots := #[.int 96], vm := .none },
  { cls := 7, slots := #[.int 97], vm := .none },
  { cls := 7, slots := #[.int 98], vm := .none },
  { cls := 7, slots := #[.int 99], vm := .none },
  { cls := 7, slots := #[.int 100], vm := .none },
  { cls := 7, slots := #[.int 101], vm := .none },
  { cls := 7, slots := #[.int 102], vm := .none },
  { cls := 7, slots := #[.int 103], vm := .none },
  { cls := 7, slots := #[.int 104], vm := .none },
  { cls := 7, slots := #[.int 105], vm := .none },
  { cls := 7, slots := #[.int 106], vm := .none },
  { cls := 7, slots := #[.int 107], vm := .none },
  { cls := 7, slots := #[.int 108], vm := .none },
  { cls := 7, slots := #[.int 109], vm := .none },
  { cls := 7, slots := #[.int 110], vm := .none },
  { cls := 7, slots := #[.int 111], vm := .none },
  { cls := 7, slots := #[.int 112], vm := .none },
  { cls := 7, slots := #[.int 113], vm := .none },
  { cls := 7, slots := #[.int 114], vm := .none },
  { cls := 7, slots := #[.int 115], vm := .none },
  { cls := 7, slots := #[.int 116], vm := .none },
  { cls := 7, slots := #[.int 117], vm := .none },
  { cls := 7, slots := #[.int 118], vm := .none },
  { cls := 7, slots := #[.int 119], vm := .none },
  { cls := 7, slots := #[.int 120], vm := .none },
  { cls := 7, slots := #[.int 121], vm := .none },
  { cls := 7, slots := #[.int 122], vm := .none },
  { cls := 7, slots := #[.int 123], vm := .none },
  { cls := 7, slots := #[.int 124], vm := .none },
  { cls := 7, slots := #[.int 125], vm := .none },
  { cls := 7, slots := #[.int 126], vm := .none },
  { cls := 7, slots := #[.int 127], vm := .none }]
def classes : Array Class := #[k0, k1, k2, k3, k4, k5, k6, k7, k8, k9, k10, k11, k12, k13, k14, k15, k16]
def interned : List (Array UInt16 × Addr) := []
def slotsUsed : Nat := 517
def theMethod : MethodId := ⟨1, 1⟩
def args0 : Array Value := #[.int 5, .int 6, .int 7, .int 8]
def aboutOver (below : List Frame) : State where
  vm := { classes := classes, interned := interned.toArray }
  heap := heap
  slotsUsed := slotsUsed
  threads := #[{ frames := .invoking theMethod args0 :: below }]
def below0 : List Frame := [.native { method := ⟨0, 0⟩, args := #[] }]
def about1 : State := aboutOver below0
def p0 : Program := .bare "" "" ""
def e0 : Env := launch0.env 0 0 0
theorem w_frames : about1.frames = Frame.invoking theMethod args0 :: below0 := rfl
set_option maxRecDepth 65536 in
theorem w_args : argsFit about1.vm theMethod args0 = true := by decide +kernel
set_option maxRecDepth 65536 in
theorem w_heap : heapFits about1 = true := by decide +kernel
set_option maxRecDepth 65536 in
theorem w_runnable : about1.curStatus? = some .runnable := by decide +kernel
set_option maxRecDepth 65536 in
theorem w_alone : about1.alone = true := by decide +kernel
set_option maxRecDepth 65536 in
theorem w_named : about1.methodNamed? x = some theMethod := by decide +kernel
set_option maxRecDepth 65536 in
theorem w_hears : about1.hears theMethod below0 = true := by decide +kernel
set_option maxRecDepth 65536 in
theorem w_ripe : about1.ripe theMethod args0 below0 = true := by decide +kernel
theorem w_running : about1.status = .running := rfl
set_option maxRecDepth 65536 in
theorem w_room : about1.hasRoom e0.platform room_1 = true :=
  launch0.hasRoom_least _ room_1 (by decide +kernel) (by decide +kernel) (by decide +kernel) (by decide +kernel) (by decide +kernel) (by decide +kernel)
theorem allAtoms_all (ts : List Jvm.Cond) (a : Array Jvm.Value) (st : Jvm.State) : (allAtoms ts).before a st = ts.all (fun c => c.before a st) := by
  induction ts with
  | nil => rfl
  | cons c t ih =>
    show (Jvm.Cond.and c (allAtoms t)).before a st = _
    rw [Jvm.Cond.before_and, ih, List.all_cons]
def words1 : List Jvm.Cond := Jvm.Cond.code x code maxLocals ret :: tables_1
/-- a 'code' word, met by the world's own term for the bytes: nothing is compared byte by byte -/
theorem code_word {y : MethodName} {bytes : ByteArray} {mx : Nat} {rt : Option FieldType} {a : Array Value} {s : State} {m : MethodId} {meth : Method} {c : Code} (h1 : s.methodNamed? y = some m) (h2 : s.vm.method? m = some meth) (h3 : meth.code = some c) (h4 : c.code = bytes)
    (h5 : (c.maxLocals == mx && c.exceptionTable.isEmpty && decide (c.maxStack ≤ mostOperands) && decide (meth.sig.returnType = rt) && !meth.locks && decide (parseMethodDescriptor y.desc = some meth.sig)) = true) : (Jvm.Cond.code y bytes mx rt).before a s = true := by
  simp only [Bool.and_eq_true, beq_iff_eq, Bool.not_eq_true', decide_eq_true_eq] at h5
  obtain ⟨⟨⟨⟨⟨g1, g2⟩, g3⟩, g4⟩, g5⟩, g6⟩ := h5
  simp [Cond.before, Cond.holds, Cond.value, h1, h2, h3, h4, g1, g2, g3, g4, g5, g6]
def isCode : Jvm.Cond → Bool
  | .code _ _ _ _ => true
  | _ => false
theorem all_split {L : List Jvm.Cond} {P : Jvm.Cond → Bool} (h1 : L.all (fun c => isCode c || P c) = true) (h2 : ∀ c ∈ L.filter isCode, P c = true) : L.all P = true := by
  refine List.all_eq_true.mpr fun c hc => ?_
  have h := List.all_eq_true.mp h1 c hc
  rcases Bool.eq_false_or_eq_true (isCode c) with hi | hi
  · exact h2 c (List.mem_filter.mpr ⟨hc, hi⟩)
  · simpa [hi] using h
set_option maxRecDepth 65536 in
theorem w_c0 : (Jvm.Cond.code x code maxLocals ret).before args0 about1 = true := code_word (m := ⟨1, 1⟩) (meth := k1m1) (c := k1c1) (by decide +kernel) rfl rfl rfl (by decide +kernel)
set_option maxRecDepth 65536 in
theorem w_c1 : (Jvm.Cond.code ({ cls := "java/lang/Integer", name := "valueOf", desc := "(I)Ljava/lang/Integer;" } : Jvm.MethodName) jdk_33_method_22_code (1 : Nat) (Option.some (Jvm.ClassFile.FieldType.object "java/lang/Integer"))).before args0 about1 = true := code_word (m := ⟨7, 0⟩) (meth := k7m0) (c := k7c0) (by decide +kernel) rfl rfl rfl (by decide +kernel)
set_option maxRecDepth 65536 in
theorem w_c2 : (Jvm.Cond.code ({ cls := "com/example/redbark/redbark/KeyArrays", name := "length", desc := "(Ljava/lang/Object;)I" } : Jvm.MethodName) prog_10_method_5_code (2 : Nat) (Option.some Jvm.ClassFile.FieldType.int)).before args0 about1 = true := code_word (m := ⟨9, 1⟩) (meth := k9m1) (c := k9c1) (by decide +kernel) rfl rfl rfl (by decide +kernel)
set_option maxRecDepth 65536 in
theorem w_c3 : (Jvm.Cond.code ({ cls := "java/lang/Integer", name := "<init>", desc := "(I)V" } : Jvm.MethodName) jdk_33_method_23_code (2 : Nat) (Option.none : Option Jvm.ClassFile.FieldType)).before args0 about1 = true := code_word (m := ⟨7, 1⟩) (meth := k7m1) (c := k7c1) (by decide +kernel) rfl rfl rfl (by decide +kernel)
set_option maxRecDepth 65536 in
theorem w_c4 : (Jvm.Cond.code ({ cls := "java/lang/Number", name := "<init>", desc := "()V" } : Jvm.MethodName) jdk_18_method_1_code (1 : Nat) (Option.none : Option Jvm.ClassFile.FieldType)).before args0 about1 = true := code_word (m := ⟨3, 0⟩) (meth := k3m0) (c := k3c0) (by decide +kernel) rfl rfl rfl (by decide +kernel)
set_option maxRecDepth 65536 in
theorem w_c5 : (Jvm.Cond.code ({ cls := "java/lang/Object", name := "<init>", desc := "()V" } : Jvm.MethodName) object_method_1_code (1 : Nat) (Option.none : Option Jvm.ClassFile.FieldType)).before args0 about1 = true := code_word (m := ⟨0, 0⟩) (meth := k0m0) (c := k0c0) (by decide +kernel) rfl rfl rfl (by decide +kernel)
def codes1 : List Jvm.Cond := [Jvm.Cond.code x code maxLocals ret, Jvm.Cond.code ({ cls := "java/lang/Integer", name := "valueOf", desc := "(I)Ljava/lang/Integer;" } : Jvm.MethodName) jdk_33_method_22_code (1 : Nat) (Option.some (Jvm.ClassFile.FieldType.object "java/lang/Integer")), Jvm.Cond.code ({ cls := "com/example/redbark/redbark/KeyArrays", name := "length", desc := "(Ljava/lang/Object;)I" } : Jvm.MethodName) prog_10_method_5_code (2 : Nat) (Option.some Jvm.ClassFile.FieldType.int), Jvm.Cond.code ({ cls := "java/lang/Integer", name := "<init>", desc := "(I)V" } : Jvm.MethodName) jdk_33_method_23_code (2 : Nat) (Option.none : Option Jvm.ClassFile.FieldType), Jvm.Cond.code ({ cls := "java/lang/Number", name := "<init>", desc := "()V" } : Jvm.MethodName) jdk_18_method_1_code (1 : Nat) (Option.none : Option Jvm.ClassFile.FieldType), Jvm.Cond.code ({ cls := "java/lang/Object", name := "<init>", desc := "()V" } : Jvm.MethodName) object_method_1_code (1 : Nat) (Option.none : Option Jvm.ClassFile.FieldType)]
set_option maxRecDepth 65536 in
theorem codes_eq : words1.filter isCode = codes1 := rfl
theorem w_codes : ∀ c ∈ words1.filter isCode, c.before args0 about1 = true := by
  rw [codes_eq]
  intro c hc
  simp only [codes1, List.mem_cons, List.not_mem_nil, or_false] at hc
  rcases hc with rfl | rfl | rfl | rfl | rfl | rfl
  · exact w_c0
  · exact w_c1
  · exact w_c2
  · exact w_c3
  · exact w_c4
  · exact w_c5
set_option maxRecDepth 65536 in
theorem w_t1 : (words1.take 24).all (fun c => isCode c || c.before args0 about1) = true := by decide +kernel
set_option maxRecDepth 65536 in
theorem w_t2 : (words1.drop 24).all (fun c => isCode c || c.before args0 about1) = true := by decide +kernel
theorem w_tables : (allAtoms (Jvm.Cond.code x code maxLocals ret :: tables_1)).before args0 about1 = true := by
  rw [allAtoms_all]
  show words1.all (fun c => c.before args0 about1) = true
  refine all_split ?_ w_codes
  rw [← List.take_append_drop 24 words1, List.all_append, w_t1, w_t2]
  rfl
set_option maxRecDepth 65536 in
theorem w_rest : rest_1_c.before args0 about1 = true := by decide +kernel
set_option maxRecDepth 65536 in
theorem w_case : (Jvm.Cond.and given_1 narrow_1).before args0 about1 = true := by decide +kernel
theorem w_applies : (headSpec (Jvm.Cond.code x code maxLocals ret :: tables_1) room_1).applies x e0.platform about1 = true :=
  (Spec.applies_iff w_frames).mpr ⟨w_running, w_runnable, w_alone, w_named, w_hears, w_ripe, w_room, w_tables⟩
theorem atStart : AtStart classFile x code maxLocals ret World_1 tables_1 room_1 Calls_1 rest_1 Pre_1 launch0 p0 e0 about1 theMethod args0 below0 :=
  ⟨lists_1, trivial, launch0.admits_env _ _ _, launch0.least_env, fairChoices_fair.cas, fairChoices_fair.clock, w_frames, w_args, w_heap, w_applies, trivial, w_rest, w_case⟩
end start1
theorem witness_1 : WitnessClaimed_1 := ⟨start1.p0, start1.e0, start1.about1, start1.theMethod, start1.args0, start1.below0, start1.atStart⟩
end Jvm.Pilot.@@N@@
